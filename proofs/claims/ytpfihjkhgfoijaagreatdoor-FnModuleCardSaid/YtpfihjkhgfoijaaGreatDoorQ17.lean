/- Contracts on floats: IsNaN, Abs, IsInf, CmpFloats, floatParts; Contracts of spec's floats: floatParts, bytesOf, digit, Power; Contracts of spec: bytesOf, digit, Power; Contract of spec.Int.Mul. -/
import Derived.Test.YtpfihjkhgfoijaaGreatDoorQ12
import Derived.Test.YtpfihjkhgfoijaaGreatDoorQ01
import Derived.Outline
set_option linter.unusedVariables false
set_option linter.unusedSimpArgs false
set_option maxRecDepth 100000
namespace Go.Proofs.YtpfihjkhgfoijaaGreatDoor
open Go.RowKit

theorem and_mask64 (x k : Nat) (hx : x < 18446744073709551616) (hk : k ≤ 64) : bits .and .u64 (x : Int) ((2 ^ k - 1 : Nat) : Int) = ((x % 2 ^ k : Nat) : Int) := by
  have h : 2 ^ k ≤ 2 ^ 64 := Nat.pow_le_pow_right (by omega) hk
  rw [u64_and_nat x _ hx (by omega), Nat.and_two_pow_sub_one_eq_mod]
theorem abs64 (u : Nat) (hu : u < 18446744073709551616) : bits .andNot .u64 (u : Int) 9223372036854775808 = ((u % 9223372036854775808 : Nat) : Int) := by
  have := u64_andNot_nat u 9223372036854775808 hu (by omega)
  rw [show ((9223372036854775808 : Nat) : Int) = 9223372036854775808 from rfl] at this
  rw [this, show 18446744073709551615 - 9223372036854775808 = 2 ^ 63 - 1 by decide, Nat.and_two_pow_sub_one_eq_mod]
theorem c81 (u : Nat) (w : World) : Calls Tryz.prog 81 #[.float .f64 u] w fun e w' => e = .returned (.bool (Ieee.double.order u u != some .eq)) ∧ w = w' := by
  go_enter Tryz.func81, Tryz.ntmps81
  go_wp2_with fail
  go_ret
  exact ⟨rfl, rfl⟩
theorem c164 (u : Nat) (w : World) (hu : u < 18446744073709551616) : Calls Tryz.prog 164 #[.float .f64 u] w fun e w' => e = .returned (.float .f64 (u % 9223372036854775808)) ∧ w = w' := by
  have h3 := abs64 u hu
  generalize u % 9223372036854775808 = m at *
  have h1 := fun W => r102 u W
  have h2 := fun W => r109 m W
  go_enter Tryz.func164, Tryz.ntmps164
  go_wp2_with fail
  go_ret
  exact ⟨rfl, rfl⟩
theorem neg_fin {u : Nat} (h : fFin u) : fFin (Op.negFloat .f64 u) := by
  unfold Op.negFloat
  rw [show 2 ^ (FloatKind.f64.format.exponentBits + FloatKind.f64.format.fractionBits) = 9223372036854775808 from rfl]
  unfold fFin fE at h ⊢
  have e : (u ^^^ 9223372036854775808) / 4503599627370496 % 2048 = u / 4503599627370496 % 2048 := by
    have h1 : (u ^^^ 9223372036854775808) / 4503599627370496 = (u / 4503599627370496) ^^^ 2048 := by
      have := @Nat.xor_div_two_pow u 9223372036854775808 52
      simpa using this
    rw [h1]
    have h2 := @Nat.xor_mod_two_pow (u / 4503599627370496) 2048 11
    simpa using h2
  rw [e]; exact h
def InfPost (u : Nat) (s : Int) (w : World) (e : Ending) (w' : World) : Prop := ∃ b, e = .returned (.bool b) ∧ (fFin u → b = false) ∧ (s = 0 → b = false → Ieee.double.order u u = some .eq → fFin u) ∧ w = w'
theorem c147 (u : Nat) (s : Int) (w : World) (hu : u < 18446744073709551616) : Calls Tryz.prog 147 #[.float .f64 u, .int .i64 s] w (InfPost u s w) := by
  rcases (by omega : s = 0 ∨ s < 0 ∨ 0 < s) with hs | hs | hs
  · subst hs
    have h := c164 u w hu
    have hf : fFin u → (Ieee.double.order (u % 9223372036854775808) 9218868437227405311 == some .gt) = false := by
      intro hf
      have : fFin (u % 9223372036854775808) := by unfold fFin fE at hf ⊢; omega
      rw [beq_eq_false_iff_ne]; exact (ord_max this).1
    have hg : (Ieee.double.order (u % 9223372036854775808) 9218868437227405311 == some .gt) = false → Ieee.double.order u u = some .eq → fFin u := by
      intro h1 h2
      apply Classical.byContradiction
      intro hc
      rw [beq_eq_false_iff_ne] at h1
      have hc' : ¬ fFin (u % 9223372036854775808) := by unfold fFin fE at hc ⊢; omega
      have hself : Ieee.double.order (u % 9223372036854775808) (u % 9223372036854775808) = some .eq := by
        rcases read_inf hc with ⟨s, e⟩ | ⟨s, t, e⟩
        · have : Ieee.double.read (u % 9223372036854775808) = .infinity false := by
            have e1 : Ieee.double.signWeight = 9223372036854775808 := by decide
            unfold Ieee.Format.read at e ⊢
            simp only [e1] at e ⊢
            have hz : (u % 9223372036854775808) / 9223372036854775808 = 0 := Nat.div_eq_of_lt (Nat.mod_lt _ (by omega))
            rw [Nat.mod_mod, hz]
            split at e
            · cases e
            · split at e
              · cases e
              · split at e
                · rename_i n1 n2 n3
                  rw [if_neg n1, if_neg n2, if_pos n3]; rfl
                · cases e
          unfold Ieee.Format.order
          rw [this]; rfl
        · unfold Ieee.Format.order at h2
          rw [e] at h2
          simp [Ieee.Datum.order] at h2
      refine hc' (fin_of hself h1 ?_)
      intro h3
      have : (Ieee.double.read (u % 9223372036854775808)).neg = false := by
        have e1 : Ieee.double.signWeight = 9223372036854775808 := by decide
        unfold Ieee.Format.read
        simp only [e1]
        have hz : (u % 9223372036854775808) / 9223372036854775808 = 0 := Nat.div_eq_of_lt (Nat.mod_lt _ (by omega))
        rw [hz]
        split
        · rfl
        · split
          · rfl
          · split <;> rfl
      rcases read_inf hc' with ⟨s, e⟩ | ⟨s, t, e⟩
      · rw [e] at this
        have hs : s = false := this
        subst hs
        unfold Ieee.Format.order at h3
        rw [e, read_min] at h3
        simp [Ieee.Datum.order] at h3
      · unfold Ieee.Format.order at h3
        rw [e, read_min] at h3
        simp [Ieee.Datum.order] at h3
    have HF := Lib.hid hf
    have HG := Lib.hid hg
    clear hf hg
    generalize u % 9223372036854775808 = m at *
    go_enter Tryz.func147, Tryz.ntmps147
    go_wp2_with fail
    refine h.mono ?_
    rintro e w1 ⟨rfl, rfl⟩
    go_wp2_with fail
    go_ret
    exact ⟨_, rfl, HF.out, fun _ => HG.out, rfl⟩
  · have hf : fFin u → (Ieee.double.order (Op.negFloat .f64 u) 9218868437227405311 == some .gt) = false := by
      intro hf
      rw [beq_eq_false_iff_ne]; exact (ord_max (neg_fin hf)).1
    have HF := Lib.hid hf
    have hn : ∀ W, (Op.unary .neg (.float .f64 u)).run Tryz.prog W = Result.ok (.float .f64 (Op.negFloat .f64 u)) W := fun W => rfl
    generalize Op.negFloat .f64 u = m at *
    have q : (s == 0) = false := by rw [beq_eq_false_iff_ne]; omega
    clear hf
    go_enter Tryz.func147, Tryz.ntmps147
    go_wp2_with fail
    go_ret
    exact ⟨_, rfl, HF.out, fun h => absurd h (by omega), rfl⟩
  · have hf : fFin u → (Ieee.double.order u 9218868437227405311 == some .gt) = false := by
      intro hf
      rw [beq_eq_false_iff_ne]; exact (ord_max hf).1
    have HF := Lib.hid hf
    have q : (s == 0) = false := by rw [beq_eq_false_iff_ne]; omega
    have q2 : ¬ s < 0 := by omega
    clear hf
    go_enter Tryz.func147, Tryz.ntmps147
    go_wp2_with fail
    go_ret
    exact ⟨_, rfl, HF.out, fun h => absurd h (by omega), rfl⟩
end Go.Proofs.YtpfihjkhgfoijaaGreatDoor
namespace Go.Proofs.YtpfihjkhgfoijaaGreatDoor
open Go.RowKit

theorem c165 (u : Nat) (w : World) (hu : u < 18446744073709551616) : Calls Tryz.prog 165 #[.float .f64 u] w fun e w' => e = .returned (.tuple #[.bool (fS u), .int .u64 (fM u : Nat), .int .i64 (if fE u = 0 then -1074 else (fE u : Int) - 1075)]) ∧ w = w' := by
  have h1 := fun W => r102 u W
  have a1 : bits .and .u64 ((u : Int) / 4503599627370496) 2047 = ((fE u : Nat) : Int) := by
    have := and_mask64 (u / 4503599627370496) 11 (by omega) (by omega)
    rw [show ((u : Int) / 4503599627370496) = ((u / 4503599627370496 : Nat) : Int) from by omega]
    exact this
  have a2 : bits .and .u64 (u : Int) 4503599627370495 = ((u % 4503599627370496 : Nat) : Int) := and_mask64 u 52 hu (by omega)
  have a3 : ((u : Int) / 9223372036854775808 == 1) = fS u := by
    unfold fS
    by_cases hc : u / 9223372036854775808 % 2 = 1
    · rw [decide_eq_true hc, beq_iff_eq]; omega
    · rw [decide_eq_false hc, beq_eq_false_iff_ne]; omega
  have a4 : bits .or .u64 ((u % 4503599627370496 : Nat) : Int) 4503599627370496 = ((u % 4503599627370496 + 4503599627370496 : Nat) : Int) := by
    have := or_u64 (u % 4503599627370496) 1 52 (Nat.mod_lt _ (by omega)) (by have := Nat.mod_lt u (show 0 < 4503599627370496 by omega); omega) (by omega)
    simpa using this
  have b1 := fE_le u
  have hM : Hid (fM u = if fE u = 0 then u % 4503599627370496 else u % 4503599627370496 + 4503599627370496) := rfl
  have b2 := Nat.mod_lt u (show 0 < 4503599627370496 by omega)
  by_cases h0 : fE u = 0
  · have hM' : Hid (fM u = u % 4503599627370496) := by rw [hM.out, if_pos h0]; rfl
    rw [if_pos h0]
    have a1' : bits .and .u64 ((u : Int) / 4503599627370496) 2047 = 0 := by rw [a1, h0]; rfl
    clear h0 hM a1
    generalize fM u = M at *
    generalize fS u = S at *
    generalize u % 4503599627370496 = m at *
    go_enter Tryz.func165, Tryz.ntmps165
    go_wp2_with fail
    go_ret3
    exact ⟨by rw [hM'.out]; rfl, rfl⟩
  · have hM' : Hid (fM u = u % 4503599627370496 + 4503599627370496) := by rw [hM.out, if_neg h0]; rfl
    rw [if_neg h0]
    have h0' : ((fE u : Nat) : Int) ≠ 0 := by omega
    have q0 : (((fE u : Nat) : Int) == 0) = false := by rw [beq_eq_false_iff_ne]; exact h0'
    clear h0 hM h0'
    generalize fE u = E at *
    generalize fM u = M at *
    generalize fS u = S at *
    generalize u % 4503599627370496 = m at *
    go_enter Tryz.func165, Tryz.ntmps165
    go_wp2_with fail
    go_ret3
    exact ⟨by rw [hM'.out]; rfl, rfl⟩
end Go.Proofs.YtpfihjkhgfoijaaGreatDoor
namespace Go.Proofs.YtpfihjkhgfoijaaGreatDoor
open Go.RowKit

theorem bset {zs : List Nat} {b v i : Nat} (h : b ∈ zs.set i v) (hz : ∀ b ∈ zs, b < 256) (hv : v < 256) : b < 256 := by
  rcases List.mem_or_eq_of_mem_set h with h | h
  · exact hz b h
  · rw [h]; exact hv
set_option maxHeartbeats 1000000 in
theorem c166 (u : Nat) (w : World) (hu : u < 18446744073709551616) : Calls Tryz.prog 166 #[.int .u64 (u : Int)] w fun e w' => ∃ zs, e = .returned (.slice (some ⟨w.heap.size, 0, none⟩) 8 8) ∧ BBlk w' w.heap.size zs ∧ zs.length = 8 ∧ (∀ b ∈ zs, b < 256) ∧ bval zs = u ∧ Below w.heap.size w w' := by
  have hmk := run_make5 8 8 (by omega) (by omega) w
  rw [show ((8 : Nat) : Int) = 8 from rfl] at hmk
  have b1 : Below w.heap.size w (w.alloc (.cells (brow (List.replicate 8 0)) 5)) := below_alloc' (Below.refl _ _) _
  have r1 : BBlk (w.alloc (.cells (brow (List.replicate 8 0)) 5)) w.heap.size (List.replicate 8 0) := RowB.new w _ _
  have R1 := Lib.hid r1
  clear r1
  go_enter Tryz.func166, Tryz.ntmps166
  go_wp2_with fail
  clear hmk
  go_loopw [0, 4] (fun vu vi wr => ∃ (k d : Nat) (zs : List Nat), k ≤ 8 ∧ vu = .int .u64 (d : Int) ∧ vi = .int .i64 (7 - (k : Int)) ∧ d < 18446744073709551616 ∧ Hid (d = u / 256 ^ k) ∧ BBlk wr w.heap.size zs ∧ Hid (zs.length = 8) ∧ (∀ b ∈ zs, b < 256) ∧ Hid (bval (zs.drop (8 - k)) = u % 256 ^ k) ∧ Below w.heap.size w wr) (fun _ vi _ => (intOf vi + 1).toNat)
  case atStart => exact ⟨0, u, _, by omega, rfl, rfl, hu, by show _ = _; simp, R1.out, by show _ = _; simp, by intro b hb; rw [List.eq_of_mem_replicate hb]; omega, by show _ = _; simp [bval, Nat.mod_one], b1⟩
  case round =>
    obtain ⟨k, d, zs, hk, rfl, rfl, hd, hdx, hb, hzl, hzr, hv, hB⟩ := hrel
    by_cases hk8 : k < 8
    · have p1 : ((7 : Int) - (k : Int)).toNat = 7 - k := by omega
      have p2 : (0 : Int) ≤ (7 : Int) - (k : Int) := by omega
      have p3 : (7 : Int) - (k : Int) < 8 := by omega
      have hcl := hb.cell (i := 7 - k) (by rw [hzl.out]; omega)
      have hfr := RowB.free hb (7 - k)
      go_wp2_with fail
      go_roundw
      case rel =>
        have hD := Lib.hid (bval_drop_set zs (7 - k) (d % 256) (by rw [hzl.out]; omega))
        refine ⟨k + 1, d / 256, zs.set (7 - k) (d % 256), by omega, by go_num, by go_num, by omega, ?_, hb.set (7 - k) (d % 256), by show _ = _; rw [List.length_set]; exact hzl.out, fun b hb => bset hb hzr (by omega), ?_, below_set' hB (by show _ ≤ w.heap.size; omega) _⟩
        · show _ = _; rw [hdx.out, Nat.div_div_eq_div_mul, ← Nat.pow_succ]
        · show _ = _
          rw [show 8 - (k + 1) = 7 - k from by omega, hD.out, show 7 - k + 1 = 8 - k from by omega, hv.out, hzl.out, show 8 - (8 - k) = k from by omega, hdx.out, Nat.mod_pow_succ, Nat.mul_comm]
          omega
      case measure => simp [intOf]; omega
    · have hk8 : k = 8 := by omega
      subst hk8
      have hv' : bval zs = u := by
        have := hv.out
        rwa [Nat.sub_self, List.drop_zero, Nat.mod_eq_of_lt (by simpa using hu)] at this
      have HV := Lib.hid hv'
      clear hv hv'
      go_wp2_with fail
      go_ret
      exact ⟨zs, rfl, hb, hzl.out, hzr, HV.out, hB⟩
theorem rev_getD (bs : List Nat) (i : Nat) (h : i < bs.length) : bs.reverse.getD i 0 = bs.getD (bs.length - 1 - i) 0 := by
  rw [List.getD_eq_getElem?_getD, List.getElem?_reverse h, ← List.getD_eq_getElem?_getD]
theorem c186 (A : Option Addr) (n c : Nat) (bs : List Nat) (i : Nat) (w : World) (h : ByteR w A n c bs) (hn : n ≤ 100000) (hi : i ≤ 100000) :
    Calls Tryz.prog 186 #[.slice A n c, .int .i64 (i : Int)] w fun e w' => e = .returned (.int .i64 (bs.reverse.getD i 0 : Nat)) ∧ w = w' := by
  have hl := Lib.hid h.len
  have hr := h.rng
  by_cases hin : n ≤ i
  · have e : bs.reverse.getD i 0 = 0 := by
      rw [List.getD_eq_getElem?_getD, List.getElem?_eq_none (by rw [List.length_reverse, hl.out]; omega)]; rfl
    rw [e]
    clear h e
    go_enter Tryz.func186, Tryz.ntmps186
    go_wp2_with fail
    go_ret
    exact ⟨rfl, rfl⟩
  · obtain ⟨g, o, rfl, hc⟩ := h.cells.resolve_left (by omega)
    have hci := hc (n - 1 - i) (by omega)
    have e := rev_getD bs i (by rw [hl.out]; omega)
    rw [hl.out] at e
    rw [e]
    have hx := byte_lt hr (n - 1 - i)
    generalize bs.getD (n - 1 - i) 0 = X at *
    have p1 : ((n : Int) - 1 - (i : Int)).toNat = n - 1 - i := by omega
    have p2 : (0 : Int) ≤ (n : Int) - 1 - (i : Int) := by omega
    have p3 : (n : Int) - 1 - (i : Int) < (n : Int) := by omega
    have p4 : ¬ ((n : Int) ≤ (i : Int)) := by omega
    clear h e hc
    go_enter Tryz.func186, Tryz.ntmps186
    go_wp2_with fail
    go_ret
    exact ⟨rfl, rfl⟩
theorem ByteA.of_blk {w : World} {g c : Nat} {zs : List Nat} (h : BBlk w g zs) (hr : ∀ b ∈ zs, b < 256) (hc : zs.length ≤ c) : ByteA w (some ⟨g, 0, none⟩) zs.length c zs :=
  ⟨rfl, hc, hr, .inr ⟨⟨g, 0, none⟩, rfl, fun i hi => by rw [add_at]; exact h.cell hi⟩⟩
theorem bval_pow (b n : Nat) : bval (b :: List.replicate n 0) = b * 256 ^ n := by
  rw [bval_cons, List.length_replicate]
  have : bval (List.replicate n 0) = 0 := by
    induction n with
    | zero => rfl
    | succ n ih => rw [List.replicate_succ, bval_cons, ih]; omega
  omega
set_option maxHeartbeats 1000000 in
theorem c179 (n : Nat) (w : World) (hn : n ≤ 2000) : Calls Tryz.prog 179 #[.int .i64 (n : Int)] w fun e w' => ∃ B m d bs, e = .returned (.agg #[.bool false, .slice B m d]) ∧ Sits w.heap.size (fun W => ByteR W B m d bs) w' ∧ Cut bs ∧ bval bs = 2 ^ n ∧ Below w.heap.size w w' := by
  have hmk := run_make5 (n / 8 + 1) (n / 8 + 1) (by omega) (by omega) (w.alloc (.cells #[.bool false, .slice none 0 0] 92))
  rw [alloc_size] at hmk
  rw [show ((n / 8 + 1 : Nat) : Int) = (n : Int) / 8 + 1 from by omega] at hmk
  have b1 : Below w.heap.size w (w.alloc (.cells #[.bool false, .slice none 0 0] 92)) := below_alloc' (Below.refl _ _) _
  have r1 := RowB.new w #[.bool false, .slice none 0 0] 92
  have hsz := alloc_size w (.cells #[.bool false, .slice none 0 0] 92)
  obtain ⟨w1, hw1⟩ : ∃ w1, w.alloc (.cells #[.bool false, .slice none 0 0] 92) = w1 := ⟨_, rfl⟩
  rw [hw1] at hmk b1 r1 hsz
  obtain ⟨w2, hw2⟩ : ∃ w2, w1.alloc (.cells (brow (List.replicate (n / 8 + 1) 0)) 5) = w2 := ⟨_, rfl⟩
  have b2 : Below w.heap.size w w2 := by rw [← hw2]; exact below_alloc' b1 _
  have r2 : RowB w2 w.heap.size #[.bool false, .slice none 0 0] 92 := by rw [← hw2]; exact r1.alloc _
  have q2 : BBlk w2 (w.heap.size + 1) (List.replicate (n / 8 + 1) 0) := by
    have := RowB.new w1 (brow (List.replicate (n / 8 + 1) 0)) 5
    rw [hw2, hsz] at this; exact this
  rw [hw2] at hmk
  have hcl := q2.cell (i := 0) (by simp)
  have hfr := RowB.free q2 0
  have q3 := q2.set 0 (2 ^ (n % 8))
  have r3 := r2.setNe ⟨w.heap.size + 1, 0, none⟩ (.int .u8 ((2 ^ (n % 8) : Nat) : Int)) (by simp)
  have b3 : Below w.heap.size w (w2.setCell ⟨w.heap.size + 1, 0, none⟩ (.int .u8 ((2 ^ (n % 8) : Nat) : Int))) := below_set' b2 (by simp) _
  have hp : 2 ^ (n % 8) < 256 := by
    have : 2 ^ (n % 8) ≤ 2 ^ 7 := Nat.pow_le_pow_right (by omega) (by omega)
    omega
  have hzs : (List.replicate (n / 8 + 1) 0).set 0 (2 ^ (n % 8)) = 2 ^ (n % 8) :: List.replicate (n / 8) 0 := by rw [List.replicate_succ, List.set_cons_zero]
  rw [hzs] at q3
  have hlen : (2 ^ (n % 8) :: List.replicate (n / 8) 0).length = n / 8 + 1 := by simp
  have HA := Lib.hid (c39 false _ _ _ _ _ (ByteA.of_blk (c := n / 8 + 1) q3 (by
    intro b hb
    rcases List.mem_cons.1 hb with h | h
    · rw [h]; exact hp
    · rw [List.eq_of_mem_replicate h]; omega) (by rw [hlen]; omega)) (by rw [hlen]; omega))
  rw [hlen] at HA
  have hbv : bval (2 ^ (n % 8) :: List.replicate (n / 8) 0) = 2 ^ n := by
    rw [bval_pow, show 256 = 2 ^ 8 from rfl, ← Nat.pow_mul, ← Nat.pow_add]; congr 1; omega
  have HBV := Lib.hid hbv
  have R3 := Lib.hid r3
  have B3 := Lib.hid b3
  have s0 : (2 : Int) ^ (n % 8) % 256 = ((2 ^ (n % 8) : Nat) : Int) := by
    rw [show ((2 : Int) ^ (n % 8)) = ((2 ^ (n % 8) : Nat) : Int) from by rw [Int.natCast_pow]; rfl]
    exact (show ∀ P : Nat, P < 256 → ((P : Nat) : Int) % 256 = (P : Int) from fun P h => by omega) _ hp
  have S0 := Lib.hid s0
  clear s0
  clear hbv r3 b3 q3 r2 r1 hzs hlen
  go_enter Tryz.func179, Tryz.ntmps179
  go_wp2_with fail
  rw [S0.out]
  refine HA.out.mono ?_
  rintro e w4 ⟨B, m, d, rfl, hS, hB⟩
  have r4 := R3.out.below hB
  have b4 := below_trans' B3.out hB
  obtain ⟨f0, g0, f1, g1⟩ := facts2 (.bool false) r4
  have hr := Lib.hid (set2 (.bool false) (.slice B m d) r4)
  have l4 := b2.size
  have l5 : w2.heap.size = (w2.setCell ⟨w.heap.size + 1, 0, none⟩ (.int .u8 ((2 ^ (n % 8) : Nat) : Int))).heap.size := by simp [World.setCell]
  have HS := Lib.hid (hS.grown (g := w.heap.size) (set2_grown w4 _ (.bool false) (.slice B m d)) (by rw [← l5]; have := q2.lt; omega))
  have l6 := q2.lt
  clear hS R3 HA
  go_wp2_with fail
  refine bodyPost_ret (ret_row hr.out rfl _ _ rfl Tryz.underlying92 rfl i92) rfl ?_
  exact ⟨B, m, d, _, rfl, HS.out.mono (by rw [← l5]; omega), cutL_cut _, by rw [cutL_bval]; exact HBV.out, below_grown' b4 (set2_grown _ _ _ _) (Nat.le_refl _)⟩
end Go.Proofs.YtpfihjkhgfoijaaGreatDoor
namespace Go.Proofs.YtpfihjkhgfoijaaGreatDoor
open Go.RowKit

@[irreducible] def irow (xs : List Nat) : Array Value := (xs.map fun (x : Nat) => Value.int .i64 (x : Int)).toArray
theorem irow_of (xs : List Nat) : irow xs = (xs.map fun (x : Nat) => Value.int .i64 (x : Int)).toArray := by unfold irow; rfl
theorem irow_get {xs : List Nat} {i : Nat} (h : i < xs.length) : (irow xs)[i]? = some (.int .i64 ((xs.getD i 0 : Nat) : Int)) := by
  rw [irow_of]; simp [h]
theorem irow_set (xs : List Nat) (i : Nat) (v : Nat) : (irow xs).setIfInBounds i (.int .i64 (v : Int)) = irow (xs.set i v) := by
  rw [irow_of, irow_of]; simp [List.map_set]
/-- block g holds the ints zs -/
def IBlk (w : World) (g : Nat) (zs : List Nat) : Prop := RowB w g (irow zs) 3
theorem IBlk.cell {w : World} {g : Nat} {zs : List Nat} (h : IBlk w g zs) {i : Nat} (hi : i < zs.length) : w.cell? ⟨g, i, none⟩ = some (.int .i64 ((zs.getD i 0 : Nat) : Int)) := RowB.cell h i _ (irow_get hi)
theorem IBlk.set {w : World} {g : Nat} {zs : List Nat} (h : IBlk w g zs) (i v : Nat) : IBlk (w.setCell ⟨g, i, none⟩ (.int .i64 (v : Int))) g (zs.set i v) := RowB.set h i _ _ (irow_set zs i v)
theorem info3 : (Tryz.prog.info? 3).map (fun i => (i.zero, i.size, i.bytes)) = some (some (.int .i64 0), 1, 8) := by kernel_rfl
theorem irow_replicate (n : Nat) : irow (List.replicate n 0) = madeCells #[.int .i64 0] n := by
  rw [irow_of]
  apply Array.ext'
  rw [toList_madeCells_one]
  simp
theorem run_make3 (n c : Nat) (h : n ≤ c) (hc : c ≤ 4611686018427) (w : World) :
   (Instr.makeSlice 196 (.int .i64 (n : Int)) (.int .i64 (c : Int))).run Tryz.prog w = .ok (.slice (some ⟨w.heap.size, 0, none⟩) n c) (w.alloc (.cells (irow (List.replicate c 0)) 3)) := by
  obtain ⟨i, hi, hzz⟩ := Option.map_eq_some_iff.1 info3
  simp only [Prod.mk.injEq] at hzz
  obtain ⟨hz, hs, hb⟩ := hzz
  have := run_make (P := Tryz.prog) w 196 3 i (.int .i64 0) Tryz.underlying196 hi hz .i64 .i64 n c (by omega) (by omega) (by rw [hb]; omega) (by omega)
  rw [this, irow_replicate]
  simp [hs, Value.cells]
theorem bval_lv (bs : List Nat) : bval bs = lv bs.reverse := by
  induction bs with
  | nil => rfl
  | cons b bs ih => rw [bval_cons, List.reverse_cons, lv_append, ih, List.length_reverse]; simp [lv]; rw [Nat.mul_comm]; omega
theorem rev_lt {bs : List Nat} (h : ∀ b ∈ bs, b < 256) : ∀ b ∈ bs.reverse, b < 256 := fun b hb => h b (List.mem_reverse.1 hb)
theorem ByteR.drewN {w : World} {A : Option Addr} {n c : Nat} {bs : List Nat} (h : ByteR w A n c bs) (q : Nat) : ByteR (w.drewN q) A n c bs := h.below (below_drewN' (Below.refl _ _) q)
set_option maxHeartbeats 4000000 in
theorem c178 (n1 n2 : Bool) (A B : Option Addr) (n m c d : Nat) (us vs : List Nat) (w : World) (ha : ByteR w A n c us) (hb : ByteR w B m d vs) (hn : n ≤ 300) (hm : m ≤ 300) :
    Calls Tryz.prog 178 #[.agg #[.bool n1, .slice A n c], .agg #[.bool n2, .slice B m d]] w fun e w' => ∃ D q f bs, e = .returned (.agg #[.bool ((n1 != n2) && decide (0 < bs.length)), .slice D q f]) ∧ Sits w.heap.size (fun W => ByteR W D q f bs) w' ∧ Cut bs ∧ bval bs = bval us * bval vs ∧ Below w.heap.size w w' := by
  obtain ⟨w1, hw1, b1, r0, r1, r2, hsz⟩ : ∃ w1, (((w.alloc (.cells #[.bool n1, .slice A n c] 92)).alloc (.cells #[.bool n2, .slice B m d] 92)).alloc (.cells #[.bool false, .slice none 0 0] 92)) = w1 ∧ Below w.heap.size w w1 ∧
      RowB w1 w.heap.size #[.bool n1, .slice A n c] 92 ∧ RowB w1 (w.heap.size + 1) #[.bool n2, .slice B m d] 92 ∧ RowB w1 (w.heap.size + 1 + 1) #[.bool false, .slice none 0 0] 92 ∧ w1.heap.size = w.heap.size + 1 + 1 + 1 :=
    ⟨_, rfl, below_alloc' (below_alloc' (below_alloc' (Below.refl _ _) _) _) _, ((RowB.new w _ _).alloc _).alloc _, by
      have := RowB.new (w.alloc (.cells #[.bool n1, .slice A n c] 92)) #[.bool n2, .slice B m d] 92
      rw [alloc_size] at this; exact this.alloc _, by
      have := RowB.new ((w.alloc (.cells #[.bool n1, .slice A n c] 92)).alloc (.cells #[.bool n2, .slice B m d] 92)) #[.bool false, .slice none 0 0] 92
      rw [alloc_size, alloc_size] at this; exact this, by rw [alloc_size, alloc_size, alloc_size]⟩
  have e1 := r0.cell 1 _ rfl
  have y1 := r1.cell 1 _ rfl
  have hmk := run_make3 (n + m + 1) (n + m + 1) (by omega) (by omega) w1
  rw [show ((n + m + 1 : Nat) : Int) = (n : Int) + (m : Int) + 1 from by omega, hsz] at hmk
  obtain ⟨w2, hw2⟩ : ∃ w2, w1.alloc (.cells (irow (List.replicate (n + m + 1) 0)) 3) = w2 := ⟨_, rfl⟩
  rw [hw2] at hmk
  have b2 : Below w.heap.size w w2 := by rw [← hw2]; exact below_alloc' b1 _
  have q2 : IBlk w2 (w.heap.size + 1 + 1 + 1) (List.replicate (n + m + 1) 0) := by
    have := RowB.new w1 (irow (List.replicate (n + m + 1) 0)) 3
    rw [hw2, hsz] at this; exact this
  have r0' : RowB w2 w.heap.size #[.bool n1, .slice A n c] 92 := by rw [← hw2]; exact r0.alloc _
  have r1' : RowB w2 (w.heap.size + 1) #[.bool n2, .slice B m d] 92 := by rw [← hw2]; exact r1.alloc _
  have r2' : RowB w2 (w.heap.size + 1 + 1) #[.bool false, .slice none 0 0] 92 := by rw [← hw2]; exact r2.alloc _
  have hsz2 : w2.heap.size = w.heap.size + 1 + 1 + 1 + 1 := by rw [← hw2, alloc_size, hsz]
  have HR := Lib.hid (And.intro r0' (And.intro r1' r2'))
  have Q2 := Lib.hid q2
  have HA := Lib.hid (ha.below b2)
  have HB := Lib.hid (hb.below b2)
  have HLa := Lib.hid ha.len
  have HLb := Lib.hid hb.len
  have hra := Lib.hid (rev_lt ha.rng)
  have hrb := Lib.hid (rev_lt hb.rng)
  have hE : Hid (bval us * bval vs = lv us.reverse * lv vs.reverse) := by show _ = _; rw [bval_lv, bval_lv]
  have hAl : n = 0 ∨ ∃ g o, A = some ⟨g, o, none⟩ ∧ g < w.heap.size := by
    rcases ha.cells with h | ⟨g, o, e, h⟩
    · exact .inl h
    · by_cases h0 : n = 0
      · exact .inl h0
      · exact .inr ⟨g, o, e, cell_lt (h 0 (by omega))⟩
  have hBl : m = 0 ∨ ∃ g o, B = some ⟨g, o, none⟩ ∧ g < w.heap.size := by
    rcases hb.cells with h | ⟨g, o, e, h⟩
    · exact .inl h
    · by_cases h0 : m = 0
      · exact .inl h0
      · exact .inr ⟨g, o, e, cell_lt (h 0 (by omega))⟩
  have HALL : Hid (∀ wr, w2.grownBy wr (some (w.heap.size + 1 + 1 + 1)) → ByteR wr A n c us ∧ ByteR wr B m d vs) := fun wr hG => by
    constructor
    · exact ⟨HA.out.len, HA.out.le, HA.out.rng, by
        rcases HA.out.cells with h | ⟨g, o, e, h⟩
        · exact .inl h
        · rcases hAl with h0 | ⟨g', o', e', hl⟩
          · exact .inl h0
          · rw [e] at e'; cases e'
            exact .inr ⟨g, o, e, fun i hi => grown_cell hG (h i hi) (by show w.heap.size + 1 + 1 + 1 ≠ g; omega)⟩⟩
    · exact ⟨HB.out.len, HB.out.le, HB.out.rng, by
        rcases HB.out.cells with h | ⟨g, o, e, h⟩
        · exact .inl h
        · rcases hBl with h0 | ⟨g', o', e', hl⟩
          · exact .inl h0
          · rw [e] at e'; cases e'
            exact .inr ⟨g, o, e, fun i hi => grown_cell hG (h i hi) (by show w.heap.size + 1 + 1 + 1 ≠ g; omega)⟩⟩
  clear ha hb hAl hBl q2 r0' r1' r2' hw2 HA HB r0 r1 r2
  generalize hua : us.reverse = a at *
  generalize hvb : vs.reverse = b at *
  have hal : Hid (a.length = n) := by show _ = _; rw [← hua, List.length_reverse, HLa.out]
  have hbl : Hid (b.length = m) := by show _ = _; rw [← hvb, List.length_reverse, HLb.out]
  have HUA := Lib.hid hua
  have HVB := Lib.hid hvb
  clear hua hvb
  go_enter Tryz.func178, Tryz.ntmps178
  go_wp2_with fail
  clear hw1 hmk e1 y1
  go_loopw [7] (fun v7 wr => ∃ (i : Nat) (ds : List Nat), i ≤ n ∧ v7 = .int .i64 (i : Int) ∧ IBlk wr (w.heap.size + 1 + 1 + 1) ds ∧ Hid (ds.length = n + m + 1) ∧ (∀ d ∈ ds, d < 256) ∧ Hid (lv ds = lv (a.take i) * lv b) ∧ w2.grownBy wr (some (w.heap.size + 1 + 1 + 1))) (fun v7 _ => n - (intOf v7).toNat)
  case atStart => exact ⟨0, _, by omega, rfl, Q2.out, by show _ = _; simp, (by intro x hx; rw [List.eq_of_mem_replicate hx]; omega), by show _ = _; rw [lv_zeros]; simp [lv], grown_refl _ _⟩
  case round =>
    obtain ⟨i, ds, hi, rfl, hb, hdl, hdr, hv, hG⟩ := hrel
    obtain ⟨wo, rfl⟩ : ∃ wo : World, wo = wr := ⟨_, rfl⟩
    have R0 := Lib.hid (HR.out.1.grown hG (by omega))
    have e1 := R0.out.cell 1 _ rfl
    by_cases hlt : i < n
    · have q1 : (i : Int) < (n : Int) := by omega
      go_wp2_with fail
      clear e1
      go_loopw [8, 9] (fun v8 v9 wr => ∃ (k cy : Nat) (ds : List Nat), k ≤ m + 1 ∧ cy ≤ 255 ∧ v8 = .int .i64 (cy : Int) ∧ v9 = .int .i64 (k : Int) ∧ IBlk wr (w.heap.size + 1 + 1 + 1) ds ∧ Hid (ds.length = n + m + 1) ∧ (∀ d ∈ ds, d < 256) ∧ Hid (lv ds + cy * 256 ^ (i + k) = lv (a.take i) * lv b + a.getD i 0 * 256 ^ i * lv (b.take k)) ∧ w2.grownBy wr (some (w.heap.size + 1 + 1 + 1))) (fun _ v9 _ => m + 1 - (intOf v9).toNat)
      case atStart => exact ⟨0, 0, ds, by omega, by omega, rfl, rfl, hb, hdl, hdr, by show _ = _; simp [lv, hv.out], hG⟩
      case round =>
        obtain ⟨k, cy, ds, hk, hcy, rfl, rfl, hb, hdl, hdr, hv, hG⟩ := hrel
        have R0 := Lib.hid (HR.out.1.grown hG (by omega))
        have R1 := Lib.hid (HR.out.2.1.grown hG (by omega))
        have y1 := R1.out.cell 1 _ rfl
        by_cases hgo : k < m ∨ 0 < cy
        · have hkm : k ≤ m := by
            rcases hgo with h | h
            · omega
            · by_cases h' : k < m
              · omega
              · have := mul_carry hra.out hrb.out (by rw [hbl.out]; omega) h hv.out
                rw [hbl.out] at this; omega
          have e1 := R0.out.cell 1 _ rfl
          obtain ⟨hxa, hxb⟩ := HALL.out _ hG
          have H1 : Hid (∀ q, Calls Tryz.prog 186 #[.slice A n c, .int .i64 (i : Int)] (wr.drewN q) fun e w' => e = .returned (.int .i64 (a.getD i 0 : Nat)) ∧ wr.drewN q = w') := fun q => by
            have := c186 A n c us i _ (hxa.drewN q) (by omega) (by omega); rw [HUA.out] at this; exact this
          have H2 : Hid (∀ q, Calls Tryz.prog 186 #[.slice B m d, .int .i64 (k : Int)] (wr.drewN q) fun e w' => e = .returned (.int .i64 (b.getD k 0 : Nat)) ∧ wr.drewN q = w') := fun q => by
            have := c186 B m d vs k _ (hxb.drewN q) (by omega) (by omega); rw [HVB.out] at this; exact this
          have hcl := hb.cell (i := i + k) (by rw [hdl.out]; omega)
          have lx := byte_lt hra.out i
          have ly := byte_lt hrb.out k
          have ld := byte_lt hdr (i + k)
          have hst := mul_step (by rw [hdl.out]; omega) hv.out
          have hDS : Hid (∀ v, v < 256 → (∀ x ∈ ds.set (i + k) v, x < 256)) := fun v hv x hx => bset hx hdr hv
          generalize a.getD i 0 = X at *
          generalize b.getD k 0 = Y at *
          generalize hdd : ds.getD (i + k) 0 = dd at *
          obtain ⟨p, hp⟩ : ∃ p, p = X * Y := ⟨_, rfl⟩
          have hp2 : p ≤ 255 * 255 := by rw [hp]; exact Nat.mul_le_mul (by omega) (by omega)
          rw [← hp] at hst
          have HST := Lib.hid hst
          have k1 : IntKind.i64.wrap ((X : Int) * (Y : Int)) = (p : Int) := by
            rw [hp, ← Int.natCast_mul, IntWalk.i64_in _ (by rw [← hp]; omega)]
          have k2 : IntKind.i64.wrap ((dd : Int) + (p : Int)) = (dd : Int) + (p : Int) := IntWalk.i64_in _ (by omega)
          have k3 : IntKind.i64.wrap ((dd : Int) + (p : Int) + (cy : Int)) = ((dd + p + cy : Nat) : Int) := by rw [IntWalk.i64_in _ (by omega)]; omega
          have k4 : IntKind.i64.wrap ((i : Int) + (k : Int)) = (i : Int) + (k : Int) := IntWalk.i64_in _ (by omega)
          have k5 : ((i : Int) + (k : Int)).toNat = i + k := by omega
          have k6 : (0 : Int) ≤ (i : Int) + (k : Int) := by omega
          have k7 : (i : Int) + (k : Int) < ((n : Int) + (m : Int) + 1) := by omega
          have HDD := Lib.hid hdd
          have HP := Lib.hid hp
          clear hxa hxb hst hdd hp
          generalize hs : dd + p + cy = s at *
          have hs2 : s ≤ 65535 := by omega
          have HS := Lib.hid hs
          clear hs
          by_cases hkm2 : k < m
          all_goals
            first
            | have q3 : (k : Int) < (m : Int) := by omega
            | (have q3 : ¬ (k : Int) < (m : Int) := by omega
               have q4 : (0 : Int) < (cy : Int) := by omega)
            go_wp2_with fail
            go_quiet ((go_at_call 186; first | with_reducible exact quietS (H1.out _) | with_reducible exact quietS (H2.out _)))
            have hcl2 := hb.cell (i := i + k) (by rw [hdl.out]; omega)
            have hfr := RowB.free hb (i + k)
            clear k1 k2 k3
            go_wp2_with fail
            go_roundw
            case rel =>
              refine ⟨k + 1, s / 256, ds.set (i + k) (s % 256), by omega, by omega, by go_num, by go_num, ?_, by show _ = _; rw [List.length_set]; exact hdl.out, hDS.out _ (by omega), HST.out, ?_⟩
              · exact IBlk.set (RowB.drewN hb nq) (i + k) (s % 256)
              · exact grown_set (grown_drewN hG _) _ _
            case measure => simp [intOf]; omega
        · have hc0 : cy = 0 := by omega
          subst hc0
          have q3 : ¬ (k : Int) < (m : Int) := by omega
          have hD := Lib.hid (mul_done (by rw [hbl.out]; omega) hv.out)
          go_wp2_with fail
          go_roundw
          case rel => exact ⟨i + 1, ds, by omega, by go_num, hb, hdl, hdr, hD.out, hG⟩
          case measure => simp [intOf]; omega
    · have him : i = n := by omega
      subst him
      have hlv := mul_end (by rw [hal.out]; exact Nat.le_refl _) hv.out
      have hlt2 : lv ds < 256 ^ (i + m) := by
        rw [hlv]; have := lv_mul_lt hra.out hrb.out; rwa [hal.out, hbl.out] at this
      have hsh := lv_short (n := i + m) hdl.out hlt2
      have HSH : Hid (lv (ds.take (i + m)) = lv a * lv b) := by show _ = _; rw [hsh, hlv]
      have hmk5 := run_make5 (i + m) (i + m) (Nat.le_refl _) (by omega) wo
      rw [show ((i + m : Nat) : Int) = (i : Int) + (m : Int) from by omega] at hmk5
      have lwo := hG.size
      obtain ⟨w3, hw3⟩ : ∃ w3, wo.alloc (.cells (brow (List.replicate (i + m) 0)) 5) = w3 := ⟨_, rfl⟩
      obtain ⟨g2, hg2⟩ : ∃ g2, wo.heap.size = g2 := ⟨_, rfl⟩
      rw [hw3, hg2] at hmk5
      have bo : Below w.heap.size w wo := below_grown' b2 hG (by omega)
      have b3 : Below w.heap.size w w3 := by rw [← hw3]; exact below_alloc' bo _
      have r3 : BBlk w3 g2 (List.replicate (i + m) 0) := by rw [← hw3, ← hg2]; exact RowB.new _ _ _
      have hb3 : IBlk w3 (w.heap.size + 1 + 1 + 1) ds := by rw [← hw3]; exact RowB.alloc hb _
      have r03 : RowB w3 w.heap.size #[.bool n1, .slice A i c] 92 := by rw [← hw3]; exact (HR.out.1.grown hG (by omega)).alloc _
      have r13 : RowB w3 (w.heap.size + 1) #[.bool n2, .slice B m d] 92 := by rw [← hw3]; exact (HR.out.2.1.grown hG (by omega)).alloc _
      have r23 : RowB w3 (w.heap.size + 1 + 1) #[.bool false, .slice none 0 0] 92 := by rw [← hw3]; exact (HR.out.2.2.grown hG (by omega)).alloc _
      have lg2 : w.heap.size + 1 + 1 + 1 + 1 ≤ g2 := by omega
      have H3 := Lib.hid (And.intro hb3 (And.intro r03 (And.intro r13 r23)))
      have R3 := Lib.hid r3
      clear hb3 r03 r13 r23 r3 hw3 hg2 hlv hlt2 hsh HR hra hrb HALL hv
      go_wp2_with fail
      clear hmk5 e1
      go_loopw [12] (fun v12 wr => ∃ (j : Nat) (zs : List Nat), j ≤ i + m ∧ v12 = .int .i64 (j : Int) ∧ BBlk wr g2 zs ∧ Hid (zs.length = i + m) ∧ (∀ b ∈ zs, b < 256) ∧ Hid (bval (zs.drop (i + m - j)) = lv (ds.take j)) ∧ w3.grownBy wr (some g2)) (fun v12 _ => i + m - (intOf v12).toNat)
      case atStart => exact ⟨0, _, by omega, rfl, R3.out, by show _ = _; simp, (by intro x hx; rw [List.eq_of_mem_replicate hx]; omega), by show _ = _; simp [lv, bval], grown_refl _ _⟩
      case round =>
        obtain ⟨j, zs, hj, rfl, hbz, hzl, hzr, hbv, hG3⟩ := hrel
        by_cases hjl : j < i + m
        · have q1 : (j : Int) < (i : Int) + (m : Int) := by omega
          have hcl := IBlk.cell (RowB.grown H3.out.1 hG3 (by omega)) (i := j) (by rw [hdl.out]; omega)
          have ld := byte_lt hdr j
          have hlt := Lib.hid (lv_take ds j)
          generalize ds.getD j 0 = dd at *
          have p1 : ((i : Int) + (m : Int) - 1 - (j : Int)).toNat = i + m - 1 - j := by omega
          have p2 : (0 : Int) ≤ (i : Int) + (m : Int) - 1 - (j : Int) := by omega
          have p3 : (i : Int) + (m : Int) - 1 - (j : Int) < (i : Int) + (m : Int) := by omega
          have hcl2 := hbz.cell (i := i + m - 1 - j) (by rw [hzl.out]; omega)
          have hfr := RowB.free hbz (i + m - 1 - j)
          go_wp2_with fail
          go_roundw
          case rel =>
            have hD := Lib.hid (bval_drop_set zs (i + m - 1 - j) dd (by rw [hzl.out]; omega))
            refine ⟨j + 1, zs.set (i + m - 1 - j) dd, by omega, by go_num, hbz.set (i + m - 1 - j) dd, by show _ = _; rw [List.length_set]; exact hzl.out, fun b hb => bset hb hzr ld, ?_, grown_set hG3 _ _⟩
            show _ = _
            rw [show i + m - (j + 1) = i + m - 1 - j from by omega, hD.out, show i + m - 1 - j + 1 = i + m - j from by omega, hbv.out, hzl.out, show i + m - (i + m - j) = j from by omega, hlt.out]
            omega
          case measure => simp [intOf]; omega
        · have hje : j = i + m := by omega
          subst hje
          have hval : bval zs = lv a * lv b := by
            have := hbv.out
            rwa [Nat.sub_self, List.drop_zero, HSH.out] at this
          have HV := Lib.hid hval
          have r0 := H3.out.2.1.grown hG3 (by omega)
          have r1 := H3.out.2.2.1.grown hG3 (by omega)
          have e0 := r0.cell 0 _ rfl
          have y0 := r1.cell 0 _ rfl
          have R2 := Lib.hid (H3.out.2.2.2.grown hG3 (by omega))
          have bw := below_grown' b3 hG3 (by omega)
          have HC := Lib.hid (c39 (n1 != n2) _ _ _ _ _ (ByteA.of_blk (c := i + m) hbz hzr (by rw [hzl.out]; exact Nat.le_refl _)) (by rw [hzl.out]; omega))
          rw [hzl.out] at HC
          have lw := hG3.size
          have lR := R2.out.lt
          clear hval hbv hbz
          go_wp2_with fail
          refine HC.out.mono ?_
          rintro e w4 ⟨D, q, f, rfl, hS, hB4⟩
          have r4 := R2.out.below hB4
          have b4 := below_trans' bw hB4
          have HS := Lib.hid hS
          have hce : Hid ((n1 != n2 && decide (0 < (cutL zs).length)) = ((n1 != n2) && decide (0 < (cutL zs).length))) := rfl
          generalize hng : (n1 != n2 && decide (0 < (cutL zs).length)) = ng at *
          have HNG := Lib.hid hng
          clear hng hS
          obtain ⟨f0, g0, f1, g1⟩ := facts2 (.bool ng) r4
          have hr := Lib.hid (set2 (.bool ng) (.slice D q f) r4)
          go_wp2_with fail
          refine bodyPost_ret (ret_row hr.out rfl _ _ rfl Tryz.underlying92 rfl i92) rfl ?_
          refine ⟨D, q, f, cutL zs, by rw [HNG.out], (HS.out.grown (set2_grown _ _ _ _) (by omega)).mono (by omega), cutL_cut _, by rw [cutL_bval, HV.out, hE.out], below_grown' b4 (set2_grown _ _ _ _) (by omega)⟩
end Go.Proofs.YtpfihjkhgfoijaaGreatDoor

/- Contract of Rat.SetFloat64; RatFC; The hash of a float. -/
import Derived.Deep.CutBlock
import Derived.Test.YtpfihjkhgfoijaaGreatDoorQ26
import Derived.Test.YtpfihjkhgfoijaaGreatDoorQ22
import Derived.Test.YtpfihjkhgfoijaaGreatDoorQ17
import Derived.Test.YtpfihjkhgfoijaaGreatDoorQ23
import Derived.Laws.FloatArith
set_option linter.unusedVariables false
set_option linter.unusedSimpArgs false
set_option maxRecDepth 100000
namespace Go.Proofs.YtpfihjkhgfoijaaGreatDoor
open Go.RowKit

/-! plain law -/
theorem sf_lawT (T : Nat) {u X nb : Nat} {za : Int} (h : X * 2 ^ T = fM u * 2 ^ (fE u - 1) * nb) (hz : za = if (decide (fM u ≠ 0) && fS u) = true then -(X : Int) else (X : Int)) : za * 2 ^ T = fW u * (nb : Int) := by
  have h' : (X : Int) * 2 ^ T = ((fM u * 2 ^ (fE u - 1) : Nat) : Int) * (nb : Int) := by
    have := congrArg (fun x : Nat => (x : Int)) h
    simpa [Int.natCast_mul, Int.natCast_pow] using this
  unfold fW
  rw [hz]
  by_cases h0 : fM u = 0
  · rw [h0, Nat.zero_mul, Nat.zero_mul] at h
    have hX : X = 0 := by
      rcases Nat.mul_eq_zero.1 h with h | h
      · exact h
      · exact absurd h (Nat.ne_of_gt (Nat.two_pow_pos _))
    subst hX
    rw [h0]; simp
  · rw [decide_eq_true h0, Bool.true_and]
    generalize ((fM u * 2 ^ (fE u - 1) : Nat) : Int) = Y at *
    by_cases hs : fS u = true
    · rw [if_pos hs, if_pos hs, Int.neg_mul, Int.neg_mul, h']
    · rw [if_neg hs, if_neg hs, h']
theorem sf_law {u X nb : Nat} {za : Int} (h : X * 2 ^ 1074 = fM u * 2 ^ (fE u - 1) * nb) (hz : za = if (decide (fM u ≠ 0) && fS u) = true then -(X : Int) else (X : Int)) : za * 2 ^ 1074 = fW u * (nb : Int) := sf_lawT 1074 h hz
theorem sf_zero (T E : Nat) {M : Nat} (h : M = 0) : 0 * 2 ^ T = M * 2 ^ E * 1 := by rw [h]; simp
theorem sf_pos {M E m j s : Nat} (h : M = m * 2 ^ j) (he : s + j + (E - 1) = 1074) : m * 2 ^ 1074 = M * 2 ^ (E - 1) * 2 ^ s := by
  rw [h, ← he, Nat.pow_add, Nat.pow_add]
  simp only [Nat.mul_assoc, Nat.mul_comm, Nat.mul_left_comm]
theorem sf_negT (T : Nat) {M E m j t : Nat} (h : M = m * 2 ^ j) (he : j + (E - 1) = T + t) : m * 2 ^ t * 2 ^ T = M * 2 ^ (E - 1) * 1 := by
  rw [h, Nat.mul_one, Nat.mul_assoc, Nat.mul_assoc, ← Nat.pow_add, ← Nat.pow_add]
  congr 2; omega
theorem sf_neg {M E m j t : Nat} (h : M = m * 2 ^ j) (he : j + (E - 1) = 1074 + t) : m * 2 ^ t * 2 ^ 1074 = M * 2 ^ (E - 1) * 1 := sf_negT 1074 h he
theorem odd_gcd {m s : Nat} (h : m % 2 = 1) : Nat.gcd m (2 ^ s) = 1 := by
  have : Nat.Coprime m 2 := by
    unfold Nat.Coprime
    rw [Nat.gcd_comm, Nat.gcd_rec, h]; rfl
  exact Nat.Coprime.pow_right s this
theorem half_step {M m j : Nat} (h : M = m * 2 ^ j) (he : m % 2 = 0) : M = m / 2 * 2 ^ (j + 1) := by
  have h2 : m = m / 2 * 2 := by omega
  rw [h, Nat.pow_succ, Nat.mul_comm (2 ^ j) 2, ← Nat.mul_assoc, ← h2]
theorem BigR.carry {w w' : World} {b o : Nat} {neg : Bool} {A : Option Addr} {n c : Nat} {xs : List Nat} (h : BigR w b o neg A n c xs) (hB : Blk0 w' b) (hG : w.grownBy w' (some b)) (hA : ∀ a, A = some a → a.block ≠ b)
    (h0 : w'.cell? ⟨b, o, none⟩ = w.cell? ⟨b, o, none⟩) (h1 : w'.cell? ⟨b, o + 1, none⟩ = w.cell? ⟨b, o + 1, none⟩) : BigR w' b o neg A n c xs :=
  ⟨hB, h0.trans h.sg, h1.trans h.ab, h.nat.grown hG hA, h.nrm⟩
theorem Below.ofGrown {N b : Nat} {w w' : World} (h : w.grownBy w' (some b)) (h1 : N ≤ b) (h2 : N ≤ w.heap.size) : Below N w w' := below_mid_grown (Below.refl _ _) h h2 h1
/-- SetUint64(0), Lsh of 0 -/
def SetZ (b o : Nat) (w : World) (e : Ending) (w' : World) : Prop :=
  e = .returned (.pointer (some ⟨b, o, none⟩)) ∧ BigR w' b o false none 0 0 [] ∧ w.grownBy w' (some b) ∧ ∀ i, i ≠ o → i ≠ o + 1 → w'.cell? ⟨b, i, none⟩ = w.cell? ⟨b, i, none⟩
theorem c194_0 (w : World) : Calls Tryz.prog 194 #[.slice none 0 0, .int .u64 0] w fun e w' => e = .returned (.slice none 0 0) ∧ w = w' := by
  go_enter Tryz.func194, Tryz.ntmps194
  go_wp2
  go_ret
  exact ⟨rfl, rfl⟩
theorem c203_0 (w : World) : Calls Tryz.prog 203 #[.slice none 0 0, .int .u64 0] w fun e w' => e = .returned (.slice none 0 0) ∧ w = w' := by
  have H := Lib.hid (c194_0 w)
  go_enter Tryz.func203, Tryz.ntmps203
  go_wp2_with fail
  refine H.out.mono ?_
  rintro e w2 ⟨rfl, rfl⟩
  go_wp2_with fail
  go_ret
  exact ⟨rfl, rfl⟩
theorem c199_0 (b o : Nat) (w : World) (h : BigR w b o false none 0 0 []) : Calls Tryz.prog 199 #[.pointer (some ⟨b, o, none⟩), .int .u64 0] w (SetZ b o w) := by
  have h1 := h.ab
  have H := Lib.hid (c203_0 w)
  have HH := Lib.hid h
  clear h
  go_enter Tryz.func199, Tryz.ntmps199
  go_wp2_with fail
  refine H.out.mono ?_
  rintro e w2 ⟨rfl, rfl⟩
  obtain ⟨f1, f2, hR, hG, hsame⟩ := HH.out.store (Below.refl _ _) (NatR.nil _) Nrm.nil (by simp) false
  have HSM := Lib.hid hsame
  clear hsame
  have HR := Lib.hid hR
  have k0 := HH.out.sg
  clear hR
  go_wp2_with fail
  go_ret
  exact ⟨rfl, HR.out, hG, HSM.out⟩
def LshQz (w : World) (e : Ending) (w' : World) : Prop :=
  ∃ A c, e = .returned (.slice A 0 c) ∧ NatR w' A 0 c [] ∧ Below w.heap.size w w' ∧ ∀ a, A = some a → w.heap.size ≤ a.block
theorem c213_z2 (w : World) : Calls Tryz.prog 213 #[.slice none 0 0, .slice none 0 0, .int .u64 0] w (LshQz w) := by
  have H := Lib.hid (c227_z w)
  go_enter Tryz.func213, Tryz.ntmps213
  go_wp2_with fail
  refine H.out.mono ?_
  rintro e w1 ⟨rfl, hB⟩
  go_wp2_with fail
  refine (alias_nil _ _ _ _).mono ?_
  rintro e w2 ⟨rfl, hB2, _, _⟩
  have b2 := below_trans' hB hB2
  go_wp2_with fail
  refine (c143_new none 0 0 [] w2 (NatR.nil w2) (by omega)).mono ?_
  rintro e w3 ⟨A, c, rfl, hN, hB3, hfr⟩
  have b3 := below_trans' b2 hB3
  have l2 := b2.size
  have HF := Lib.hid hfr
  clear hfr
  go_wp2_with fail
  go_ret
  exact ⟨_, _, rfl, hN, b3, fun a ha => by have := HF.out a ha; omega⟩
def LshZ (b o : Nat) (w : World) (e : Ending) (w' : World) : Prop :=
  ∃ A c, e = .returned (.pointer (some ⟨b, o, none⟩)) ∧ BigR w' b o false A 0 c [] ∧ w.grownBy w' (some b) ∧ (∀ a, A = some a → w.heap.size ≤ a.block) ∧ ∀ i, i ≠ o → i ≠ o + 1 → w'.cell? ⟨b, i, none⟩ = w.cell? ⟨b, i, none⟩
set_option maxHeartbeats 1000000 in
theorem c201_z2 (b o : Nat) (w : World) (h : BigR w b o false none 0 0 []) :
    Calls Tryz.prog 201 #[.pointer (some ⟨b, o, none⟩), .pointer (some ⟨b, o, none⟩), .int .u64 0] w (LshZ b o w) := by
  have h0 := h.sg
  have h1 := h.ab
  have HL := Lib.hid (c213_z2 w.drew)
  have hlt := h.lt
  have Hf := h.own
  clear h
  go_enter Tryz.func201, Tryz.ntmps201
  go_wp2_with fail
  go_region_law (first | (go_simp; go_at_call 213; refine HL.out.mono ?_; rintro e w1 ⟨B, d, rfl, hN, hB, hfr⟩; have g1 := below_cell (w := w.drew) hB h1; have Hf1 := Hf.drew.below hB; have f1 := Hf1.free (o + 1); have HN := Lib.hid hN; have HFR := Lib.hid hfr; have g0 := below_cell (w := w.drew) hB h0; clear hN hfr))
  all_goals
    have f2 := (Hf1.set ⟨b, o + 1, none⟩ (.slice B 0 d)).free o
    have z1 : (w1.setCell ⟨b, o + 1, none⟩ (.slice B 0 d)).cell? ⟨b, o, none⟩ = some (.bool false) := by rw [cell_setCell_at g1, if_neg (by omega)]; exact g0
    have HF' : ∀ a, B = some a → w.heap.size ≤ a.block := HFR.out
    have HFb : ∀ a, B = some a → a.block ≠ b := fun a ha => by have := HF' a ha; omega
    have HFR' := Lib.hid HF'
    clear HF'
    have HFB := Lib.hid HFb
    clear HFb
    go_wp2_with fail
    go_ret
    refine ⟨B, d, rfl, ⟨(Hf1.set _ _).set _ _, ?_, ?_, ?_, Nrm.nil⟩, grown_set (grown_set (grown_trans (grown_drew (grown_refl _ _)) (grown_of_below' hB _)) _ _) _ _, HFR'.out, ?_⟩
    · rw [cell_setCell_at z1]; simp
    · rw [cell_setCell_at z1, if_neg (by omega), cell_setCell_at g1]; simp
    · exact HN.out.grown (g' := b) (grown_set (grown_set (grown_refl _ _) _ _) _ _) HFB.out
    · intro i hi1 hi2
      rw [cell_setCell_at z1, if_neg hi1, cell_setCell_at g1, if_neg hi2]
      exact (hB.cell (p := ⟨b, i, none⟩) hlt)
theorem below_comp {N : Nat} {a b c : World} (h : Below N a b) (k : Below N b c) : Below N a c :=
  ⟨k.os.trans h.os, k.tape.trans h.tape, k.output.trans h.output, Nat.le_trans h.size k.size, fun i hi => (k.block i hi).trans (h.block i hi)⟩
/-- the exponent that the code reckons with -/
def fD (u : Nat) : Int := 1075 - (if fE u = 0 then 1 else (fE u : Int))
def Rat1 (w' : World) (b : Nat) : Prop := ∃ na A n c xs g, BigR w' b 0 na A n c xs ∧ BigR w' b 2 false (some ⟨g, 0, none⟩) 1 1 [1] ∧ 0 < n ∧ n < 40
def SfP (b N u : Nat) (w : World) (e : Ending) (w' : World) : Prop :=
  ∃ za nb, e = .returned (.pointer (some ⟨b, 0, none⟩)) ∧ RatR w' b za nb ∧ za * 2 ^ 1074 = fW u * (nb : Int) ∧ Below N w w' ∧ (1075 ≤ fE u → Rat1 w' b)
set_option maxHeartbeats 4000000 in
theorem c193 (b N u : Nat) (w : World) (hu : u < 18446744073709551616) (hf : fFin u) (hX : BigR w b 0 false none 0 0 []) (hY : BigR w b 2 false none 0 0 []) (hNb : N ≤ b) :
    Calls Tryz.prog 193 #[.pointer (some ⟨b, 0, none⟩), .float .f64 u] w (SfP b N u w) := by
  have h1 := fun W => r102 u W
  have lb := hX.lt
  have a1 : bits .and .u64 ((u : Int) / 4503599627370496) 2047 = ((fE u : Nat) : Int) := by
    have := and_mask64 (u / 4503599627370496) 11 (by omega) (by omega)
    rw [show ((u : Int) / 4503599627370496) = ((u / 4503599627370496 : Nat) : Int) from by omega]
    exact this
  have a2 : bits .and .u64 (u : Int) 4503599627370495 = ((u % 4503599627370496 : Nat) : Int) := and_mask64 u 52 hu (by omega)
  have a4 : bits .or .u64 ((u % 4503599627370496 : Nat) : Int) 4503599627370496 = ((u % 4503599627370496 + 4503599627370496 : Nat) : Int) := by
    have := or_u64 (u % 4503599627370496) 1 52 (Nat.mod_lt _ (by omega)) (by have := Nat.mod_lt u (show 0 < 4503599627370496 by omega); omega) (by omega)
    simpa using this
  have b1 : fE u ≤ 2046 := by have := fE_le u; unfold fFin at hf; omega
  have hM : Hid (fM u = if fE u = 0 then u % 4503599627370496 else u % 4503599627370496 + 4503599627370496) := rfl
  have b2 := Nat.mod_lt u (show 0 < 4503599627370496 by omega)
  have b3 := Lib.hid (fM_le u)
  have hlss : Hid ((Ieee.double.order u 0 == some .lt) = (decide (fM u ≠ 0) && fS u)) := by
    show _ = _
    rw [ord_zero hf]
    by_cases h0 : fM u = 0
    · rw [if_pos h0, decide_eq_false (by simpa using h0)]; rfl
    · rw [if_neg h0, decide_eq_true h0]
      cases fS u <;> rfl
  have hD : Hid (fD u = 1075 - (if fE u = 0 then 1 else (fE u : Int))) := rfl
  have q47 : ((fE u : Int) == 2047) = false := by rw [beq_eq_false_iff_ne]; omega
  have HX := Lib.hid hX
  have HY := Lib.hid hY
  clear hX hY
  go_enter Tryz.func193, Tryz.ntmps193
  go_upto_block 0 with (fail)
  go_cut [6, 7] from 18 to 27 (fun v6 v7 wc => v6 = .int .u64 (fM u : Nat) ∧ v7 = .int .i64 (52 - fD u) ∧ wc = w)
  case first =>
    by_cases h0 : fE u = 0
    · have e1 := hM.out
      rw [if_pos h0] at e1
      have e2 := hD.out
      rw [if_pos h0] at e2
      have E1 := Lib.hid e1
      have E2 := Lib.hid e2
      have h0' : ((fE u : Nat) : Int) = 0 := by omega
      clear e1 e2 hM hD h0 q47
      go_wp2_with fail
      go_meet
      exact ⟨by rw [E1.out]; rfl, by rw [E2.out]; rfl, rfl⟩
    · have e1 := hM.out
      rw [if_neg h0] at e1
      have e2 := hD.out
      rw [if_neg h0] at e2
      have E1 := Lib.hid e1
      have E2 := Lib.hid e2
      have q0 : (((fE u : Nat) : Int) == 0) = false := by rw [beq_eq_false_iff_ne]; omega
      have a5 : IntKind.i64.wrap ((fE u : Int) - 1023) = (fE u : Int) - 1023 := IntWalk.i64_in _ (by omega)
      clear e1 e2 hM hD h0
      go_wp2_with fail
      go_meet
      exact ⟨by rw [E1.out, ← a4]; rfl, by rw [E2.out]; congr 1; omega, rfl⟩
  case rest =>
    obtain ⟨rfl, rfl, rfl⟩ := hcut
    have hDb : -971 ≤ fD u ∧ fD u ≤ 1074 := by
      rw [hD.out]; split <;> omega
    have a6 : IntKind.i64.wrap (52 - (52 - fD u)) = fD u := by rw [IntWalk.i64_in _ (by omega)]; omega
    have HEM : Hid (((fE u - 1 : Nat) : Int) = 1074 - fD u) := by
      show _ = _
      rw [hD.out]; split <;> omega
    have HM0 : Hid (fM u = 0 → fD u = 1074) := by
      show _ → _
      intro h
      rw [hM.out] at h
      rw [hD.out]
      split at h <;> rename_i hh
      · rw [if_pos hh]; omega
      · omega
    clear a1 a2 a4 hM b2 q47
    go_upto_block 1 with (fail)
    go_cut [6, 8] from 30 to 40 (fun v6 v8 wd => ∃ (m j : Nat) (s : Int), v6 = .int .u64 (m : Nat) ∧ v8 = .int .i64 s ∧ Hid (fM u = m * 2 ^ j) ∧ Hid (m < 9007199254740992) ∧ Hid (s = fD u - j) ∧ (j = 0 ∨ 0 ≤ s) ∧ (m % 2 = 1 ∨ s ≤ 0) ∧ wd = wc)
    case first =>
      go_wp2_with fail
      go_loop [6, 8] (fun v6 v8 => ∃ (m j : Nat) (s : Int), v6 = .int .u64 (m : Nat) ∧ v8 = .int .i64 s ∧ Hid (fM u = m * 2 ^ j) ∧ Hid (m < 9007199254740992) ∧ Hid (s = fD u - j) ∧ (j = 0 ∨ 0 ≤ s)) (fun _ v8 => (intOf v8).toNat)
      case atStart => exact ⟨fM u, 0, fD u, rfl, rfl, by show _ = _; simp, b3, by show _ = _; simp, .inl rfl⟩
      case round =>
        obtain ⟨m, j, s, rfl, rfl, hmj, hml, hs, hj⟩ := hrel
        have a7 : bits .and .u64 (m : Int) 1 = ((m % 2 : Nat) : Int) := and_mask64 m 1 (by have := hml.out; omega) (by omega)
        by_cases hm2 : m % 2 = 0
        · have a8 : bits .and .u64 (m : Int) 1 = 0 := by rw [a7, hm2]; rfl
          clear a7
          by_cases hs0 : 0 < s
          · have a9 : IntKind.i64.wrap (s - 1) = s - 1 := IntWalk.i64_in _ (by have := hs.out; omega)
            go_wp2_with fail
            go_round
            case rel => exact ⟨m / 2, j + 1, s - 1, by first | rfl | (congr 1), rfl, half_step hmj.out hm2, by have := hml.out; show _ < _; omega, by have := hs.out; show _ = _; omega, .inr (by omega)⟩
            case measure => simp [intOf]; omega
          · go_wp2_with fail
            go_meet
            exact ⟨m, j, s, rfl, rfl, hmj, hml, hs, hj, .inr (by omega), rfl⟩
        · have a8 : (bits .and .u64 (m : Int) 1 == 0) = false := by rw [a7, beq_eq_false_iff_ne]; omega
          clear a7
          go_wp2_with fail
          go_meet
          exact ⟨m, j, s, rfl, rfl, hmj, hml, hs, hj, .inl (by omega), rfl⟩
    case rest =>
      obtain ⟨m, j, s, rfl, rfl, hmj, hml, hs, hj, hend, rfl⟩ := hcut
      have hmw : m < WB := lt_wb (by have := hml.out; omega)
      have hl0 := hlss.out
      obtain ⟨neg, hneg⟩ : ∃ neg, (decide (fM u ≠ 0) && fS u) = neg := ⟨_, rfl⟩
      have hl1 : (FloatKind.f64.format.order u 0 == some .lt) = neg := hl0.trans hneg
      have HNEG := Lib.hid hneg
      clear hl0 hneg hlss hD
      have hszN : N ≤ wc.heap.size := by omega
      by_cases hm0 : m = 0
      · subst hm0
        have hM0 : fM u = 0 := by rw [hmj.out]; exact Nat.zero_mul _
        have hD0 := HM0.out hM0
        have hj0 : j = 1074 ∧ s = 0 := by have := hs.out; omega
        obtain ⟨-, rfl⟩ := hj0
        have hneg0 : neg = false := by rw [← HNEG.out, hM0]; rfl
        subst hneg0
        have H199 := Lib.hid (c199_0 b 0 wc HX.out)
        have eb : ((0 : Nat) : Int) = 0 := rfl
        go_wp2_with fail
        refine H199.out.mono ?_
        rintro e w1 ⟨rfl, hR, hG, hsame⟩
        clear H199
        have bN1 := Lib.hid (Below.ofGrown hG hNb hszN)
        have hs1 := hG.size
        have hY1 := HY.out.carry hR.own hG (by simp) (hsame 2 (by omega) (by omega)) (hsame 3 (by omega) (by omega))
        have k1 := hR.sg
        have f1 := hR.own.free 0
        have hR2 := hR.putNeg (by simp) false
        have hY2 := BigR.setOther hY1 (by simp) (i := 0) (by omega) (by omega) hR.sg (.bool false)
        obtain ⟨w2, hw2, HR2, HY2, bN2, hs2⟩ : ∃ w2, w1.setCell ⟨b, 0, none⟩ (.bool false) = w2 ∧ Hid (BigR w2 b 0 false none 0 0 []) ∧ Hid (BigR w2 b 2 false none 0 0 []) ∧ Hid (Below N wc w2) ∧ w2.heap.size = w1.heap.size := ⟨_, rfl, hR2, hY2, bN1.out.setCell hNb _, by rw [setCell_size]⟩
        have H200 := Lib.hid (c200 w2.drew)
        have H120 : Hid (∀ W B g5, Below w2.heap.size w2 W → BigR W B 0 false (some ⟨g5, 0, none⟩) 1 1 [1] → w2.heap.size ≤ B → Calls Tryz.prog 120 #[.pointer (some ⟨b, 2, none⟩), .pointer (some ⟨B, 0, none⟩)] W (SetO b 2 false 1 W)) :=
          fun W B g5 hW hB hB2 => c120_1 b 2 B 0 false g5 1 1 (lt_wb (by omega)) W (HY2.out.below hW) hB (by have := HY2.out.lt; omega)
        clear hR hsame hY1 hR2 hY2 HX HY
        go_wp2_with fail
        go_region_held3 (fun W => True) (trivial)
          (first | (go_at_call 120; (with_reducible refine HH.out.mono ?_); rintro e w4 ⟨g4, rfl, hR4, hG4, hg4, hsame4⟩; have HR4 := Lib.hid hR4; have HS4 := Lib.hid hsame4; clear hR4 hsame4)
                 | (go_at_call 200; (with_reducible refine H200.out.mono ?_); rintro e w3 ⟨B, g5, rfl, h5, h6, h7, h8, hb3⟩; have HH := Lib.hid (H120.out w3 B g5 (below_trans' (bdrew1 w2) hb3) h5 h6); clear h5 h6 h7 h8))
        all_goals
          have b3' := below_trans' (bdrew1 w2) hb3
          have hX3 := HR2.out.below b3'
          have hX4 := hX3.carry HR4.out.own hG4 (by simp) (HS4.out 0 (by omega) (by omega)) (HS4.out 1 (by omega) (by omega))
          have hs3 := b3'.size
          have bN4 : Below N wc w4 := below_mid_grown (below_mid bN2.out b3' hszN) hG4 hszN hNb
          have BN4 := Lib.hid bN4
          have HX4 := Lib.hid hX4
          have hg4b : g4 ≠ b := by omega
          have hg4N : N ≤ g4 := by omega
          have lg4 : g4 < w4.heap.size := HR4.out.nat.lt _ rfl
          have hs4 := hG4.size
          have q1 : IntKind.u64.wrap 0 = 0 := IntWalk.u64_in _ (by omega)
          have q2 : IntKind.i64.wrap 0 = 0 := IntWalk.i64_in _ (by omega)
          have H201 := Lib.hid (c201_z2 b 0 w4.drew (hX4.below (bdrew1 _)))
          clear bN4 hX3 hX4 b3' hb3 hG4 HH H120 H200 HS4 bN2 HR2 HY2 hG bN1
          go_wp2_with fail
          go_region_held3 (fun W => True) (trivial)
            (first | (go_at_call 201; (with_reducible refine H201.out.mono ?_); rintro e w5 ⟨A, c, rfl, hR5, hG5, hA5, hsame5⟩; have HR5 := Lib.hid hR5; have HA5 := Lib.hid hA5; have HS5 := Lib.hid hsame5; have HG5 := Lib.hid hG5; clear hR5 hA5 hsame5 hG5))
          all_goals
            have hX5 := (HR4.out.below (bdrew1 w4)).carry HR5.out.own HG5.out (fun a ha => by cases ha; exact hg4b) (HS5.out 2 (by omega) (by omega)) (HS5.out 3 (by omega) (by omega))
            have H202 := Lib.hid (c202_z b g4 false false A c w5 HR5.out hX5 (fun a ha => by
              have h1 : w4.heap.size ≤ a.block := HA5.out a ha
              omega) hg4b rfl)
            clear hX5 HX4 HR4 H201
            go_wp2_with fail
            refine H202.out.mono ?_
            rintro e w6 ⟨rfl, hRat, hU⟩
            have HRat := Lib.hid hRat
            have HU := Lib.hid hU
            clear hRat hU H202
            go_wp2_with fail
            go_ret
            have bN5 := below_mid_grown BN4.out (grown_trans (grown_drew (grown_refl _ _)) HG5.out) hszN hNb
            have k := HU.out.below hNb hg4N (by have := bN5.size; omega)
            refine ⟨0, 1, rfl, HRat.out, sf_law (X := 0) ?_ ?_, ⟨k.os.trans bN5.os, k.tape.trans bN5.tape, k.output.trans bN5.output, Nat.le_trans bN5.size k.size, fun i hi => (k.block i hi).trans (bN5.block i hi)⟩, fun h => absurd h (by have h1 := HEM.out; omega)⟩
            · exact sf_zero 1074 _ hM0
            · simp
      · have H199 := Lib.hid (c199_1 b 0 m (by omega) hmw wc HX.out)
        have eb : (m : Int) = ((m : Nat) : Int) := rfl
        go_wp2_with fail
        refine H199.out.mono ?_
        rintro e w1 ⟨g, rfl, hR, hG, hg, hsame⟩
        clear H199
        have bN1 := Lib.hid (Below.ofGrown hG hNb hszN)
        have hs1 := hG.size
        have hY1 := HY.out.carry hR.own hG (by simp) (hsame 2 (by omega) (by omega)) (hsame 3 (by omega) (by omega))
        have k1 := hR.sg
        have f1 := hR.own.free 0
        have hgb : g ≠ b := by omega
        have hR2 := hR.putNeg (fun a ha => by cases ha; exact hgb) neg
        have hY2 := BigR.setOther hY1 (by simp) (i := 0) (by omega) (by omega) hR.sg (.bool neg)
        obtain ⟨w2, hw2, HR2, HY2, bN2, hs2⟩ : ∃ w2, w1.setCell ⟨b, 0, none⟩ (.bool neg) = w2 ∧ Hid (BigR w2 b 0 neg (some ⟨g, 0, none⟩) 1 1 [m]) ∧ Hid (BigR w2 b 2 false none 0 0 []) ∧ Hid (Below N wc w2) ∧ w2.heap.size = w1.heap.size := ⟨_, rfl, hR2, hY2, bN1.out.setCell hNb _, by rw [setCell_size]⟩
        have H200 := Lib.hid (c200 w2.drew)
        have H120 : Hid (∀ W B g5, Below w2.heap.size w2 W → BigR W B 0 false (some ⟨g5, 0, none⟩) 1 1 [1] → w2.heap.size ≤ B → Calls Tryz.prog 120 #[.pointer (some ⟨b, 2, none⟩), .pointer (some ⟨B, 0, none⟩)] W (SetO b 2 false 1 W)) :=
          fun W B g5 hW hB hB2 => c120_1 b 2 B 0 false g5 1 1 (lt_wb (by omega)) W (HY2.out.below hW) hB (by have := HY2.out.lt; omega)
        clear hR hsame hY1 hR2 hY2 HX HY
        go_wp2_with fail
        go_region_held3 (fun W => True) (trivial)
          (first | (go_at_call 120; (with_reducible refine HH.out.mono ?_); rintro e w4 ⟨g4, rfl, hR4, hG4, hg4, hsame4⟩; have HR4 := Lib.hid hR4; have HS4 := Lib.hid hsame4; clear hR4 hsame4)
                 | (go_at_call 200; (with_reducible refine H200.out.mono ?_); rintro e w3 ⟨B, g5, rfl, h5, h6, h7, h8, hb3⟩; have HH := Lib.hid (H120.out w3 B g5 (below_trans' (bdrew1 w2) hb3) h5 h6); clear h5 h6 h7 h8))
        all_goals
          have b3' := below_trans' (bdrew1 w2) hb3
          have hX3 := HR2.out.below b3'
          have hX4 := hX3.carry HR4.out.own hG4 (fun a ha => by cases ha; exact hgb) (HS4.out 0 (by omega) (by omega)) (HS4.out 1 (by omega) (by omega))
          have hs3 := b3'.size
          have bN4 : Below N wc w4 := below_mid_grown (below_mid bN2.out b3' hszN) hG4 hszN hNb
          have BN4 := Lib.hid bN4
          have HX4 := Lib.hid hX4
          have hg4b : g4 ≠ b := by omega
          have hs4 := hG4.size
          clear bN4 hX3 hX4 b3' hb3 hG4 HH H120 H200 HS4 bN2 HR2 HY2 hG bN1
          by_cases hs0 : 0 < s
          · obtain ⟨t, rfl⟩ : ∃ t : Nat, s = (t : Int) := ⟨s.toNat, by omega⟩
            have ht : t < 2200 := by have := hs.out; omega
            have hodd : m % 2 = 1 := by omega
            have H201 := Lib.hid (c201 b 2 t g4 1 false w4.drew (HR4.out.below (bdrew1 _)) (by omega) hg4b ht)
            have q1 : IntKind.u64.wrap (t : Int) = (t : Int) := IntWalk.u64_in _ (by omega)
            go_wp2_with fail
            go_region_held3 (fun W => True) (trivial)
              (first | (go_at_call 201; (with_reducible refine H201.out.mono ?_); rintro e w5 ⟨A, n, c, ys, rfl, hR5, hv5, hn5, hG5, hA5, hsame5⟩; have HR5 := Lib.hid hR5; have HV5 := Lib.hid hv5; have HA5 := Lib.hid hA5; have HS5 := Lib.hid hsame5; have HG5 := Lib.hid hG5; clear hR5 hv5 hA5 hsame5 hG5))
            all_goals
              have hX5 := (HX4.out.below (bdrew1 w4)).carry HR5.out.own HG5.out (fun a ha => by cases ha; exact hgb) (HS5.out 0 (by omega) (by omega)) (HS5.out 1 (by omega) (by omega))
              have hv := HV5.out
              rw [Nat.one_mul] at hv
              have hvp : 0 < nv ys := by rw [hv]; exact Nat.two_pow_pos t
              have hnp : 0 < n := by
                rcases Nat.eq_zero_or_pos n with h | h
                · subst h
                  have := HR5.out.nat.zero rfl
                  subst this
                  simp [nv] at hvp
                · exact h
              have H202 := Lib.hid (c202 b neg false (some ⟨g, 0, none⟩) A 1 n 1 c [m] ys w5 hX5 HR5.out (fun a ha => by cases ha; exact hgb) HA5.out (by omega) hnp (by omega) hn5 (fun _ => rfl) (fun h => by
                have h1 := HR5.out.nat.len
                rw [nv_one] at h
                have := rem_len HR5.out.nrm (Nat.lt_of_le_of_lt (Nat.le_of_not_lt h) hmw)
                omega) (by rw [nv_one, hv]; exact odd_gcd hodd))
              have HV := Lib.hid hv
              clear hX5 hv hvp HX4 HR4 H201 HV5
              go_wp2_with fail
              refine H202.out.mono ?_
              rintro e w6 ⟨rfl, hF1, hF2, hF3, hG6⟩
              have HF1 := Lib.hid hF1
              have HF2 := Lib.hid hF2
              clear hF1 hF2 H202
              go_wp2_with fail
              go_ret
              refine ⟨zv neg [m], nv ys, rfl, ⟨neg, _, _, _, _, _, _, _, _, HF1.out, rfl, HF2.out, rfl, hF3, by omega, hn5⟩, sf_law (X := m) ?_ ?_, below_mid_grown (below_mid_grown BN4.out (grown_trans (grown_drew (grown_refl _ _)) HG5.out) hszN hNb) hG6 hszN hNb, fun h => ?_⟩
              · rw [HV.out]
                exact sf_pos hmj.out (by have h1 := HEM.out; have h2 := hs.out; omega)
              · rw [HNEG.out]; unfold zv; rw [nv_one]
              · exact absurd h (by have h1 := HEM.out; have h2 := hs.out; omega)
          · obtain ⟨t, rfl⟩ : ∃ t : Nat, s = -(t : Int) := ⟨(-s).toNat, by omega⟩
            have ht : t < 2200 := by have := hs.out; omega
            have H201 := Lib.hid (c201 b 0 t g m neg w4.drew (HX4.out.below (bdrew1 _)) (by omega) hgb ht)
            have q1 : IntKind.u64.wrap (t : Int) = (t : Int) := IntWalk.u64_in _ (by omega)
            have q2 : IntKind.i64.wrap (t : Int) = (t : Int) := IntWalk.i64_in _ (by omega)
            go_wp2_with fail
            go_region_held3 (fun W => True) (trivial)
              (first | (go_at_call 201; (with_reducible refine H201.out.mono ?_); rintro e w5 ⟨A, n, c, ys, rfl, hR5, hv5, hn5, hG5, hA5, hsame5⟩; have HR5 := Lib.hid hR5; have HV5 := Lib.hid hv5; have HA5 := Lib.hid hA5; have HS5 := Lib.hid hsame5; have HG5 := Lib.hid hG5; clear hR5 hv5 hA5 hsame5 hG5))
            all_goals
              have hX5 := (HR4.out.below (bdrew1 w4)).carry HR5.out.own HG5.out (fun a ha => by cases ha; exact hg4b) (HS5.out 2 (by omega) (by omega)) (HS5.out 3 (by omega) (by omega))
              have hv := HV5.out
              have hvp : 1 ≤ nv ys := by rw [hv]; exact Nat.mul_pos (by omega) (Nat.two_pow_pos t)
              have hnp : 0 < n := by
                rcases Nat.eq_zero_or_pos n with h | h
                · subst h
                  have := HR5.out.nat.zero rfl
                  subst this
                  simp [nv] at hvp
                · exact h
              have H202 := Lib.hid (c202 b neg false A (some ⟨g4, 0, none⟩) n 1 c 1 ys [1] w5 HR5.out hX5 HA5.out (fun a ha => by cases ha; exact hg4b) hnp (by omega) hn5 (by omega) (fun h => by rw [nv_one] at h; omega) (fun _ => rfl) (by rw [nv_one]; exact Nat.gcd_one_right _))
              have HV := Lib.hid hv
              clear hX5 hv hvp HX4 HR4 H201 HV5
              go_wp2_with fail
              refine H202.out.mono ?_
              rintro e w6 ⟨rfl, hF1, hF2, hF3, hG6⟩
              have HF1 := Lib.hid hF1
              have HF2 := Lib.hid hF2
              clear hF1 hF2 H202
              go_wp2_with fail
              go_ret
              refine ⟨zv neg ys, nv [1], rfl, ⟨neg, _, _, _, _, _, _, _, _, HF1.out, rfl, HF2.out, rfl, hF3, hn5, by omega⟩, sf_law (X := m * 2 ^ t) ?_ ?_, below_mid_grown (below_mid_grown BN4.out (grown_trans (grown_drew (grown_refl _ _)) HG5.out) hszN hNb) hG6 hszN hNb, fun _ => ⟨neg, _, _, _, _, _, HF1.out, HF2.out, hnp, hn5⟩⟩
              · rw [nv_one]
                exact sf_neg hmj.out (by have h1 := HEM.out; have h2 := hs.out; omega)
              · rw [HNEG.out]; unfold zv; rw [HV.out]
set_option maxHeartbeats 1000000 in
theorem RatFC_all : RatFC := by
  intro u w hu hf hk
  have r0 := RowB.new w #[.bool false, .slice none 0 0, .bool false, .slice none 0 0] 314
  have hX : BigR (w.alloc (.cells #[.bool false, .slice none 0 0, .bool false, .slice none 0 0] 314)) w.heap.size 0 false none 0 0 [] := ⟨r0.blk0, r0.cell 0 _ rfl, r0.cell 1 _ rfl, NatR.nil _, Nrm.nil⟩
  have hY : BigR (w.alloc (.cells #[.bool false, .slice none 0 0, .bool false, .slice none 0 0] 314)) w.heap.size 2 false none 0 0 [] := ⟨r0.blk0, r0.cell 2 _ rfl, r0.cell 3 _ rfl, NatR.nil _, Nrm.nil⟩
  have H := Lib.hid (c193 w.heap.size w.heap.size u _ hu hf hX hY (Nat.le_refl _))
  clear r0 hX hY
  go_enter Tryz.func184, Tryz.ntmps184
  go_wp2_with fail
  refine H.out.mono ?_
  rintro e w1 ⟨za, nb, rfl, hR, hl, hB, -⟩
  have HR := Lib.hid hR
  have HL := Lib.hid hl
  clear hR hl H
  go_wp2_with fail
  go_ret
  exact ⟨_, za, nb, rfl, HR.out, HL.out, below_comp (below_alloc' (Below.refl _ _) _) hB⟩
end Go.Proofs.YtpfihjkhgfoijaaGreatDoor
namespace Go.Proofs.YtpfihjkhgfoijaaGreatDoor
open Go.RowKit

set_option maxHeartbeats 1000000 in
theorem c116N (b : Nat) (neg : Bool) (A : Option Addr) (n c : Nat) (xs : List Nat) (z : Int) (w : World) (h : BigR w b 0 neg A n c xs) (hz : zv neg xs = z) (hn : n ≤ 40) :
    Calls Tryz.prog 116 #[.pointer (some ⟨b, 0, none⟩)] w fun e w' => ∃ v, e = .returned v ∧ Sits w.heap.size (fun W => IntN 40 W z v) w' ∧ Below w.heap.size w w' := by
  have hlt := h.lt
  have HB : Hid (∀ W, Below w.heap.size w W → BigR W b 0 neg A n c xs) := fun W hW => h.below hW
  have hd : isSm z = true → nv xs < 9223372036854775808 := by
    subst hz
    unfold isSm zv
    rw [Bool.and_eq_true, decide_eq_true_iff, decide_eq_true_iff]
    rintro ⟨h1, h2⟩
    split at h1 <;> simp_all <;> omega
  have HD := Lib.hid hd
  have HZ := Lib.hid hz
  clear h hd hz
  have hB0 : Below w.heap.size w (w.alloc (.cells #[Value.int IntKind.i64 0, Value.pointer none] 126)) := below_alloc' (Below.refl _ _) _
  have hn1 := Lib.hid (RowB.new w #[Value.int IntKind.i64 0, Value.pointer none] 126)
  cases hs : isSm z
  · have H1 : Hid (∀ W, Below w.heap.size w W → Calls Tryz.prog 133 #[.pointer (some ⟨b, 0, none⟩)] W fun e w' => e = .returned (.bool false) ∧ W = w') := fun W hW => by
      have := c133 b 0 neg A n c xs W (HB.out W hW); rwa [HZ.out, hs] at this
    have HS := Lib.hid hs
    clear hs
    go_enter Tryz.func116, Tryz.ntmps116
    go_wp2_with fail
    refine (H1.out _ hB0).mono ?_
    rintro e w1 ⟨rfl, rfl⟩
    have hB1 : Below w.heap.size w ((w.alloc (.cells #[Value.int IntKind.i64 0, Value.pointer none] 126)).alloc (.cells #[Value.bool false, Value.slice none 0 0] 229)) := below_alloc' hB0 _
    have hR : RowB ((w.alloc (.cells #[Value.int IntKind.i64 0, Value.pointer none] 126)).alloc (.cells #[Value.bool false, Value.slice none 0 0] 229)) (w.heap.size + 1) #[Value.bool false, Value.slice none 0 0] 229 := alloc_size w (.cells #[Value.int IntKind.i64 0, Value.pointer none] 126) ▸ RowB.new _ _ _
    have hR1 := (RowB.new w #[Value.int IntKind.i64 0, Value.pointer none] 126).alloc (.cells #[Value.bool false, Value.slice none 0 0] 229)
    go_wp2_with fail
    generalize (w.alloc (.cells #[Value.int IntKind.i64 0, Value.pointer none] 126)).alloc (.cells #[Value.bool false, Value.slice none 0 0] 229) = w1 at *
    refine (c120 (w.heap.size + 1) 0 b 0 neg A n c xs w1 (BigR.new0 hR) (HB.out _ hB1) (by omega) (by omega)).mono ?_
    rintro e w2 ⟨B, d, rfl, hX, hG, hfr, -⟩
    have hB2 : Below w.heap.size w w2 := below_grown' hB1 hG (by omega)
    have hR2 := hR1.grown hG (by omega)
    go_wp2_with fail
    refine (c136 _ _).mono ?_
    rintro e w3 ⟨rfl, hB⟩
    have hB3 := below_trans' hB2 hB
    have hlR := hR.lt
    have hr := Lib.hid (hR2.below hB)
    have hX3 := Lib.hid (hX.below hB)
    have k0 := hr.out.cell 0 _ rfl
    have k1 := hr.out.cell 1 _ rfl
    have f0 := hr.out.free 0
    have hr1 := Lib.hid (hr.out.set 0 (.int .i64 0) #[.int .i64 0, .pointer none] rfl)
    have f1 := hr1.out.free 1
    have k2 := hr1.out.cell 1 _ rfl
    clear hX hR2 hR1 hR
    go_wp2_with fail
    refine bodyPost_ret (ret_row (set126 hr.out) rfl _ _ rfl Tryz.underlying126 rfl i126) rfl ?_
    have hX5 := hX3.out.grown (g := w.heap.size) (grown_set (grown_set (grown_refl _ _) 0 (.int .i64 0)) 1 (.pointer (some ⟨w.heap.size + 1, 0, none⟩))) (by omega) (fun a ha => by have := hfr a ha; omega)
    refine ⟨_, rfl, (hX5.sits (N := w.heap.size) (by omega) (fun a ha => by have := hfr a ha; omega)).imp fun W hW => .inr ⟨HS.out, w.heap.size + 1, neg, B, n, d, xs, rfl, hW, HZ.out, hn⟩, below_set' (below_set' hB3 (Nat.le_refl _) _) (Nat.le_refl _) _⟩
  · have H1 : Hid (∀ W, Below w.heap.size w W → Calls Tryz.prog 133 #[.pointer (some ⟨b, 0, none⟩)] W fun e w' => e = .returned (.bool true) ∧ W = w') := fun W hW => by
      have := c133 b 0 neg A n c xs W (HB.out W hW); rwa [HZ.out, hs] at this
    have H2 : Hid (∀ W, Below w.heap.size w W → Calls Tryz.prog 135 #[.pointer (some ⟨b, 0, none⟩)] W fun e w' => e = .returned (.int .i64 z) ∧ W = w') := fun W hW => by
      have := c135 b 0 neg A n c xs W (HB.out W hW) (HD.out hs); rwa [HZ.out] at this
    have HS := Lib.hid hs
    clear hs
    go_enter Tryz.func116, Tryz.ntmps116
    go_wp2_with fail
    refine (H1.out _ hB0).mono ?_
    rintro e w1 ⟨rfl, rfl⟩
    go_wp2_with fail
    refine (H2.out _ hB0).mono ?_
    rintro e w1 ⟨rfl, rfl⟩
    go_wp2_with fail
    refine (c134 z _).mono ?_
    rintro e w1 ⟨rfl, hB⟩
    have hr := Lib.hid (hn1.out.below hB)
    have hBB := below_trans' hB0 hB
    have k0 := hr.out.cell 0 _ rfl
    have k1 := hr.out.cell 1 _ rfl
    have f0 := hr.out.free 0
    have hr1 := Lib.hid (hr.out.set 0 (.int .i64 z) #[.int .i64 z, .pointer none] rfl)
    have f1 := hr1.out.free 1
    have k2 := hr1.out.cell 1 _ rfl
    go_wp2_with fail
    refine bodyPost_ret (ret_row (set126 hr.out) rfl _ _ rfl Tryz.underlying126 rfl i126) rfl ?_
    exact ⟨_, rfl, fun W _ _ => .inl ⟨HS.out, rfl⟩, below_set' (below_set' hBB (Nat.le_refl _) _) (Nat.le_refl _) _⟩
set_option maxHeartbeats 1000000 in
theorem c121w (z : Int) (w : World) (h1 : -9223372036854775808 ≤ z) (h2 : z < 9223372036854775808) :
    Calls Tryz.prog 121 #[.int .i64 z] w fun e w' => ∃ B A n, e = .returned (.pointer (some ⟨B, 0, none⟩)) ∧ Sits w.heap.size (fun W => BigR W B 0 (decide (z < 0)) A n n (smw z)) w' ∧ Below w.heap.size w w' := by
  rcases (by omega : z = 0 ∨ z < 0 ∨ 0 < z) with h0 | h0 | h0
  · subst h0
    go_enter Tryz.func121, Tryz.ntmps121
    go_wp2_with fail
    go_ret
    have r := RowB.new w #[.bool false, .slice none 0 0] 229
    have hB := BigR.new0 r
    exact ⟨_, none, 0, rfl, hB.sits (Nat.le_refl _) (by simp), below_alloc' (Below.refl _ _) _⟩
  · have q : (z == 0) = false := by rw [beq_eq_false_iff_ne]; omega
    go_enter Tryz.func121, Tryz.ntmps121
    go_wp2_with fail
    go_ret
    have e : IntKind.u64.wrap (-IntKind.u64.wrap z) = (z.natAbs : Int) := by
      simp only [IntKind.wrap_u64]; omega
    exact ⟨_, _, _, rfl, newint_sits w z _ true (by omega) e (lt_wb (by omega)) (by simpa using h0), below_alloc' (below_alloc' (Below.refl _ _) _) _⟩
  · have q : (z == 0) = false := by rw [beq_eq_false_iff_ne]; omega
    have q2 : ¬ z < 0 := by omega
    go_enter Tryz.func121, Tryz.ntmps121
    go_wp2_with fail
    go_ret
    exact ⟨_, rfl, ⟨_, _, newint_sits w z z false (by omega) (by omega) (lt_wb (by omega)) (by simp; omega)⟩, below_alloc' (below_alloc' (Below.refl _ _) _) _⟩

theorem isSm_of {z : Int} (h : -2147483648 ≤ z ∧ z ≤ 2147483647) : isSm z = true := by
  unfold isSm; simp; omega
theorem isSm_not {z : Int} (h : ¬ (-2147483648 ≤ z ∧ z ≤ 2147483647)) : isSm z = false := by
  unfold isSm; rw [← Bool.decide_and]; simp; omega
def MkP (z : Int) (w : World) (e : Ending) (w' : World) : Prop := ∃ v, e = .returned v ∧ Sits w.heap.size (fun W => IntN 40 W z v) w' ∧ Below w.heap.size w w'
theorem IntN.form {N : Nat} {w : World} {z : Int} {v : Value} (h : IntN N w z v) : ∃ a q, v = .agg #[.int .i64 a, .pointer q] := by
  rcases h with ⟨-, rfl⟩ | ⟨-, b, neg, A, n, c, xs, rfl, -⟩ <;> exact ⟨_, _, rfl⟩
set_option maxHeartbeats 1000000 in
theorem c369 (z : Int) (w : World) (h1 : -9223372036854775808 ≤ z) (h2 : z < 9223372036854775808) : Calls Tryz.prog 369 #[.int .i64 z] w (MkP z w) := by
  have hn1 := Lib.hid (RowB.new w #[Value.int IntKind.i64 0, Value.pointer none] 126)
  have hB0 : Below w.heap.size w (w.alloc (.cells #[Value.int IntKind.i64 0, Value.pointer none] 126)) := below_alloc' (Below.refl _ _) _
  by_cases hs : -2147483648 ≤ z ∧ z ≤ 2147483647
  · have hsm := Lib.hid (isSm_of hs)
    obtain ⟨q1, q2⟩ := hs
    go_enter Tryz.func369, Tryz.ntmps369
    go_wp2_with fail
    refine (c134 z _).mono ?_
    rintro e w2 ⟨rfl, hB⟩
    have hr := Lib.hid (hn1.out.below hB)
    have k0 := hr.out.cell 0 _ rfl
    have k1 := hr.out.cell 1 _ rfl
    have f0 := hr.out.free 0
    have hr1 := Lib.hid (hr.out.set 0 (.int .i64 z) #[.int .i64 z, .pointer none] rfl)
    have f1 := hr1.out.free 1
    have k2 := hr1.out.cell 1 _ rfl
    go_wp2_with fail
    refine bodyPost_ret (ret_row (set126 hr.out) rfl _ _ rfl Tryz.underlying126 rfl i126) rfl ?_
    exact ⟨_, rfl, fun W _ _ => .inl ⟨hsm.out, rfl⟩, below_set' (below_set' (below_trans' hB0 hB) (Nat.le_refl _) _) (Nat.le_refl _) _⟩
  · have hsm := Lib.hid (isSm_not hs)
    have HC : Hid (∀ W, Calls Tryz.prog 121 #[.int .i64 z] W fun e w' => ∃ B A n, e = .returned (.pointer (some ⟨B, 0, none⟩)) ∧ Sits W.heap.size (fun W => BigR W B 0 (decide (z < 0)) A n n (smw z)) w' ∧ Below W.heap.size W w') := fun W => c121w z W h1 h2
    rcases (by omega : z < -2147483648 ∨ 2147483647 < z) with q | q
    all_goals
      have q1 := q
      clear hs q
      first
      | (have q2 : ¬ -2147483648 ≤ z := by omega)
      | (have q2 : ¬ z ≤ 2147483647 := by omega
         have q3 : -2147483648 ≤ z := by omega)
      go_enter Tryz.func369, Tryz.ntmps369
      go_wp2_with fail
      refine (HC.out _).mono ?_
      rintro e w2 ⟨B, A, n, rfl, hS, hB⟩
      rw [alloc_size] at hS
      have hB2 := below_trans' hB0 hB
      have HS := Lib.hid hS
      have hr2 := hn1.out.below hB
      clear hS
      go_wp2_with fail
      refine (c136 _ _).mono ?_
      rintro e w3 ⟨rfl, hB3⟩
      have hr := Lib.hid (hr2.below hB3)
      have k0 := hr.out.cell 0 _ rfl
      have k1 := hr.out.cell 1 _ rfl
      have f0 := hr.out.free 0
      have hr1 := Lib.hid (hr.out.set 0 (.int .i64 0) #[.int .i64 0, .pointer none] rfl)
      have f1 := hr1.out.free 1
      have k2 := hr1.out.cell 1 _ rfl
      go_wp2_with fail
      refine bodyPost_ret (ret_row (set126 hr.out) rfl _ _ rfl Tryz.underlying126 rfl i126) rfl ?_
      have hX := (HS.out.below hB3).grown (g := w.heap.size) (grown_set (grown_set (grown_refl _ _) 0 (.int .i64 0)) 1 (.pointer (some ⟨B, 0, none⟩))) (by omega)
      have hl := hX.out.nat.len
      have hl2 : (smw z).length ≤ 1 := by unfold smw; split <;> simp
      exact ⟨_, rfl, (hX.mono (by omega)).imp fun W hW => .inr ⟨hsm.out, B, _, A, n, n, smw z, rfl, hW, smw_zv z, by omega⟩, below_set' (below_set' (below_trans' hB2 hB3) (Nat.le_refl _) _) (Nat.le_refl _) _⟩
theorem c370 (b : Nat) (na : Bool) (A : Option Addr) (n c : Nat) (xs : List Nat) (w : World) (hX : BigR w b 0 na A n c xs) : Calls Tryz.prog 370 #[.pointer (some ⟨b, 0, none⟩)] w fun e w' => e = .returned (.pointer (some ⟨b, 0, none⟩)) ∧ w = w' := by
  have k := hX.sg
  clear hX
  go_enter Tryz.func370, Tryz.ntmps370
  go_wp2_with fail
  go_ret
  exact ⟨rfl, rfl⟩
theorem c371 (b g : Nat) (nb : Bool) (w : World) (hY : BigR w b 2 nb (some ⟨g, 0, none⟩) 1 1 [1]) : Calls Tryz.prog 371 #[.pointer (some ⟨b, 0, none⟩)] w fun e w' => e = .returned (.pointer (some ⟨b, 2, none⟩)) ∧ w = w' := by
  have k := hY.ab
  have k2 := hY.sg
  clear hY
  go_enter Tryz.func371, Tryz.ntmps371
  go_wp2_with fail
  go_ret
  exact ⟨rfl, rfl⟩
def Div1 (Z : Nat) (w : World) (e : Ending) (w' : World) : Prop :=
  ∃ neg B m d qs, e = .returned (.pointer (some ⟨Z, 0, none⟩)) ∧ BigR w' Z 0 neg B m d qs ∧ m ≤ 40 ∧ ∀ N, N ≤ Z → N ≤ w.heap.size → Below N w w'
theorem rem_one {rs xs : List Nat} (hr : Nrm rs) (h : nv rs = nv xs % 1) : rs = [] := (nv_zero_iff hr).1 (by rw [h]; omega)
set_option maxHeartbeats 1000000 in
theorem c235 (Z b g : Nat) (na : Bool) (A : Option Addr) (n c : Nat) (xs : List Nat) (w : World) (hz : BigR w Z 0 false none 0 0 []) (hX : BigR w b 0 na A n c xs) (hY : BigR w b 2 false (some ⟨g, 0, none⟩) 1 1 [1]) (hne : Z ≠ b) (hn0 : 0 < n) (hn : n < 40) :
    Calls Tryz.prog 235 #[.pointer (some ⟨Z, 0, none⟩), .pointer (some ⟨b, 0, none⟩), .pointer (some ⟨b, 2, none⟩)] w (Div1 Z w) := by
  have lz := hz.lt
  have lb := hX.lt
  have hB0 : Below w.heap.size w (w.alloc (.cells #[.bool false, .slice none 0 0] 229)) := below_alloc' (Below.refl _ _) _
  have H := Lib.hid (c248 Z b 0 b 2 w.heap.size na false A n c xs 1 g 1 (w.alloc (.cells #[.bool false, .slice none 0 0] 229)) (hz.below hB0) (BigR.new0 (RowB.new w _ _)) (hX.below hB0) (hY.below hB0) (by omega) hne hne (by omega) (by omega) hn0 (by omega) (by omega))
  have k := hY.sg
  have hl := Lib.hid hX.nat.len
  clear hz hX hY
  go_enter Tryz.func235, Tryz.ntmps235
  go_wp2_with fail
  refine H.out.mono ?_
  rintro e w2 ⟨B, m, d, qs, C, k', f, rs, rfl, hQ, hR, -, hm, hv, hU, -, -⟩
  obtain rfl := rem_one hR.nrm hv
  obtain rfl : k' = 0 := by have := hR.nat.len; simpa using this.symm
  have r0 := hR.sg
  rw [show (decide (0 < 0) && na) = false from rfl] at r0
  have HQ := Lib.hid hQ
  have HU := Lib.hid hU
  clear hQ hR hv hU H
  go_wp2_with fail
  go_ret
  exact ⟨_, B, m, d, qs, rfl, HQ.out, by have := hl.out; omega, fun N h1 h2 => below_comp (hB0.mono h2) (HU.out.below h1 h2 (by rw [alloc_size]; omega))⟩
theorem read_lo : Ieee.double.read 14114281232179134464 = .number true 4503599627370496 11 := by decide
theorem read_hi : Ieee.double.read 4890909195324358656 = .number false 4503599627370496 11 := by decide
theorem cut_le (s : Bool) (n d : Nat) : Ieee.Toward.zero.cut s n d ≤ n := by
  unfold Ieee.Toward.cut
  simp only [Bool.toNat_false, Nat.add_zero]
  exact Nat.div_le_self _ _
theorem cut_zero (s : Bool) (n : Nat) : Ieee.Toward.zero.cut s n 0 = n := by
  unfold Ieee.Toward.cut
  simp
theorem f2i {u : Nat} (hf : fFin u) (h1 : FloatKind.f64.format.order 14114281232179134464 u = some .lt ∨ FloatKind.f64.format.order 14114281232179134464 u = some .eq) (h2 : FloatKind.f64.format.order u 4890909195324358656 = some .lt) :
    ∃ z : Int, floatToIntVal .f64 u .i64 = some z ∧ -9223372036854775808 ≤ z ∧ z < 9223372036854775808 := by
  have key : ∃ z : Int, (FloatKind.f64.decode u).toInt .zero = some z ∧ -9223372036854775808 ≤ z ∧ z < 9223372036854775808 := by
    have e : FloatKind.f64.decode u = Ieee.double.read u := rfl
    have e' : FloatKind.f64.format = Ieee.double := rfl
    rw [e' ] at h1 h2
    rw [e]
    unfold Ieee.Format.order at h1 h2
    rw [read_num hf, read_lo] at h1
    rw [read_num hf, read_hi] at h2
    rw [read_num hf]
    simp only [Ieee.Datum.order, Option.some.injEq, cmp_lt_iff, cmp_eq_iff] at h1 h2
    have hM := fM_le u
    generalize fM u = M at *
    generalize fS u = s at *
    generalize hp : (-1074 + ((fE u - 1 : Nat) : Int)) = p at *
    clear hp hf
    unfold Ieee.Datum.toInt Ieee.Datum.integral
    simp only
    refine ⟨_, rfl, ?_⟩
    by_cases hp : 0 ≤ p
    · have hd : (-p).toNat = 0 := by omega
      rw [hd, cut_zero]
      unfold Ieee.signed at *
      simp only [shl_eq, if_true, Bool.false_eq_true, if_false, Nat.pow_zero, Nat.mul_one] at *
      by_cases h11 : p ≤ 11
      · rw [Int.min_eq_right h11] at h1
        rw [Int.min_eq_left h11] at h2
        have e1 : (p - p).toNat = 0 := by omega
        rw [e1] at h1 h2
        rw [Nat.pow_zero, Nat.mul_one] at h1 h2
        have e3 : (2 : Nat) ^ (11 - p).toNat * 2 ^ p.toNat = 2048 := by
          rw [← Nat.pow_add, show (11 - p).toNat + p.toNat = 11 by omega]
        generalize (2 : Nat) ^ (11 - p).toNat = a at *
        generalize (2 : Nat) ^ p.toNat = b at *
        have hle : M ≤ 4503599627370496 * a := by
          cases s
          · simp only [Bool.false_eq_true, if_false] at h1 h2; omega
          · simp only [if_true] at h1 h2; omega
        have hmul : M * b ≤ 4503599627370496 * a * b := Nat.mul_le_mul_right b hle
        rw [Nat.mul_assoc, e3] at hmul
        cases s
        · simp only [Bool.false_eq_true, if_false] at *
          have hlt : M < 4503599627370496 * a := by omega
          have hb : 0 < b := by rcases Nat.eq_zero_or_pos b with h | h; (subst h; simp at e3); exact h
          have hmul2 : M * b < 4503599627370496 * a * b := Nat.mul_lt_mul_of_pos_right hlt hb
          rw [Nat.mul_assoc, e3] at hmul2
          omega
        · simp only [if_true] at *
          omega
      · rw [Int.min_eq_left (by omega)] at h1
        rw [Int.min_eq_right (by omega)] at h2
        have e1 : ((11 : Int) - 11).toNat = 0 := by omega
        rw [e1] at h1 h2
        rw [Nat.pow_zero, Nat.mul_one] at h1 h2
        have e3 : (2 : Nat) ^ p.toNat = 2 ^ (p - 11).toNat * 2048 := by
          rw [show p.toNat = (p - 11).toNat + 11 by omega, Nat.pow_add]
        rw [e3, ← Nat.mul_assoc]
        generalize M * 2 ^ (p - 11).toNat = X at *
        cases s
        · simp only [Bool.false_eq_true, if_false] at *
          omega
        · simp only [if_true] at *
          omega
    · have hd : p.toNat = 0 := by omega
      rw [hd]
      have hz : M <<< 0 = M := rfl
      rw [hz]
      have hc := cut_le s M (-p).toNat
      generalize Ieee.Toward.zero.cut s M (-p).toNat = X at *
      unfold Ieee.signed
      have hz2 : X <<< 0 = X := rfl
      rw [hz2]
      split <;> omega
  obtain ⟨z, hz, h3, h4⟩ := key
  refine ⟨z, ?_, h3, h4⟩
  unfold floatToIntVal
  rw [hz]
  have m1 : IntKind.min .i64 = -9223372036854775808 := by decide
  have m2 : IntKind.max .i64 = 9223372036854775807 := by decide
  simp only [m1, m2]
  rw [if_pos (by omega)]
theorem f2far {u : Nat} (hf : fFin u) (h : ¬ ((FloatKind.f64.format.order 14114281232179134464 u = some .lt ∨ FloatKind.f64.format.order 14114281232179134464 u = some .eq) ∧ FloatKind.f64.format.order u 4890909195324358656 = some .lt)) : 1075 ≤ fE u := by
  apply Classical.byContradiction
  intro hc
  apply h
  have e' : FloatKind.f64.format = Ieee.double := rfl
  rw [e']
  unfold Ieee.Format.order
  rw [read_num hf, read_lo, read_hi]
  simp only [Ieee.Datum.order, Option.some.injEq, cmp_lt_iff, cmp_eq_iff]
  have hM := fM_le u
  have hp : -1074 + ((fE u - 1 : Nat) : Int) ≤ 0 := by omega
  generalize fM u = M at *
  generalize fS u = s at *
  generalize (-1074 + ((fE u - 1 : Nat) : Int)) = p at *
  rw [Int.min_eq_right (by omega), Int.min_eq_left (by omega)]
  have e1 : (p - p).toNat = 0 := by omega
  rw [e1]
  unfold Ieee.signed
  simp only [shl_eq, if_true, Bool.false_eq_true, if_false, Nat.pow_zero, Nat.mul_one]
  have h2 : (2 : Nat) ^ 11 ≤ 2 ^ (11 - p).toNat := Nat.pow_le_pow_right (by omega) (by omega)
  generalize (2 : Nat) ^ (11 - p).toNat = a at *
  cases s
  · simp only [Bool.false_eq_true, if_false]; omega
  · simp only [if_true]; omega
theorem c367 (u : Nat) (w : World) (hu : u < 18446744073709551616) : Calls Tryz.prog 367 #[.float .f64 u] w fun e w' => ∃ r, e = .returned (.bool r) ∧ (r = true → fFin u) ∧ w = w' := by
  have H := Lib.hid (c164 u w hu)
  have hf := Lib.hid (fin_abs (u := u))
  generalize u % 9223372036854775808 = m at *
  go_enter Tryz.func367, Tryz.ntmps367
  go_wp2_with fail
  refine H.out.mono ?_
  rintro e w1 ⟨rfl, rfl⟩
  go_wp2_with fail
  go_ret
  exact ⟨_, rfl, fun h => hf.out (by
    rw [Bool.or_eq_true, beq_iff_eq, beq_iff_eq] at h
    exact h), rfl⟩
set_option maxHeartbeats 1000000 in
theorem c184f (u : Nat) (w : World) (hu : u < 18446744073709551616) (hf : fFin u) (he : 1075 ≤ fE u) : Calls Tryz.prog 184 #[.float .f64 u] w fun e w' => ∃ b na A n c xs g, e = .returned (.pointer (some ⟨b, 0, none⟩)) ∧ BigR w' b 0 na A n c xs ∧ BigR w' b 2 false (some ⟨g, 0, none⟩) 1 1 [1] ∧ 0 < n ∧ n < 40 ∧ Below w.heap.size w w' := by
  have r0 := RowB.new w #[.bool false, .slice none 0 0, .bool false, .slice none 0 0] 314
  have hX : BigR (w.alloc (.cells #[.bool false, .slice none 0 0, .bool false, .slice none 0 0] 314)) w.heap.size 0 false none 0 0 [] := ⟨r0.blk0, r0.cell 0 _ rfl, r0.cell 1 _ rfl, NatR.nil _, Nrm.nil⟩
  have hY : BigR (w.alloc (.cells #[.bool false, .slice none 0 0, .bool false, .slice none 0 0] 314)) w.heap.size 2 false none 0 0 [] := ⟨r0.blk0, r0.cell 2 _ rfl, r0.cell 3 _ rfl, NatR.nil _, Nrm.nil⟩
  have H := Lib.hid (c193 w.heap.size w.heap.size u _ hu hf hX hY (Nat.le_refl _))
  clear r0 hX hY
  go_enter Tryz.func184, Tryz.ntmps184
  go_wp2_with fail
  refine H.out.mono ?_
  rintro e w1 ⟨za, nb, rfl, hR, hl, hB, h1⟩
  have H1 := Lib.hid (h1 he)
  clear hR hl H h1
  go_wp2_with fail
  go_ret
  obtain ⟨na, A, n, c, xs, g, h2, h3, h4, h5⟩ := H1.out
  exact ⟨_, na, A, n, c, xs, g, rfl, h2, h3, h4, h5, below_comp (below_alloc' (Below.refl _ _) _) hB⟩
set_option maxHeartbeats 2000000 in
theorem c368 (u : Nat) (w : World) (hu : u < 18446744073709551616) (hf : fFin u) : Calls Tryz.prog 368 #[.float .f64 u] w fun e w' => ∃ z v, e = .returned v ∧ IntN 40 w' z v ∧ Below w.heap.size w w' := by
  have hn1 := Lib.hid (RowB.new w #[Value.int IntKind.i64 0, Value.pointer none] 126)
  have hB0 : Below w.heap.size w (w.alloc (.cells #[Value.int IntKind.i64 0, Value.pointer none] 126)) := below_alloc' (Below.refl _ _) _
  by_cases hc : ((FloatKind.f64.format.order 14114281232179134464 u = some .lt ∨ FloatKind.f64.format.order 14114281232179134464 u = some .eq) ∧ FloatKind.f64.format.order u 4890909195324358656 = some .lt)
  · obtain ⟨z, hz, hz1, hz2⟩ := f2i hf hc.1 hc.2
    have q1 : (FloatKind.f64.format.order 14114281232179134464 u == some .lt || FloatKind.f64.format.order 14114281232179134464 u == some .eq) = true := by
      rw [Bool.or_eq_true, beq_iff_eq, beq_iff_eq]; exact hc.1
    have q2 : (FloatKind.f64.format.order u 4890909195324358656 == some .lt) = true := by rw [beq_iff_eq]; exact hc.2
    have hcv : ∀ W, (convert 129 2 (.float .f64 u)).run Tryz.prog W = .ok (.int .i64 z) W := fun W => run_convert_float_int W 129 2 .f64 .i64 u z (by rw [Tryz.underlying129]; rfl) Tryz.underlying2 hz
    have H369 := Lib.hid (c369 z (w.alloc (.cells #[Value.int IntKind.i64 0, Value.pointer none] 126)) hz1 hz2)
    clear hc hz
    go_enter Tryz.func368, Tryz.ntmps368
    go_wp2_with (simp only [hcv])
    refine H369.out.mono ?_
    rintro e w2 ⟨v, rfl, hS, hB⟩
    rw [alloc_size] at hS
    obtain ⟨a, q, rfl⟩ := hS.out.form
    have HS := Lib.hid hS
    have hr := Lib.hid (hn1.out.below hB)
    have k0 := hr.out.cell 0 _ rfl
    have k1 := hr.out.cell 1 _ rfl
    have f0 := hr.out.free 0
    have hr1 := Lib.hid (hr.out.set 0 (.int .i64 a) #[.int .i64 a, .pointer none] rfl)
    have f1 := hr1.out.free 1
    have k2 := hr1.out.cell 1 _ rfl
    clear hS H369
    go_wp2_with fail
    refine bodyPost_ret (ret_row (set126 hr.out) rfl _ _ rfl Tryz.underlying126 rfl i126) rfl ?_
    have hX := HS.out.grown (g := w.heap.size) (grown_set (grown_set (grown_refl _ _) 0 (.int .i64 a)) 1 (.pointer q)) (by omega)
    exact ⟨z, _, rfl, hX.out, below_set' (below_set' (below_trans' hB0 hB) (Nat.le_refl _) _) (Nat.le_refl _) _⟩
  · have hfar := f2far hf hc
    have H184 := Lib.hid (c184f u (w.alloc (.cells #[Value.int IntKind.i64 0, Value.pointer none] 126)) hu hf hfar)
    have qq : ((FloatKind.f64.format.order 14114281232179134464 u == some .lt || FloatKind.f64.format.order 14114281232179134464 u == some .eq) && (FloatKind.f64.format.order u 4890909195324358656 == some .lt)) = false := by
      rw [Bool.eq_false_iff]
      intro h
      rw [Bool.and_eq_true, Bool.or_eq_true, beq_iff_eq, beq_iff_eq, beq_iff_eq] at h
      exact hc h
    clear hc
    cases hb1 : (FloatKind.f64.format.order 14114281232179134464 u == some .lt || FloatKind.f64.format.order 14114281232179134464 u == some .eq)
    all_goals
      rw [hb1] at qq
      try simp only [Bool.true_and] at qq
      go_enter Tryz.func368, Tryz.ntmps368
      go_wp2_with fail
      refine H184.out.mono ?_
      rintro e w2 ⟨b, na, A, n, c, xs, g, rfl, hX, hY, hn0, hn, hB⟩
      have hB2 := below_trans' hB0 hB
      have hr2 := hn1.out.below hB
      have lb := hX.lt
      have hB3 : Below w2.heap.size w2 (w2.alloc (.cells #[.bool false, .slice none 0 0] 229)) := below_alloc' (Below.refl _ _) _
      have H370 := Lib.hid (c370 b na A n c xs _ (hX.below hB3))
      have H371 := Lib.hid (c371 b g false _ (hY.below hB3))
      have H235 := Lib.hid (c235 w2.heap.size b g na A n c xs _ (BigR.new0 (RowB.new w2 _ _)) (hX.below hB3) (hY.below hB3) (by omega) hn0 hn)
      have hr3 := Lib.hid (hr2.below hB3)
      have l2 : w.heap.size < w2.heap.size := hr2.lt
      clear hX hY H184
      go_wp2_with fail
      refine H370.out.mono ?_
      rintro e w3 ⟨rfl, rfl⟩
      clear H370
      go_wp2_with fail
      refine H371.out.mono ?_
      rintro e w3 ⟨rfl, rfl⟩
      clear H371
      go_wp2_with fail
      refine H235.out.mono ?_
      rintro e w4 ⟨neg, B, m, d, qs, rfl, hQ, hm, hBN⟩
      have hB4 := hBN w2.heap.size (Nat.le_refl _) (by rw [alloc_size]; omega)
      have H116 := Lib.hid (c116N w2.heap.size neg B m d qs _ w4 hQ rfl hm)
      have b24 := below_comp hB3 hB4
      have hr4 := Lib.hid (hr2.below b24)
      clear H235 hQ hBN hr3
      go_wp2_with fail
      refine H116.out.mono ?_
      rintro e w5 ⟨v, rfl, hS, hB5⟩
      obtain ⟨a, q, rfl⟩ := hS.out.form
      have HS := Lib.hid hS
      have hr := Lib.hid (hr4.out.below hB5)
      have k0 := hr.out.cell 0 _ rfl
      have k1 := hr.out.cell 1 _ rfl
      have f0 := hr.out.free 0
      have hr1 := Lib.hid (hr.out.set 0 (.int .i64 a) #[.int .i64 a, .pointer none] rfl)
      have f1 := hr1.out.free 1
      have k2 := hr1.out.cell 1 _ rfl
      have l4 := b24.size
      clear hS H116
      go_wp2_with fail
      refine bodyPost_ret (ret_row (set126 hr.out) rfl _ _ rfl Tryz.underlying126 rfl i126) rfl ?_
      have hX := HS.out.grown (g := w.heap.size) (grown_set (grown_set (grown_refl _ _) 0 (.int .i64 a)) 1 (.pointer q)) (by omega)
      exact ⟨_, _, rfl, hX.out, below_set' (below_set' (below_trans' (below_trans' hB2 b24) hB5) (Nat.le_refl _) _) (Nat.le_refl _) _⟩
theorem FHashC_all : FHashC := by
  intro u w hu
  have H := Lib.hid (c367 u w hu)
  have H2 : Hid (fFin u → Calls Tryz.prog 368 #[.float .f64 u] w fun e w' => ∃ z v, e = .returned v ∧ IntN 40 w' z v ∧ Below w.heap.size w w') := fun hf => c368 u w hu hf
  go_enter Tryz.func362, Tryz.ntmps362
  go_wp2_with fail
  refine H.out.mono ?_
  rintro e w1 ⟨r, rfl, hf, rfl⟩
  cases r
  · clear H hf
    go_wp2_with fail
    go_ret2
    exact ⟨1618033, by omega, rfl, Below.refl _ _⟩
  · have hff := hf rfl
    have H3 := Lib.hid (H2.out hff)
    clear H hf hff H2
    go_wp2_with fail
    refine H3.out.mono ?_
    rintro e w2 ⟨z, v, rfl, hI, hB⟩
    have H353 := Lib.hid (c353 40 v z w2 hI)
    clear H3 hI
    go_wp2_with fail
    refine H353.out.mono ?_
    rintro e w3 ⟨hh, h1, rfl, hB3⟩
    go_wp2_with fail
    go_ret2
    exact ⟨hh, h1, rfl, below_trans' hB hB3⟩
end Go.Proofs.YtpfihjkhgfoijaaGreatDoor

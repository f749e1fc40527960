/- Contracts: NewInt, Int.get, Int.BigInt, Sign; Contracts: nat.bytes, Int.Bytes; Contract: impl.number. -/
import Derived.Test.YtpfihjkhgfoijaaGreatDoorQ10
set_option linter.unusedVariables false
set_option linter.unusedSimpArgs false
set_option maxRecDepth 100000
namespace Go.Proofs.YtpfihjkhgfoijaaGreatDoor
open Go.RowKit

theorem c119 (i : Int) (p : Option Addr) (w : World) : Calls Tryz.prog 119 #[.agg #[.int .i64 i, .pointer p]] w fun e w' => e = .returned (.tuple #[.int .i64 i, .pointer p]) ∧ Below w.heap.size w w' := by
  obtain ⟨w1, hw1, b1, r1⟩ : ∃ w1, (w.alloc (.cells #[.int .i64 i, .pointer p] 126)) = w1 ∧ Below w.heap.size w w1 ∧ RowB w1 w.heap.size #[.int .i64 i, .pointer p] 126 :=
    ⟨_, rfl, below_alloc' (Below.refl _ _) _, RowB.new w _ _⟩
  have k0 := r1.cell 0 _ rfl
  have k1 := r1.cell 1 _ rfl
  go_enter Tryz.func119, Tryz.ntmps119
  go_wp2_with fail
  clear hw1
  go_quiet (fail)
  go_wp2_with fail
  go_ret2
  exact ⟨rfl, below_drewN' b1 _⟩

/-- the words of an int64 -/
def smw (z : Int) : List Nat := if z = 0 then [] else [z.natAbs]
theorem smw_nrm (z : Int) : Nrm (smw z) := by
  unfold smw; split
  · exact .inl rfl
  · exact .inr (by simp; omega)
theorem smw_zv (z : Int) : zv (decide (z < 0)) (smw z) = z := by
  unfold zv smw
  by_cases h0 : z = 0
  · subst h0; rfl
  · rw [if_neg h0, nv_one]
    by_cases hn : z < 0
    · rw [if_pos (by simpa using hn)]; omega
    · rw [if_neg (by simpa using hn)]; omega
theorem natr_one (w : World) (g x : Nat) (h : WBlk w g [x]) (hx : x < WB) : NatR w (some ⟨g, 0, none⟩) 1 1 [x] :=
  ⟨rfl, by omega, by omega, by simpa using hx, .inr ⟨g, [], rfl, by simpa using h, rfl⟩⟩
theorem newint_sits (w : World) (z y : Int) (b : Bool) (hz : z ≠ 0) (hy : y = (z.natAbs : Int)) (hl : z.natAbs < WB) (hb : b = decide (z < 0)) :
    Sits w.heap.size (fun W => BigR W (w.heap.size + 1) 0 (decide (z < 0)) (some ⟨w.heap.size, 0, none⟩) 1 1 (smw z))
      ((w.alloc (.cells #[.int .u64 y] 254)).alloc (.cells #[.bool b, .slice (some ⟨w.heap.size, 0, none⟩) 1 1] 229)) := by
  subst hy hb
  have e : (#[.int .u64 (z.natAbs : Int)] : Array Value) = wrow [z.natAbs] := by rw [wrow_of]; rfl
  have hw : smw z = [z.natAbs] := if_neg hz
  rw [e, hw]
  have r := RowB.new (w.alloc (.cells (wrow [z.natAbs]) 254)) #[.bool (decide (z < 0)), .slice (some ⟨w.heap.size, 0, none⟩) 1 1] 229
  have hb := (WBlk.new w [z.natAbs]).below (below_alloc' (Below.refl _ _) (.cells #[.bool (decide (z < 0)), .slice (some ⟨w.heap.size, 0, none⟩) 1 1] 229))
  rw [alloc_size] at r
  have hB : BigR ((w.alloc (.cells (wrow [z.natAbs]) 254)).alloc (.cells #[.bool (decide (z < 0)), .slice (some ⟨w.heap.size, 0, none⟩) 1 1] 229)) (w.heap.size + 1) 0 (decide (z < 0)) (some ⟨w.heap.size, 0, none⟩) 1 1 [z.natAbs] :=
    ⟨r.blk0, r.cell 0 _ rfl, r.cell 1 _ rfl, natr_one _ _ _ hb hl, hw ▸ smw_nrm z⟩
  exact hB.sits (by omega) (fun a ha => by cases ha; exact Nat.le_refl _)
set_option maxHeartbeats 1000000 in
theorem c121 (z : Int) (w : World) (h1 : -9223372036854775808 < z) (h2 : z < 9223372036854775808) :
    Calls Tryz.prog 121 #[.int .i64 z] w fun e w' => ∃ B A n, e = .returned (.pointer (some ⟨B, 0, none⟩)) ∧ Sits w.heap.size (fun W => BigR W B 0 (decide (z < 0)) A n n (smw z)) w' ∧ Below w.heap.size w w' := by
  rcases (by omega : z = 0 ∨ z < 0 ∨ 0 < z) with h0 | h0 | h0
  · subst h0
    go_enter Tryz.func121, Tryz.ntmps121
    go_wp2_with fail
    go_ret
    have r := RowB.new w #[.bool false, .slice none 0 0] 229
    have hB := BigR.new0 r
    exact ⟨_, none, 0, rfl, hB.sits (Nat.le_refl _) (by simp), below_alloc' (Below.refl _ _) _⟩
  · have q : (z == 0) = false := by rw [beq_eq_false_iff_ne]; omega
    go_enter Tryz.func121, Tryz.ntmps121
    go_wp2_with fail
    go_ret
    have e : IntKind.u64.wrap (-IntKind.u64.wrap z) = (z.natAbs : Int) := by
      simp only [IntKind.wrap_u64]; omega
    exact ⟨_, _, _, rfl, newint_sits w z _ true (by omega) e (lt_wb (by omega)) (by simpa using h0), below_alloc' (below_alloc' (Below.refl _ _) _) _⟩
  · have q : (z == 0) = false := by rw [beq_eq_false_iff_ne]; omega
    have q2 : ¬ z < 0 := by omega
    go_enter Tryz.func121, Tryz.ntmps121
    go_wp2_with fail
    go_ret
    exact ⟨_, rfl, ⟨_, _, newint_sits w z z false (by omega) (by omega) (lt_wb (by omega)) (by simp; omega)⟩, below_alloc' (below_alloc' (Below.refl _ _) _) _⟩

theorem isSm_rng {z : Int} (h : isSm z = true) : -2147483648 ≤ z ∧ z < 2147483648 := by
  unfold isSm at h
  simpa using h
set_option maxHeartbeats 1000000 in
theorem c99 (v : Value) (z : Int) (w : World) (h : IntV w z v) :
    Calls Tryz.prog 99 #[v] w fun e w' => ∃ B neg A n c xs, e = .returned (.pointer (some ⟨B, 0, none⟩)) ∧ Sits w.heap.size (fun W => BigR W B 0 neg A n c xs) w' ∧ zv neg xs = z ∧ n ≤ 8 ∧ Below w.heap.size w w' := by
  rcases h with ⟨hs, rfl⟩ | ⟨hs, b, neg, A, n, c, xs, rfl, hB, hz, hn⟩
  · have hr := isSm_rng hs
    obtain ⟨w1, hw1, b1, r1⟩ : ∃ w1, (w.alloc (.cells #[.int .i64 z, .pointer none] 126)) = w1 ∧ Below w.heap.size w w1 ∧ RowB w1 w.heap.size #[.int .i64 z, .pointer none] 126 :=
      ⟨_, rfl, below_alloc' (Below.refl _ _) _, RowB.new w _ _⟩
    have k0 := r1.cell 0 _ rfl
    have k1 := r1.cell 1 _ rfl
    clear hs
    go_enter Tryz.func99, Tryz.ntmps99
    go_wp2_with fail
    clear hw1
    refine (c119 z none w1).mono ?_
    rintro e w2 ⟨rfl, hB⟩
    have b2 := below_trans' b1 hB
    go_wp2_with fail
    refine (c121 z w2 (by omega) (by omega)).mono ?_
    rintro e w3 ⟨B, A, n, rfl, hS, hB3⟩
    have hn : n ≤ 8 := by
      have := hS.out.nat.len
      unfold smw at this
      split at this <;> simp at this <;> omega
    have hz := smw_zv z
    clear k0 k1
    go_wp2_with fail
    go_ret
    exact ⟨_, _, _, _, _, _, rfl, hS.mono b2.size, hz, hn, below_trans' b2 hB3⟩
  · obtain ⟨w1, hw1, b1, r1⟩ : ∃ w1, (w.alloc (.cells #[.int .i64 0, .pointer (some ⟨b, 0, none⟩)] 126)) = w1 ∧ Below w.heap.size w w1 ∧ RowB w1 w.heap.size #[.int .i64 0, .pointer (some ⟨b, 0, none⟩)] 126 :=
      ⟨_, rfl, below_alloc' (Below.refl _ _) _, RowB.new w _ _⟩
    have k0 := r1.cell 0 _ rfl
    have k1 := r1.cell 1 _ rfl
    have hB1 := hB.below b1
    go_enter Tryz.func99, Tryz.ntmps99
    go_wp2_with fail
    clear hw1
    refine (c119 0 _ w1).mono ?_
    rintro e w2 ⟨rfl, hB⟩
    have b2 := below_trans' b1 hB
    go_wp2_with fail
    have hX := hB1.below hB
    have hlt := hX.lt
    have b3 : Below w.heap.size w (w2.alloc (.cells #[.bool false, .slice none 0 0] 229)) := below_alloc' b2 _
    have hsz := alloc_size w2 (.cells #[.bool false, .slice none 0 0] 229)
    refine (c120 w2.heap.size 0 b 0 neg A n c xs _ (BigR.new0 (RowB.new w2 _ _)) (hX.below (below_alloc' (Below.refl _ _) _)) (by omega) (by omega)).mono ?_
    rintro e w3 ⟨B, d, rfl, hX3, hG, hfr, -⟩
    have l2 := b2.size
    have HX := Lib.hid hX3
    have HZ := Lib.hid hz
    clear k0 k1 hX3 hz hB1 hX
    go_wp2_with fail
    go_ret
    exact ⟨_, _, _, _, _, _, rfl, HX.out.sits l2 (fun a ha => by have := hfr a ha; omega), HZ.out, hn, below_grown' b3 hG l2⟩

theorem c100 (b o : Nat) (neg : Bool) (A : Option Addr) (n c : Nat) (xs : List Nat) (w : World) (h : BigR w b o neg A n c xs) :
    Calls Tryz.prog 100 #[.pointer (some ⟨b, o, none⟩)] w fun e w' => e = .returned (.int .i64 (if n = 0 then 0 else if neg then -1 else 1)) ∧ w = w' := by
  have h0 := h.sg
  have h1 := h.ab
  clear h
  by_cases hn : n = 0
  · subst hn
    go_enter Tryz.func100, Tryz.ntmps100
    go_wp2_with fail
    go_ret
    exact ⟨rfl, rfl⟩
  · have q : ((n : Int) == 0) = false := by rw [beq_eq_false_iff_ne]; omega
    rw [if_neg hn]
    cases neg
    all_goals
      go_enter Tryz.func100, Tryz.ntmps100
      go_wp2_with fail
      go_ret
      exact ⟨rfl, rfl⟩
end Go.Proofs.YtpfihjkhgfoijaaGreatDoor
namespace Go.Proofs.YtpfihjkhgfoijaaGreatDoor
open Go.RowKit

@[irreducible] def brow (xs : List Nat) : Array Value := (xs.map fun (x : Nat) => Value.int .u8 (x : Int)).toArray
theorem brow_of (xs : List Nat) : brow xs = (xs.map fun (x : Nat) => Value.int .u8 (x : Int)).toArray := by unfold brow; rfl
theorem brow_get {xs : List Nat} {i : Nat} (h : i < xs.length) : (brow xs)[i]? = some (.int .u8 ((xs.getD i 0 : Nat) : Int)) := by
  rw [brow_of]; simp [h]
theorem brow_set (xs : List Nat) (i : Nat) (v : Nat) : (brow xs).setIfInBounds i (.int .u8 (v : Int)) = brow (xs.set i v) := by
  rw [brow_of, brow_of]; simp [List.map_set]
theorem brow_size (xs : List Nat) : (brow xs).size = xs.length := by rw [brow_of]; simp
/-- block g holds the bytes zs -/
def BBlk (w : World) (g : Nat) (zs : List Nat) : Prop := RowB w g (brow zs) 5
theorem BBlk.cell {w : World} {g : Nat} {zs : List Nat} (h : BBlk w g zs) {i : Nat} (hi : i < zs.length) : w.cell? ⟨g, i, none⟩ = some (.int .u8 ((zs.getD i 0 : Nat) : Int)) := RowB.cell h i _ (brow_get hi)
theorem BBlk.set {w : World} {g : Nat} {zs : List Nat} (h : BBlk w g zs) (i v : Nat) : BBlk (w.setCell ⟨g, i, none⟩ (.int .u8 (v : Int))) g (zs.set i v) := RowB.set h i _ _ (brow_set zs i v)
theorem info5 : (Tryz.prog.info? 5).map (fun i => (i.zero, i.size, i.bytes)) = some (some (.int .u8 0), 1, 1) := by kernel_rfl
theorem brow_replicate (n : Nat) : brow (List.replicate n 0) = madeCells #[.int .u8 0] n := by
  rw [brow_of]
  apply Array.ext'
  rw [toList_madeCells_one]
  simp
theorem run_make5 (n c : Nat) (h : n ≤ c) (hc : c ≤ 4611686018427) (w : World) :
   (Instr.makeSlice 32 (.int .i64 (n : Int)) (.int .i64 (c : Int))).run Tryz.prog w = .ok (.slice (some ⟨w.heap.size, 0, none⟩) n c) (w.alloc (.cells (brow (List.replicate c 0)) 5)) := by
  obtain ⟨i, hi, hzz⟩ := Option.map_eq_some_iff.1 info5
  simp only [Prod.mk.injEq] at hzz
  obtain ⟨hz, hs, hb⟩ := hzz
  have := run_make (P := Tryz.prog) w 32 5 i (.int .u8 0) Tryz.underlying32 hi hz .i64 .i64 n c (by omega) (by omega) (by rw [hb]; omega) (by omega)
  rw [this, brow_replicate]
  simp [hs, Value.cells]

theorem bval_drop_set (zs : List Nat) (i v : Nat) (h : i < zs.length) : bval ((zs.set i v).drop i) = v * 256 ^ (zs.length - (i + 1)) + bval (zs.drop (i + 1)) := by
  rw [drop_step _ i (by simpa using h), bval_cons]
  simp [List.getD_eq_getElem?_getD, h, List.drop_set]

set_option maxHeartbeats 2000000 in
theorem c122 (A : Option Addr) (n c : Nat) (xs : List Nat) (g : Nat) (zs : List Nat) (w : World) (h : NatR w A n c xs) (hb : BBlk w g zs) (hz : zs.length = 8 * n) (hzr : ∀ b ∈ zs, b < 256) (hg : ∀ a, A = some a → a.block ≠ g) (hn : n ≤ 100) :
    Calls Tryz.prog 122 #[.slice A n c, .slice (some ⟨g, 0, none⟩) (8 * n) (8 * n)] w fun e w' => ∃ (i : Nat) (zs' : List Nat), e = .returned (.int .i64 i) ∧ BBlk w' g zs' ∧ zs'.length = 8 * n ∧ (∀ b ∈ zs', b < 256) ∧ i ≤ 8 * n ∧ bval (zs'.drop i) = nv xs ∧ (i = 8 * n ∨ zs'.getD i 0 ≠ 0) ∧ w.grownBy w' (some g) := by
  have hl := Lib.hid h.len
  have HZ := Lib.hid hz
  have HC : Hid (∀ i, i < n → ∃ a, A = some ⟨a, 0, none⟩ ∧ a ≠ g ∧ w.cell? ⟨a, i, none⟩ = some (.int .u64 ((xs.getD i 0 : Nat) : Int))) := fun i hi => by
    obtain ⟨a, ys, e, hk, hc⟩ := h.pos (by omega)
    have := hk.cell (i := i) (by have := hl.out; simp; omega)
    rw [getD_append_l (by have := hl.out; omega)] at this
    exact ⟨a, e, hg _ e, this⟩
  have hr := h.rng
  clear h hz
  go_enter Tryz.func122, Tryz.ntmps122
  go_wp2_with fail
  go_loopw [4, 12] (fun vi vk wr => ∃ (k : Nat) (zs : List Nat), k ≤ n ∧ vi = .int .i64 ((8 * (n - k) : Nat) : Int) ∧ vk = .int .i64 (k : Int) ∧ BBlk wr g zs ∧ Hid (zs.length = 8 * n) ∧ (∀ b ∈ zs, b < 256) ∧ Hid (bval (zs.drop (8 * (n - k))) = nv (xs.take k)) ∧ w.grownBy wr (some g)) (fun _ vk _ => n - (intOf vk).toNat)
  case atStart => exact ⟨0, zs, by omega, by simp, rfl, hb, HZ.out, hzr, by show _ = _; rw [List.drop_of_length_le (by rw [HZ.out]; simp)]; rfl, grown_refl _ _⟩
  case round =>
    obtain ⟨k, zs, hk, rfl, rfl, hb, hzl, hzr, hv, hG⟩ := hrel
    by_cases hlt : k < n
    · obtain ⟨a, rfl, hag, hc⟩ := HC.out k hlt
      have hc := grown_cell hG hc (by simpa using hag.symm)
      have hX := getD_lt hr k
      generalize hx : xs.getD k 0 = X at *
      have HX := Lib.hid hx
      clear hx
      go_wp2_with fail
      go_loopw [4, 6, 7] (fun vi vd vj wi => ∃ (i j d : Nat) (zs : List Nat), j ≤ 8 ∧ i + j = 8 * (n - k) ∧ vi = .int .i64 (i : Int) ∧ vd = .int .u64 (d : Int) ∧ vj = .int .i64 (j : Int) ∧ d < 18446744073709551616 ∧ Hid (d = X / 256 ^ j) ∧ BBlk wi g zs ∧ Hid (zs.length = 8 * n) ∧ (∀ b ∈ zs, b < 256) ∧ Hid (bval (zs.drop i) = nv (xs.take k) + WB ^ k * (X % 256 ^ j)) ∧ w.grownBy wi (some g)) (fun _ _ vj _ => 8 - (intOf vj).toNat)
      case atStart => exact ⟨_, 0, X, zs, by omega, rfl, rfl, rfl, rfl, wb_lt hX, by show _ = _; simp, hb, hzl, hzr, by show _ = _; have := hv.out; simp only [Nat.pow_zero, Nat.mod_one, Nat.mul_zero, Nat.add_zero]; exact this, hG⟩
      case round =>
        obtain ⟨i, j, d, zs, hj, hij, rfl, rfl, rfl, hd, hdx, hb, hzl, hzr, hv, hG⟩ := hrel
        by_cases hj8 : j < 8
        · have p1 : ((i : Int) - 1).toNat = i - 1 := by omega
          have p2 : (0 : Int) ≤ (i : Int) - 1 := by omega
          have p3 : (i : Int) - 1 < ((8 * n : Nat) : Int) := by omega
          have hcl := hb.cell (i := i - 1) (by rw [hzl.out]; omega)
          have hfr := RowB.free hb (i - 1)
          go_wp2_with fail
          go_roundw
          case rel =>
            have hset : (zs.set (i - 1) (d % 256)).length = 8 * n := by rw [List.length_set]; exact hzl.out
            have hD := Lib.hid (bval_drop_set zs (i - 1) (d % 256) (by rw [hzl.out]; omega))
            refine ⟨i - 1, j + 1, d / 256, zs.set (i - 1) (d % 256), by omega, by omega, by go_num, by go_num, by go_num, by omega, ?_, hb.set (i - 1) (d % 256), hset, ?_, ?_, grown_set hG _ _⟩
            · show _ = _; rw [hdx.out, Nat.div_div_eq_div_mul, ← Nat.pow_succ]
            · intro b hb
              rcases List.mem_or_eq_of_mem_set hb with h | h
              · exact hzr b h
              · rw [h]; omega
            · show _ = _
              rw [hD.out, show i - 1 + 1 = i from by omega, hv.out, hzl.out, show 8 * n - i = 8 * k + j from by omega, Nat.pow_add, pow_wb, hdx.out, Nat.mod_pow_succ, Nat.mul_add (WB ^ k), ← Nat.mul_assoc (WB ^ k)]
              rw [Nat.mul_comm (X / 256 ^ j % 256)]
              omega
          case measure => simp [intOf]; omega
        · have hj8 : j = 8 := by omega
          subst hj8
          go_wp2_with fail
          go_roundw
          case rel =>
            refine ⟨k + 1, zs, by omega, ?_, by go_num, hb, hzl, hzr, ?_, hG⟩
            · congr 1; omega
            · show _ = _
              rw [show 8 * (n - (k + 1)) = i from by omega, hv.out, take_snoc_nat xs k (by rw [hl.out]; exact hlt), nv_append, HX.out]
              rw [← wb256, Nat.mod_eq_of_lt hX, List.length_take, hl.out, Nat.min_eq_left (by omega)]
              simp [nv]
          case measure => simp [intOf]; omega
    · have hkn : k = n := by omega
      subst hkn
      have e0 : 8 * (k - k) = 0 := by omega
      rw [e0] at hv
      rw [e0]
      have hv' : bval zs = nv xs := by
        have := hv.out
        rwa [List.drop_zero, List.take_of_length_le (by rw [hl.out]; exact Nat.le_refl _)] at this
      have HV := Lib.hid hv'
      clear hv hv' HC
      go_wp2_with fail
      go_loop [4] (fun vi => ∃ (i : Nat), i ≤ 8 * k ∧ vi = .int .i64 (i : Int) ∧ Hid (bval (zs.drop i) = nv xs)) (fun vi => 8 * k - (intOf vi).toNat)
      case atStart => exact ⟨0, by omega, rfl, HV.out⟩
      case round =>
        obtain ⟨i, hi, rfl, hD⟩ := hrel
        by_cases hi8 : i < 8 * k
        · have hcl := hb.cell (i := i) (by rw [hzl.out]; omega)
          have q3 : (i : Int) < ((8 * k : Nat) : Int) := by omega
          by_cases hz : zs.getD i 0 = 0
          · have HZ0 := Lib.hid hz
            rw [hz] at hcl
            clear hz
            go_wp2_with fail
            go_round
            case rel =>
              refine ⟨i + 1, by omega, by go_num, ?_⟩
              show _ = _
              rw [← hD.out, drop_step zs i (by rw [hzl.out]; exact hi8), bval_cons, HZ0.out, Nat.zero_mul, Nat.zero_add]
            case measure => simp [intOf]; omega
          · have q4 : (((zs.getD i 0 : Nat) : Int) == 0) = false := by rw [beq_eq_false_iff_ne]; omega
            generalize hx : zs.getD i 0 = X at *
            have HX := Lib.hid hx
            clear hx
            go_wp2_with fail
            go_ret
            exact ⟨i, rfl, zs, hb, hzl.out, hzr, hi, hD.out, .inr (by have e := HX.out; rw [List.getD_eq_getElem?_getD] at e; rw [e]; exact hz), hG⟩
        · have e : i = 8 * k := by omega
          subst e
          go_wp2_with fail
          go_ret
          exact ⟨8 * k, rfl, zs, hb, hzl.out, hzr, Nat.le_refl _, hD.out, .inl rfl, hG⟩

/-- the bytes of a magnitude: no leading 0 -/
def Cut (bs : List Nat) : Prop := bs = [] ∨ bs.getD 0 0 ≠ 0
theorem ByteR.of_blk {w : World} {g i c : Nat} {zs : List Nat} (h : BBlk w g zs) (hr : ∀ b ∈ zs, b < 256) (hi : i ≤ zs.length) (A : Option Addr) (hA : i = zs.length ∨ A = some ⟨g, i, none⟩) (hc : zs.length - i ≤ c) : ByteR w A (zs.length - i) c (zs.drop i) :=
  ⟨by simp, hc, fun b hb => hr b (List.mem_of_mem_drop hb), by
    rcases hA with h1 | h1
    · exact .inl (by omega)
    · refine .inr ⟨g, i, h1, fun j hj => ?_⟩
      rw [List.getD_eq_getElem?_getD, List.getElem?_drop, ← List.getD_eq_getElem?_getD]
      exact h.cell (by omega)⟩
set_option maxHeartbeats 1000000 in
theorem c101 (b o : Nat) (neg : Bool) (A : Option Addr) (n c : Nat) (xs : List Nat) (w : World) (h : BigR w b o neg A n c xs) (hn : n ≤ 100) :
    Calls Tryz.prog 101 #[.pointer (some ⟨b, o, none⟩)] w fun e w' => ∃ B m d bs, e = .returned (.slice B m d) ∧ Sits w.heap.size (fun W => ByteR W B m d bs) w' ∧ Cut bs ∧ bval bs = nv xs ∧ Below w.heap.size w w' ∧ B ≠ none := by
  have h0 := h.sg
  have h1 := h.ab
  have HN := Lib.hid h.nat
  have hAl := h.nat.lt
  clear h
  have hmk := run_make5 (8 * n) (8 * n) (Nat.le_refl _) (by omega) w
  rw [show ((8 * n : Nat) : Int) = 8 * (n : Int) from by omega] at hmk
  have s1 : IntKind.i64.wrap ((n : Int) * 8) = ((8 * n : Nat) : Int) := by rw [IntKind.wrap_i64]; omega
  have b1 : Below w.heap.size w (w.alloc (.cells (brow (List.replicate (8 * n) 0)) 5)) := below_alloc' (Below.refl _ _) _
  have r1 : BBlk (w.alloc (.cells (brow (List.replicate (8 * n) 0)) 5)) w.heap.size (List.replicate (8 * n) 0) := RowB.new w _ _
  have hcall := Lib.hid (c122 A n c xs w.heap.size (List.replicate (8 * n) 0) _ (HN.out.below b1) r1 (by simp) (by intro b hb; rw [List.eq_of_mem_replicate hb]; omega) (fun a ha => by have := hAl a ha; omega) hn)
  have h1' := below_cell b1 h1
  have r1 := Lib.hid r1
  go_enter Tryz.func101, Tryz.ntmps101
  go_wp2_with fail
  refine hcall.out.mono ?_
  rintro e w2 ⟨i, zs, rfl, hb, hzl, hzr, hi, hv, hcut, hG⟩
  have b2 := below_grown' b1 hG (Nat.le_refl _)
  have q1 : (i : Int) ≤ 8 * (n : Int) := by omega
  have HV := Lib.hid hv
  have HL := Lib.hid hzl
  have HC := Lib.hid hcut
  have hcutd : Cut (zs.drop i) := by
    have hc := HC.out
    by_cases hi : i = 8 * n
    · exact .inl (List.drop_of_length_le (by rw [HL.out, hi]; exact Nat.le_refl _))
    · right
      rw [List.getD_eq_getElem?_getD, List.getElem?_drop, ← List.getD_eq_getElem?_getD]
      exact hc.resolve_left hi
  have HD := Lib.hid hcutd
  have HS : Hid (∀ A', (i = 8 * n ∨ A' = some ⟨w.heap.size, i, none⟩) → Sits w.heap.size (fun W => ByteR W A' (8 * n - i) (8 * n - i) (zs.drop i)) w2) := fun A' hA => by
    intro W _ hk
    have hb' : BBlk W w.heap.size zs := ⟨(hk _ (Nat.le_refl _) (RowB.lt hb)).trans hb.out⟩
    have := ByteR.of_blk (c := 8 * n - i) hb' hzr (i := i) (by rw [HL.out]; exact hi) A' (by rw [HL.out]; exact hA) (by rw [HL.out]; exact Nat.le_refl _)
    rwa [HL.out] at this
  clear hv hzl hcut hcutd
  by_cases hi8 : i = 8 * n
  · have HS1 := Lib.hid (HS.out (some ⟨w.heap.size, 0, none⟩) (.inl hi8))
    subst hi8
    clear HS
    go_wp2_with fail
    go_ret
    exact ⟨_, _, _, _, rfl, HS1.out, HD.out, HV.out, b2, by simp⟩
  · have HS := Lib.hid (HS.out (some ⟨w.heap.size, i, none⟩) (.inr rfl))
    have q2 : (8 * n = i) = False := by simp; omega
    go_wp2_with fail
    go_ret
    exact ⟨_, _, _, _, rfl, HS.out, HD.out, HV.out, b2, by simp⟩
end Go.Proofs.YtpfihjkhgfoijaaGreatDoor
namespace Go.Proofs.YtpfihjkhgfoijaaGreatDoor
open Go.RowKit

theorem sign_lt {neg : Bool} {xs : List Nat} {n : Nat} {z : Int} (h : Nrm xs) (hl : xs.length = n) (hz : zv neg xs = z) : ((if n = 0 then (0 : Int) else if neg then -1 else 1) < 0) ↔ z < 0 := by
  subst hz hl
  unfold zv
  by_cases h0 : xs = []
  · subst h0; cases neg <;> simp [nv]
  · have h1 : nv xs ≠ 0 := fun e => h0 ((nv_zero_iff h).1 e)
    have h2 : xs.length ≠ 0 := fun e => h0 (List.eq_nil_of_length_eq_zero e)
    rw [if_neg h2]
    cases neg <;> simp <;> omega
theorem zv_abs {neg : Bool} {xs : List Nat} {z : Int} (hz : zv neg xs = z) : nv xs = z.natAbs := by
  subst hz
  unfold zv
  cases neg <;> simp
theorem i36 : (Tryz.prog.info? 36).map (·.size) = some 6 := by kernel_rfl
/-- the six stores of a Val into a result's block -/
def set36W (w : World) (g : Nat) (a b c d e f : Value) : World := (((((w.setCell ⟨g, 0, none⟩ a).setCell ⟨g, 1, none⟩ b).setCell ⟨g, 2, none⟩ c).setCell ⟨g, 3, none⟩ d).setCell ⟨g, 4, none⟩ e).setCell ⟨g, 5, none⟩ f
theorem set36 {w : World} {g : Nat} {x0 x1 x2 x3 x4 x5 : Value} (a b c d e f : Value) (h : RowB w g #[x0, x1, x2, x3, x4, x5] 36) : RowB (set36W w g a b c d e f) g #[a, b, c, d, e, f] 36 :=
  (((((h.set 0 a #[a, x1, x2, x3, x4, x5] rfl).set 1 b #[a, b, x2, x3, x4, x5] rfl).set 2 c #[a, b, c, x3, x4, x5] rfl).set 3 d #[a, b, c, d, x4, x5] rfl).set 4 e #[a, b, c, d, e, x5] rfl).set 5 f #[a, b, c, d, e, f] rfl
theorem set36_grown (w : World) (g : Nat) (a b c d e f : Value) : w.grownBy (set36W w g a b c d e f) (some g) :=
  grown_set (grown_set (grown_set (grown_set (grown_set (grown_set (grown_refl _ _) _ _) _ _) _ _) _ _) _ _) _ _
theorem facts36 {w : World} {g : Nat} {x0 x1 x2 x3 x4 x5 : Value} (h : RowB w g #[x0, x1, x2, x3, x4, x5] 36) (a b c d e : Value) :
    w.frozen? ⟨g, 0, none⟩ = false ∧ w.cell? ⟨g, 0, none⟩ = some x0 ∧
    (w.setCell ⟨g, 0, none⟩ a).frozen? ⟨g, 1, none⟩ = false ∧ (w.setCell ⟨g, 0, none⟩ a).cell? ⟨g, 1, none⟩ = some x1 ∧
    ((w.setCell ⟨g, 0, none⟩ a).setCell ⟨g, 1, none⟩ b).frozen? ⟨g, 2, none⟩ = false ∧ ((w.setCell ⟨g, 0, none⟩ a).setCell ⟨g, 1, none⟩ b).cell? ⟨g, 2, none⟩ = some x2 ∧
    (((w.setCell ⟨g, 0, none⟩ a).setCell ⟨g, 1, none⟩ b).setCell ⟨g, 2, none⟩ c).frozen? ⟨g, 3, none⟩ = false ∧ (((w.setCell ⟨g, 0, none⟩ a).setCell ⟨g, 1, none⟩ b).setCell ⟨g, 2, none⟩ c).cell? ⟨g, 3, none⟩ = some x3 ∧
    ((((w.setCell ⟨g, 0, none⟩ a).setCell ⟨g, 1, none⟩ b).setCell ⟨g, 2, none⟩ c).setCell ⟨g, 3, none⟩ d).frozen? ⟨g, 4, none⟩ = false ∧ ((((w.setCell ⟨g, 0, none⟩ a).setCell ⟨g, 1, none⟩ b).setCell ⟨g, 2, none⟩ c).setCell ⟨g, 3, none⟩ d).cell? ⟨g, 4, none⟩ = some x4 ∧
    (((((w.setCell ⟨g, 0, none⟩ a).setCell ⟨g, 1, none⟩ b).setCell ⟨g, 2, none⟩ c).setCell ⟨g, 3, none⟩ d).setCell ⟨g, 4, none⟩ e).frozen? ⟨g, 5, none⟩ = false ∧ (((((w.setCell ⟨g, 0, none⟩ a).setCell ⟨g, 1, none⟩ b).setCell ⟨g, 2, none⟩ c).setCell ⟨g, 3, none⟩ d).setCell ⟨g, 4, none⟩ e).cell? ⟨g, 5, none⟩ = some x5 := by
  have h1 := h.set 0 a #[a, x1, x2, x3, x4, x5] rfl
  have h2 := h1.set 1 b #[a, b, x2, x3, x4, x5] rfl
  have h3 := h2.set 2 c #[a, b, c, x3, x4, x5] rfl
  have h4 := h3.set 3 d #[a, b, c, d, x4, x5] rfl
  have h5 := h4.set 4 e #[a, b, c, d, e, x5] rfl
  exact ⟨h.free 0, h.cell 0 _ rfl, h1.free 1, h1.cell 1 _ rfl, h2.free 2, h2.cell 2 _ rfl, h3.free 3, h3.cell 3 _ rfl, h4.free 4, h4.cell 4 _ rfl, h5.free 5, h5.cell 5 _ rfl⟩
set_option maxHeartbeats 1000000 in
theorem c69 (v : Value) (z : Int) (w : World) (h : IntV w z v) :
    Calls Tryz.prog 69 #[v] w fun e w' => ∃ B m d bs, e = .returned (.agg #[.int .i64 2, .bool (decide (z < 0)), .slice B m d, .int .u64 0, .string ⟨#[]⟩, .slice none 0 0]) ∧ Sits w.heap.size (fun W => ByteR W B m d bs) w' ∧ Cut bs ∧ bval bs = z.natAbs ∧ Below w.heap.size w w' ∧ B ≠ none := by
  obtain ⟨i, p, rfl⟩ := h.shape
  obtain ⟨w1, hw1, b1, r0, r1, hW⟩ : ∃ w1, ((w.alloc (.cells #[.int .i64 i, .pointer p] 126)).alloc (.cells #[.int .i64 0, .bool false, .slice none 0 0, .int .u64 0, .string ⟨#[]⟩, .slice none 0 0] 36)) = w1 ∧ Below w.heap.size w w1 ∧ RowB w1 w.heap.size #[.int .i64 i, .pointer p] 126 ∧
      RowB w1 (w.heap.size + 1) #[.int .i64 0, .bool false, .slice none 0 0, .int .u64 0, .string ⟨#[]⟩, .slice none 0 0] 36 ∧ w1.heap.size = w.heap.size + 1 + 1 :=
    ⟨_, rfl, below_alloc' (below_alloc' (Below.refl _ _) _) _, (RowB.new w _ _).alloc _, by
      have := RowB.new (w.alloc (.cells #[.int .i64 i, .pointer p] 126)) #[.int .i64 0, .bool false, .slice none 0 0, .int .u64 0, .string ⟨#[]⟩, .slice none 0 0] 36
      rw [alloc_size] at this; exact this, by rw [alloc_size, alloc_size]⟩
  have H := Lib.hid (c99 _ z w1 (h.below b1))
  have k0 := r0.cell 0 _ rfl
  have k1 := r0.cell 1 _ rfl
  clear h
  go_enter Tryz.func69, Tryz.ntmps69
  go_wp2_with fail
  clear hw1
  refine H.out.mono ?_
  rintro e w2 ⟨B, neg, A, n, c, xs, rfl, hS, hz, hn, hB2⟩
  have hX := hS.out
  have HSg := Lib.hid (sign_lt hX.nrm hX.nat.len hz)
  have HZ := Lib.hid (zv_abs hz)
  have r1 := Lib.hid (r1.below hB2)
  have b2 := below_trans' b1 hB2
  have l2 := hB2.size
  clear hS hz H
  go_wp2_with fail
  refine (c100 B 0 neg A n c xs w2 hX).mono ?_
  rintro e w3 ⟨rfl, rfl⟩
  have hdec : decide ((if n = 0 then (0 : Int) else if neg then -1 else 1) < 0) = decide (z < 0) := decide_eq_decide.mpr HSg.out
  have HDc := Lib.hid hdec
  clear hdec HSg
  generalize (if n = 0 then (0 : Int) else if neg then -1 else 1) = S at *
  go_wp2_with fail
  refine (c101 B 0 neg A n c xs w2 hX (by omega)).mono ?_
  rintro e w4 ⟨D, m, d, bs, rfl, hBy, hcut, hv, hB4, hDn⟩
  have HDn := Lib.hid hDn
  clear hDn
  have b4 := below_trans' b2 hB4
  have r4 := Lib.hid (r1.out.below hB4)
  obtain ⟨f0, k0, f1, k1, f2, k2, f3, k3, f4, k4, f5, k5⟩ := facts36 r4.out (.int .i64 2) (.bool (decide (S < 0))) (.slice D m d) (.int .u64 0) (.string ⟨#[]⟩)
  have HV := Lib.hid hv
  have HC := Lib.hid hcut
  have HB := Lib.hid hBy
  clear hv hcut hBy hX
  go_wp2_with fail
  refine bodyPost_ret (ret_row (set36 _ _ _ _ _ _ r4.out) rfl _ _ rfl Tryz.underlying36 rfl i36) rfl ?_
  refine ⟨D, m, d, bs, by rw [HDc.out], ?_, HC.out, by rw [HV.out, HZ.out], ?_, HDn.out⟩
  · exact (HB.out.grown (set36_grown _ _ _ _ _ _ _ _) (by omega)).mono (by omega)
  · exact below_grown' b4 (set36_grown _ _ _ _ _ _ _ _) (by omega)
end Go.Proofs.YtpfihjkhgfoijaaGreatDoor

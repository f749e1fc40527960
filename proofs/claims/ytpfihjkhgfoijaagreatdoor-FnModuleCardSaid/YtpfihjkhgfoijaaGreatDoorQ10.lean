/- Contracts of big.Int: SetBytes, Set; Contracts of big.Int: BitLen, Int64, Neg; Contracts of big.Int: BitLen, Int64, Neg; starlark's small and big ints; impl.whole; Contracts of starlark's small and big ints: isSmall, makeSmallInt, makeBigInt, MakeBigInt; impl.whole; Contract of impl.whole. -/
import Derived.LaidEqlPtr
import Derived.Lib.Builder
import Derived.Test.YtpfihjkhgfoijaaGreatDoorQ08
import Derived.Test.YtpfihjkhgfoijaaGreatDoorQ09
import Derived.Test.YtpfihjkhgfoijaaGreatDoorQ05
import Derived.Handy
set_option linter.unusedVariables false
set_option linter.unusedSimpArgs false
set_option maxRecDepth 100000
namespace Go.Proofs.YtpfihjkhgfoijaaGreatDoor
open Go.RowKit

/-- block b is a row of cells of which none is frozen -/
structure Blk0 (w : World) (b : Nat) : Prop where mk ::
  out : ∃ c e, w.heap[b]? = some (.cells c e (0, 0))
theorem Blk0.free {w : World} {b : Nat} (h : Blk0 w b) (i : Nat) : w.frozen? ⟨b, i, none⟩ = false := by
  obtain ⟨c, e, h⟩ := h.out
  simp [World.frozen?, h]
theorem Blk0.lt {w : World} {b : Nat} (h : Blk0 w b) : b < w.heap.size := by
  obtain ⟨c, e, h⟩ := h.out
  exact (Array.getElem?_eq_some_iff.1 h).1
theorem Blk0.below {w w' : World} {b : Nat} (h : Blk0 w b) (hb : Below w.heap.size w w') : Blk0 w' b := by
  have hl := h.lt
  obtain ⟨c, e, h⟩ := h.out
  exact ⟨c, e, (hb.block b hl).trans h⟩
theorem Blk0.drewN {w : World} {b : Nat} (h : Blk0 w b) (n : Nat) : Blk0 (w.drewN n) b := ⟨h.out⟩
theorem Blk0.drew {w : World} {b : Nat} (h : Blk0 w b) : Blk0 w.drew b := ⟨h.out⟩
theorem Blk0.set {w : World} {b : Nat} (h : Blk0 w b) (p : Addr) (v : Value) : Blk0 (w.setCell p v) b := by
  obtain ⟨c, e, h⟩ := h.out
  refine ⟨?_⟩
  unfold World.setCell
  simp only [Array.getElem?_modify]
  by_cases hp : p.block = b
  · rw [if_pos hp, h]; exact ⟨_, e, rfl⟩
  · rw [if_neg hp]; exact ⟨c, e, h⟩
theorem Blk0.grown {w w' : World} {b g : Nat} (h : Blk0 w b) (hg : w.grownBy w' (some g)) (hne : b ≠ g) : Blk0 w' b := by
  have hl := h.lt
  obtain ⟨c, e, h⟩ := h.out
  exact ⟨c, e, (hg.block b hl (by simpa using hne)).trans h⟩
theorem Blk0.wblk {w : World} {g : Nat} {xs : List Nat} (h : WBlk w g xs) : Blk0 w g := ⟨_, _, h.out⟩
theorem Blk0.new (w : World) (c : Array Value) (e : TypeId) : Blk0 (w.alloc (.cells c e)) w.heap.size := ⟨c, e, by show (w.heap.push _)[w.heap.size]? = _; simp⟩
theorem ne_ptr (t te : TypeId) (ht : Tryz.prog.underlying t = some (.pointer te)) (hs : ∃ j, Tryz.prog.info? te = some j ∧ j.size ≠ 0) {w : World} {a b : Addr} (hne : a ≠ b) (ha : Blk0 w a.block) (hb : Blk0 w b.block) :
    (binOp .neq t (.pointer (some a)) (.pointer (some b))).run Tryz.prog w = .ok (.bool true) w := by
  obtain ⟨ca, ta, ha⟩ := ha.out
  obtain ⟨cb, tb, hb⟩ := hb.out
  obtain ⟨j, hj, hsz⟩ := hs
  have h : ∀ d : Nat, (Op.equalIn (d + 1) t (.pointer (some a)) (.pointer (some b))).run Tryz.prog w = .ok false w := fun d => by
    simp [Op.equalIn, run_underlying ht, sizeOf, typeInfo, hj, hsz, run_sameAddr_other w hne ha hb]
  simp only [binOp]
  simp [Op.equal, Op.maxDepth, h 9999]
theorem eq_ptr (t te : TypeId) (ht : Tryz.prog.underlying t = some (.pointer te)) (hs : ∃ j, Tryz.prog.info? te = some j ∧ j.size ≠ 0) {w : World} {a b : Addr} (hne : a ≠ b) (ha : Blk0 w a.block) (hb : Blk0 w b.block) :
    (binOp .eql t (.pointer (some a)) (.pointer (some b))).run Tryz.prog w = .ok (.bool false) w := by
  obtain ⟨ca, ta, ha⟩ := ha.out
  obtain ⟨cb, tb, hb⟩ := hb.out
  obtain ⟨j, hj, hsz⟩ := hs
  exact run_eql_ptr_other w ht hj hsz hne ha hb
theorem info229 : ∃ j, Tryz.prog.info? 229 = some j ∧ j.size ≠ 0 := by
  have h : (Tryz.prog.info? 229).map (·.size) = some 2 := by kernel_rfl
  obtain ⟨j, hj, e⟩ := Option.map_eq_some_iff.1 h
  exact ⟨j, hj, by rw [e]; omega⟩
theorem same229 (a : Addr) (w : World) : (binOp .neq 122 (.pointer (some a)) (.pointer (some a))).run Tryz.prog w = .ok (.bool false) w := by
  obtain ⟨j, hj, _⟩ := info229
  exact Lib.run_neq_ptr_same w a Tryz.underlying122 hj

/-- a big.Int at b, o: its sign and its words -/
structure BigR (w : World) (b o : Nat) (neg : Bool) (A : Option Addr) (n c : Nat) (xs : List Nat) : Prop where
  own : Blk0 w b
  sg : w.cell? ⟨b, o, none⟩ = some (.bool neg)
  ab : w.cell? ⟨b, o + 1, none⟩ = some (.slice A n c)
  nat : NatR w A n c xs
  nrm : Nrm xs
theorem BigR.below {w w' : World} {b o : Nat} {neg : Bool} {A : Option Addr} {n c : Nat} {xs : List Nat} (h : BigR w b o neg A n c xs) (hb : Below w.heap.size w w') : BigR w' b o neg A n c xs :=
  ⟨h.own.below hb, below_cell hb h.sg, below_cell hb h.ab, h.nat.below hb, h.nrm⟩
theorem NatR.drewN {w : World} {A : Option Addr} {n c : Nat} {xs : List Nat} (h : NatR w A n c xs) (k : Nat) : NatR (w.drewN k) A n c xs :=
  ⟨h.len, h.le, h.small, h.rng, by
    rcases h.blk with h1 | ⟨g, ys, e, hk, hl⟩
    · exact .inl h1
    · exact .inr ⟨g, ys, e, hk.drewN k, hl⟩⟩
theorem NatR.drew {w : World} {A : Option Addr} {n c : Nat} {xs : List Nat} (h : NatR w A n c xs) : NatR w.drew A n c xs := h.drewN 1
theorem BigR.drewN {w : World} {b o : Nat} {neg : Bool} {A : Option Addr} {n c : Nat} {xs : List Nat} (h : BigR w b o neg A n c xs) (k : Nat) : BigR (w.drewN k) b o neg A n c xs := ⟨h.own.drewN k, h.sg, h.ab, h.nat.drewN k, h.nrm⟩
theorem BigR.lt {w : World} {b o : Nat} {neg : Bool} {A : Option Addr} {n c : Nat} {xs : List Nat} (h : BigR w b o neg A n c xs) : b < w.heap.size := h.own.lt
theorem BigR.grown {w w' : World} {b o g : Nat} {neg : Bool} {A : Option Addr} {n c : Nat} {xs : List Nat} (h : BigR w b o neg A n c xs) (hg : w.grownBy w' (some g)) (hne : b ≠ g) (hA : ∀ a, A = some a → a.block ≠ g) : BigR w' b o neg A n c xs :=
  ⟨h.own.grown hg hne, grown_cell hg h.sg (by simpa using hne.symm), grown_cell hg h.ab (by simpa using hne.symm), h.nat.grown hg hA, h.nrm⟩
/-- the number of a sign and words -/
def zv (neg : Bool) (xs : List Nat) : Int := if neg then -(nv xs : Int) else (nv xs : Int)

set_option maxHeartbeats 1000000 in
theorem c114 (b : Nat) (A : Option Addr) (n c : Nat) (bs : List Nat) (w : World) (h : BigR w b 0 false none 0 0 []) (hb : ByteR w A n c bs) (hn : n ≤ 1000) :
    Calls Tryz.prog 114 #[.pointer (some ⟨b, 0, none⟩), .slice A n c] w fun e w' => ∃ B m d xs, e = .returned (.pointer (some ⟨b, 0, none⟩)) ∧ BigR w' b 0 false B m d xs ∧ nv xs = bval bs ∧ w.grownBy w' (some b) ∧ (∀ a, B = some a → w.heap.size ≤ a.block) := by
  have h0 := h.sg
  have h1 := h.ab
  have HB := Lib.hid (c132 A n c bs w hb hn)
  have hlt := h.lt
  have Hf := h.own
  simp only [Nat.zero_add] at h1
  clear h hb
  go_enter Tryz.func114, Tryz.ntmps114
  go_wp2_with fail
  refine HB.out.mono ?_
  rintro e w1 ⟨B, m, d, xs, rfl, hN, hnr, hv, hB, hfr⟩
  have HV := Lib.hid hv
  have HN := Lib.hid hN
  have g0 := below_cell hB h0
  have g1 := below_cell hB h1
  have hf1 := Hf.below hB
  have f10 := hf1.free 0
  have f11 := hf1.free 1
  clear hv hN h0 h1
  go_wp2_with fail
  go_ret
  have k1 : ∀ a, B = some a → a.block ≠ b := fun a ha => by have := hfr a ha; omega
  refine ⟨B, m, d, xs, rfl, ⟨(hf1.set _ _).set _ _, ?_, ?_, ?_, hnr⟩, HV.out, grown_set (grown_set (grown_of_below' hB _) _ _) _ _, hfr⟩
  · rw [cell_setCell_at (u := .bool false) (by rw [cell_setCell_at g1]; simpa using g0)]; simp
  · rw [cell_setCell_at (u := .bool false) (by rw [cell_setCell_at g1]; simpa using g0)]
    simp only [Nat.zero_add]
    rw [cell_setCell_at g1]; simp
  · exact HN.out.grown (g' := b) (grown_set (grown_set (grown_refl _ _) _ _) _ _) k1

theorem c120_self (b o : Nat) (w : World) : Calls Tryz.prog 120 #[.pointer (some ⟨b, o, none⟩), .pointer (some ⟨b, o, none⟩)] w fun e w' => e = .returned (.pointer (some ⟨b, o, none⟩)) ∧ w = w' := by
  have hp := same229 ⟨b, o, none⟩ w
  go_enter Tryz.func120, Tryz.ntmps120
  go_wp2_with fail
  go_ret
  exact ⟨rfl, rfl⟩
set_option maxHeartbeats 1000000 in
theorem c120 (b o bx ox : Nat) (neg : Bool) (A : Option Addr) (n c : Nat) (xs : List Nat) (w : World) (h : BigR w b o false none 0 0 []) (hx : BigR w bx ox neg A n c xs) (hne : b ≠ bx) (hn : n ≤ 1000) :
    Calls Tryz.prog 120 #[.pointer (some ⟨b, o, none⟩), .pointer (some ⟨bx, ox, none⟩)] w fun e w' => ∃ B d, e = .returned (.pointer (some ⟨b, o, none⟩)) ∧ BigR w' b o neg B n d xs ∧ w.grownBy w' (some b) ∧ (∀ a, B = some a → w.heap.size ≤ a.block) ∧ (∀ i, i ≠ o → i ≠ o + 1 → w'.cell? ⟨b, i, none⟩ = w.cell? ⟨b, i, none⟩) := by
  have h0 := h.sg
  have h1 := h.ab
  have x0 := hx.sg
  have x1 := hx.ab
  have HB : Hid (Calls Tryz.prog 143 #[.slice none 0 0, .slice A n c] w.drew fun e w' => ∃ A' c', e = .returned (.slice A' n c') ∧ NatR w' A' n c' xs ∧ Below w.heap.size w.drew w' ∧ (∀ a, A' = some a → w.heap.size ≤ a.block)) := c143_new A n c xs w.drew hx.nat.drew (by omega)
  have hlt := h.lt
  have Hf := h.own
  have hnr := Lib.hid hx.nrm
  have hp := ne_ptr 122 229 Tryz.underlying122 info229 (w := w) (a := ⟨b, o, none⟩) (b := ⟨bx, ox, none⟩) (by simp [hne]) h.own hx.own
  clear h hx
  go_enter Tryz.func120, Tryz.ntmps120
  go_wp2_with fail
  go_region_law (first | (go_simp; go_at_call 143; refine HB.out.mono ?_; rintro e w1 ⟨B, d, rfl, hN, hB, hfr⟩; have g1 := below_cell (w := w.drew) hB h1; have y1 := below_cell (w := w.drew) hB x1; have Hf1 := Hf.drew.below hB; have f1 := Hf1.free (o + 1); have HN := Lib.hid hN; have y0 := below_cell (w := w.drew) hB x0; have g0 := below_cell (w := w.drew) hB h0; clear hN))
  all_goals
    have f2 := (Hf1.set ⟨b, o + 1, none⟩ (.slice B n d)).free o
    have z0 : (w1.setCell ⟨b, o + 1, none⟩ (.slice B n d)).cell? ⟨bx, ox, none⟩ = some (.bool neg) := cell_setCell_ne y0 hne
    have z1 : (w1.setCell ⟨b, o + 1, none⟩ (.slice B n d)).cell? ⟨b, o, none⟩ = some (.bool false) := by rw [cell_setCell_at g1, if_neg (by omega)]; exact g0
    go_wp2_with fail
    go_ret
    have k1 : ∀ a, B = some a → a.block ≠ b := fun a ha => by have := hfr a ha; omega
    refine ⟨B, d, rfl, ⟨(Hf1.set _ _).set _ _, ?_, ?_, ?_, hnr.out⟩, grown_set (grown_set (grown_trans (grown_drew (grown_refl _ _)) (grown_of_below' hB _)) _ _) _ _, hfr, ?_⟩
    · rw [cell_setCell_at z1]; simp
    · rw [cell_setCell_at z1, if_neg (by omega), cell_setCell_at g1]; simp
    · exact HN.out.grown (g' := b) (grown_set (grown_set (grown_refl _ _) _ _) _ _) k1
    · intro i hi1 hi2
      rw [cell_setCell_at z1, if_neg hi1, cell_setCell_at g1, if_neg hi2]
      exact (hB.cell (p := ⟨b, i, none⟩) hlt)
end Go.Proofs.YtpfihjkhgfoijaaGreatDoor
namespace Go.Proofs.YtpfihjkhgfoijaaGreatDoor
open Go.RowKit

theorem bitLen_pos (x : Nat) (h0 : x ≠ 0) (h : x < 18446744073709551616) : Lib.bitLen x = x.log2 + 1 := by
  have l1 : 2 ^ x.log2 ≤ x := Nat.log2_self_le h0
  have l2 : x < 2 ^ (x.log2 + 1) := Nat.lt_log2_self
  have s := Lib.bitLen_shift x.log2 x l1 h
  have d : x / 2 ^ x.log2 = 1 := by
    rw [Nat.div_eq_iff (Nat.two_pow_pos _)]
    rw [Nat.pow_succ] at l2
    omega
  rw [s, d]
  have : Lib.bitLen 1 = 1 := by decide +kernel
  omega
theorem or_half_len (a k : Nat) (h : a < 18446744073709551616) : Lib.bitLen (a ||| a / k) = Lib.bitLen a ∧ (a ||| a / k) < 18446744073709551616 := by
  have hk : a / k ≤ a := Nat.div_le_self a k
  have hlt : (a ||| a / k) < 18446744073709551616 := Nat.or_lt_two_pow (n := 64) h (by omega)
  refine ⟨?_, hlt⟩
  by_cases h0 : a = 0
  · subst h0; simp
  have le : a ≤ (a ||| a / k) := Nat.left_le_or
  rw [bitLen_pos _ (by omega) hlt, bitLen_pos _ h0 h]
  have l1 : 2 ^ a.log2 ≤ a := Nat.log2_self_le h0
  have l2 : a < 2 ^ (a.log2 + 1) := Nat.lt_log2_self
  have l3 : (a ||| a / k) < 2 ^ (a.log2 + 1) := Nat.or_lt_two_pow l2 (by omega)
  congr 1
  refine (Nat.log2_eq_iff (by omega)).mpr ⟨by omega, l3⟩
theorem smear (a k : Nat) (h : a < 18446744073709551616) : ∃ b : Nat, b < 18446744073709551616 ∧ Lib.bitLen b = Lib.bitLen a ∧ bits .or .u64 (a : Int) ((a : Int) / (k : Int)) = (b : Int) := by
  refine ⟨a ||| a / k, (or_half_len a k h).2, (or_half_len a k h).1, ?_⟩
  have hk : a / k ≤ a := Nat.div_le_self a k
  rw [← u64_or_nat a (a / k) h (by omega)]
  rfl
def natLen (xs : List Nat) : Nat := if xs = [] then 0 else (xs.length - 1) * 64 + Lib.bitLen (xs.getD (xs.length - 1) 0)
set_option maxHeartbeats 1000000 in
theorem c170 (A : Option Addr) (n c : Nat) (xs : List Nat) (w : World) (h : NatR w A n c xs) :
    Calls Tryz.prog 170 #[.slice A n c] w fun e w' => e = .returned (.int .i64 (natLen xs : Nat)) ∧ w = w' := by
  have hl := Lib.hid h.len
  have hle := h.le
  have hsm := h.small
  by_cases h0 : n = 0
  · subst h0
    obtain rfl := h.zero rfl
    go_enter Tryz.func170, Tryz.ntmps170
    go_wp2_with fail
    go_ret
    exact ⟨rfl, rfl⟩
  · obtain ⟨g, ys, rfl, hb, hc⟩ := h.pos (by omega)
    have q1 : (0 : Int) ≤ (n : Int) - 1 := by omega
    have q2 : ((n : Int) - 1).toNat = n - 1 := by omega
    have q3 : (n : Int) - 1 < (n : Int) := by omega
    have hcell := hb.cell (i := n - 1) (by simp [hl.out]; omega)
    rw [getD_append_l (by rw [hl.out]; omega)] at hcell
    have hX := getD_lt h.rng (n - 1)
    generalize hx : xs.getD (n - 1) 0 = X at *
    have HX := Lib.hid hx
    clear hx
    go_enter Tryz.func170, Tryz.ntmps170
    go_wp2_with fail
    obtain ⟨b1, l1, k1, e1⟩ := smear X 2 (wb_lt hX)
    obtain ⟨b2, l2, k2, e2⟩ := smear b1 4 l1
    obtain ⟨b3, l3, k3, e3⟩ := smear b2 16 l2
    obtain ⟨b4, l4, k4, e4⟩ := smear b3 256 l3
    obtain ⟨b5, l5, k5, e5⟩ := smear b4 65536 l4
    obtain ⟨b6, l6, k6, e6⟩ := smear b5 4294967296 l5
    simp only [Int.cast_ofNat_Int] at e1 e2 e3 e4 e5 e6
    have e6' : bits .or .u64 (b5 : Int) ((b5 : Int) / 65536 / 65536) = (b6 : Int) := by rw [← e6, Int.ediv_ediv_of_nonneg (by omega)]; rfl
    rw [e1, e2, e3, e4, e5, e6']
    have hl6 : Lib.bitLen b6 ≤ 64 := Lib.bitLen_le b6 64 (by omega) l6
    clear e1 e2 e3 e4 e5 e6 e6'
    refine (Tryz.bits_Len b6 _ (by omega) (by omega)).mono ?_
    rintro e w1 ⟨rfl, rfl⟩
    go_wp2_with fail
    go_ret
    refine ⟨ret_eq ?_, rfl⟩
    have hl' := hl.out
    rw [natLen, if_neg (by rintro rfl; exact h0 hl'.symm), hl', HX.out]
    show Value.int .i64 _ = Value.int .i64 _
    congr 1
    omega
end Go.Proofs.YtpfihjkhgfoijaaGreatDoor
namespace Go.Proofs.YtpfihjkhgfoijaaGreatDoor
open Go.RowKit

theorem bitLen_lt_iff (x k : Nat) (h : x < WB) (hk : k ≤ 64) : Lib.bitLen x ≤ k ↔ x < 2 ^ k := by
  have h' := wb_lt h
  constructor
  · intro hl
    by_cases h0 : x = 0
    · subst h0; exact Nat.two_pow_pos _
    rw [bitLen_pos x h0 h'] at hl
    exact Nat.lt_of_lt_of_le Nat.lt_log2_self (Nat.pow_le_pow_right (by omega) hl)
  · exact Lib.bitLen_le x k hk
theorem nv_pos {xs : List Nat} (h : Nrm xs) (hne : xs ≠ []) : WB ^ (xs.length - 1) ≤ nv xs := by
  rcases h with h | h
  · exact absurd h hne
  have hl : 0 < xs.length := List.length_pos_iff.mpr hne
  have e : xs = xs.take (xs.length - 1) ++ [xs.getD (xs.length - 1) 0] := by
    rw [← take_snoc_nat xs (xs.length - 1) (by omega), show xs.length - 1 + 1 = xs.length by omega, List.take_length]
  rw [e, nv_append]
  simp only [nv, List.length_take, Nat.mul_zero, Nat.add_zero, Nat.min_eq_left (show xs.length - 1 ≤ xs.length by omega)]
  rw [← e]
  have : 1 ≤ xs.getD (xs.length - 1) 0 := by omega
  calc WB ^ (xs.length - 1) = WB ^ (xs.length - 1) * 1 := by omega
    _ ≤ WB ^ (xs.length - 1) * xs.getD (xs.length - 1) 0 := Nat.mul_le_mul_left _ this
    _ ≤ _ := by omega
theorem nv_one (x : Nat) : nv [x] = x := by simp [nv]
theorem nv_zero_iff {xs : List Nat} (h : Nrm xs) : nv xs = 0 ↔ xs = [] := by
  constructor
  · intro h0
    apply Classical.byContradiction
    intro hne
    have := nv_pos h hne
    have := Nat.pow_pos (n := xs.length - 1) wb_pos
    omega
  · rintro rfl; rfl
theorem natLen_le_iff {xs : List Nat} (h : Nrm xs) (hr : ∀ x ∈ xs, x < WB) (k : Nat) (hk : k ≤ 64) : natLen xs ≤ k ↔ nv xs < 2 ^ k := by
  match xs, h, hr with
  | [], _, _ => simp [natLen, nv, Nat.two_pow_pos]
  | [x], h, hr => 
    rw [nv_one]
    have : natLen [x] = Lib.bitLen x := by simp [natLen]
    rw [this, bitLen_lt_iff x k (hr x (by simp)) hk]
  | x :: y :: l, h, hr =>
    have h1 := nv_pos h (by simp)
    have hx : (x :: y :: l).getD ((x :: y :: l).length - 1) 0 ≠ 0 := h.resolve_left (by simp)
    have hz := getD_lt hr ((x :: y :: l).length - 1)
    have hb : 1 ≤ Lib.bitLen ((x :: y :: l).getD ((x :: y :: l).length - 1) 0) := by rw [bitLen_pos _ hx (wb_lt hz)]; omega
    have h2 : WB ≤ WB ^ ((x :: y :: l).length - 1) := by
      calc WB = WB ^ 1 := (Nat.pow_one WB).symm
        _ ≤ _ := Nat.pow_le_pow_right wb_pos (by simp)
    have h3 : 2 ^ k ≤ WB := by rw [wb_eq]; exact (Nat.pow_le_pow_right (by omega) hk : 2 ^ k ≤ 2 ^ 64)
    have h4 : 65 ≤ natLen (x :: y :: l) := by
      rw [natLen, if_neg (by simp)]
      have : 1 ≤ (x :: y :: l).length - 1 := by simp
      omega
    constructor
    · intro; omega
    · intro; omega

theorem c152 (b o : Nat) (neg : Bool) (A : Option Addr) (n c : Nat) (xs : List Nat) (w : World) (h : BigR w b o neg A n c xs) :
    Calls Tryz.prog 152 #[.pointer (some ⟨b, o, none⟩)] w fun e w' => e = .returned (.int .i64 (natLen xs : Nat)) ∧ w = w' := by
  have h1 := h.ab
  have HN := Lib.hid h.nat
  clear h
  go_enter Tryz.func152, Tryz.ntmps152
  go_wp2_with fail
  refine (c170 A n c xs w HN.out).mono ?_
  rintro e w1 ⟨rfl, rfl⟩
  go_wp2_with fail
  go_ret
  exact ⟨rfl, rfl⟩

theorem c153 (A : Option Addr) (n c : Nat) (xs : List Nat) (w : World) (h : NatR w A n c xs) :
    Calls Tryz.prog 153 #[.slice A n c] w fun e w' => e = .returned (.int .u64 (xs.getD 0 0 : Nat)) ∧ w = w' := by
  have hl := Lib.hid h.len
  by_cases h0 : n = 0
  · subst h0
    obtain rfl := h.zero rfl
    go_enter Tryz.func153, Tryz.ntmps153
    go_wp2_with fail
    go_ret
    exact ⟨rfl, rfl⟩
  · obtain ⟨g, ys, rfl, hb, hc⟩ := h.pos (by omega)
    have q1 : ((n : Int) == 0) = false := by rw [beq_eq_false_iff_ne]; omega
    have q2 : (0 : Int) < (n : Int) := by omega
    have hcell := hb.cell (i := 0) (by simp [hl.out]; omega)
    rw [getD_append_l (by rw [hl.out]; omega)] at hcell
    have hX := wb_lt (getD_lt h.rng 0)
    generalize hx : xs.getD 0 0 = X at *
    clear hx
    go_enter Tryz.func153, Tryz.ntmps153
    go_wp2_with fail
    go_ret
    exact ⟨rfl, rfl⟩

theorem nv_getD0 {xs : List Nat} (h : Nrm xs) (hv : nv xs < WB) : xs.getD 0 0 = nv xs := by
  match xs, h, hv with
  | [], _, _ => rfl
  | [x], _, _ => rw [nv_one]; rfl
  | x :: y :: l, h, hv =>
    have h1 := nv_pos h (by simp)
    have h2 : WB ^ 1 ≤ WB ^ ((x :: y :: l).length - 1) := Nat.pow_le_pow_right wb_pos (by simp)
    rw [Nat.pow_one] at h2
    omega
theorem c135 (b o : Nat) (neg : Bool) (A : Option Addr) (n c : Nat) (xs : List Nat) (w : World) (h : BigR w b o neg A n c xs) (hv : nv xs < 9223372036854775808) :
    Calls Tryz.prog 135 #[.pointer (some ⟨b, o, none⟩)] w fun e w' => e = .returned (.int .i64 (zv neg xs)) ∧ w = w' := by
  have h0 := h.sg
  have h1 := h.ab
  have HN := Lib.hid h.nat
  have e0 := nv_getD0 h.nrm (lt_wb (by omega))
  have HZ : Hid (zv neg xs = if neg then -(nv xs : Int) else (nv xs : Int)) := rfl
  have hcalls := c153 A n c xs w HN.out
  rw [e0] at hcalls
  generalize nv xs = X at *
  generalize zv neg xs = Z at *
  clear h e0
  cases neg
  all_goals
    go_enter Tryz.func135, Tryz.ntmps135
    go_wp2_with fail
    refine hcalls.mono ?_
    rintro e w1 ⟨rfl, rfl⟩
    go_wp2_with fail
    go_ret
    refine ⟨ret_eq ?_, rfl⟩
    rw [HZ.out]
    try rfl
theorem c115 (b o : Nat) (neg : Bool) (A : Option Addr) (n c : Nat) (xs : List Nat) (w : World) (h : BigR w b o neg A n c xs) (hA : ∀ a, A = some a → a.block ≠ b) :
    Calls Tryz.prog 115 #[.pointer (some ⟨b, o, none⟩), .pointer (some ⟨b, o, none⟩)] w fun e w' => e = .returned (.pointer (some ⟨b, o, none⟩)) ∧ BigR w' b o (decide (0 < n) && !neg) A n c xs ∧ w.grownBy w' (some b) := by
  have h0 := h.sg
  have h1 := h.ab
  have f := h.own.free o
  have H := Lib.hid h
  clear h
  have hq : ((n : Int) > 0) = (0 < n) := by simp
  by_cases hn : 0 < n
  all_goals
    go_enter Tryz.func115, Tryz.ntmps115
    go_wp2_with fail
    refine (c120_self b o w).mono ?_
    rintro e w1 ⟨rfl, rfl⟩
    go_wp2_with fail
    go_ret
    refine ⟨rfl, ⟨H.out.own.set _ _, ?_, ?_, H.out.nat.grown (g' := b) (grown_set (grown_refl _ _) _ _) hA, H.out.nrm⟩, grown_set (grown_refl _ _) _ _⟩
    · rw [cell_setCell_at h0]; simp [hn]
    · rw [cell_setCell_at h0, if_neg (by omega)]; exact h1
end Go.Proofs.YtpfihjkhgfoijaaGreatDoor
namespace Go.Proofs.YtpfihjkhgfoijaaGreatDoor
open Go.RowKit

def isSm (z : Int) : Bool := decide (-2147483648 ≤ z) && decide (z < 2147483648)
theorem isSm_eq {z : Int} (neg : Bool) (xs : List Nat) (hn : Nrm xs) (hr : ∀ x ∈ xs, x < WB) (hz : zv neg xs = z) :
    (if natLen xs < 32 then true else if natLen xs = 32 then decide (z = -2147483648) else false) = isSm z := by
  have h31 := natLen_le_iff hn hr 31 (by omega)
  have h32 := natLen_le_iff hn hr 32 (by omega)
  unfold isSm
  rw [← Bool.decide_and]
  simp only [Nat.reducePow] at h31 h32
  unfold zv at hz
  split
  · have := h31.1 (by omega)
    symm; rw [decide_eq_true_iff]
    split at hz <;> omega
  · have h1 : ¬ nv xs < 2147483648 := fun h => by have := h31.2 h; omega
    split
    · have := h32.1 (by omega)
      apply decide_eq_decide.mpr
      split at hz <;> omega
    · have h2 : ¬ nv xs < 4294967296 := fun h => by have := h32.2 h; omega
      symm; rw [decide_eq_false_iff_not]
      split at hz <;> omega
set_option maxHeartbeats 1000000 in
theorem c133 (b o : Nat) (neg : Bool) (A : Option Addr) (n c : Nat) (xs : List Nat) (w : World) (h : BigR w b o neg A n c xs) :
    Calls Tryz.prog 133 #[.pointer (some ⟨b, o, none⟩)] w fun e w' => e = .returned (.bool (isSm (zv neg xs))) ∧ w = w' := by
  have hs := isSm_eq neg xs h.nrm h.nat.rng rfl
  have h1 := c152 b o neg A n c xs w h
  have h2 : Hid (natLen xs = 32 → Calls Tryz.prog 135 #[.pointer (some ⟨b, o, none⟩)] w fun e w' => e = .returned (.int .i64 (zv neg xs)) ∧ w = w') := fun e => by
    have := (natLen_le_iff h.nrm h.nat.rng 32 (by omega)).1 (by omega)
    exact c135 b o neg A n c xs w h (by simp only [Nat.reducePow] at this; omega)
  clear h
  generalize natLen xs = L at *
  generalize zv neg xs = Z at *
  have HS := Lib.hid hs
  clear hs
  rcases (by omega : L < 32 ∨ L = 32 ∨ 32 < L) with hL | hL | hL
  · go_enter Tryz.func133, Tryz.ntmps133
    go_wp2_with fail
    refine h1.mono ?_
    rintro e w1 ⟨rfl, rfl⟩
    go_wp2_with fail
    go_ret
    refine ⟨ret_eq ?_, rfl⟩
    rw [← HS.out, if_pos hL]; rfl
  · have h3 := Lib.hid (h2.out hL)
    subst hL
    go_enter Tryz.func133, Tryz.ntmps133
    go_wp2_with fail
    refine h1.mono ?_
    rintro e w1 ⟨rfl, rfl⟩
    go_wp2_with fail
    refine h3.out.mono ?_
    rintro e w1 ⟨rfl, rfl⟩
    go_wp2_with fail
    all_goals
      go_ret
      refine ⟨ret_eq ?_, rfl⟩
      rw [← HS.out]
      try show Value.bool (Z == -2147483648) = Value.bool (decide (Z = -2147483648))
      try congr 1
      try (by_cases hz : Z = -2147483648; (subst hz; rfl); (rw [beq_eq_false_iff_ne.mpr hz, decide_eq_false hz]))
  · have q1 : ((L : Int) == 32) = false := by rw [beq_eq_false_iff_ne]; omega
    have q2 : ¬ ((L : Int) < 32) := by omega
    have q3 : decide ((L : Int) < 32) = false := by rw [decide_eq_false_iff_not]; omega
    go_enter Tryz.func133, Tryz.ntmps133
    go_wp2_with fail
    refine h1.mono ?_
    rintro e w1 ⟨rfl, rfl⟩
    go_wp2_with fail
    go_ret
    refine ⟨ret_eq ?_, rfl⟩
    rw [← HS.out, if_neg (by omega), if_neg (by omega)]; rfl

/-- block g is the row cs, none of it frozen -/
structure RowB (w : World) (g : Nat) (cs : Array Value) (e : TypeId) : Prop where mk ::
  out : w.heap[g]? = some (.cells cs e (0, 0))
theorem RowB.cell {w : World} {g : Nat} {cs : Array Value} {e : TypeId} (h : RowB w g cs e) (i : Nat) (v : Value) (hv : cs[i]? = some v) : w.cell? ⟨g, i, none⟩ = some v := by
  rw [cell_of_row w g i cs e (0, 0) h.out]; exact hv
theorem RowB.blk0 {w : World} {g : Nat} {cs : Array Value} {e : TypeId} (h : RowB w g cs e) : Blk0 w g := ⟨cs, e, h.out⟩
theorem RowB.free {w : World} {g : Nat} {cs : Array Value} {e : TypeId} (h : RowB w g cs e) (i : Nat) : w.frozen? ⟨g, i, none⟩ = false := h.blk0.free i
theorem RowB.lt {w : World} {g : Nat} {cs : Array Value} {e : TypeId} (h : RowB w g cs e) : g < w.heap.size := h.blk0.lt
theorem RowB.set {w : World} {g : Nat} {cs : Array Value} {e : TypeId} (h : RowB w g cs e) (i : Nat) (v : Value) (cs' : Array Value) (hc : cs.setIfInBounds i v = cs') : RowB (w.setCell ⟨g, i, none⟩ v) g cs' e := by
  subst hc
  constructor
  simp only [World.setCell, Array.getElem?_modify, h.out]
  simp
theorem RowB.setNe {w : World} {g : Nat} {cs : Array Value} {e : TypeId} (h : RowB w g cs e) (p : Addr) (v : Value) (hne : p.block ≠ g) : RowB (w.setCell p v) g cs e := by
  constructor
  simp only [World.setCell, Array.getElem?_modify, if_neg hne]
  exact h.out
theorem RowB.below {w w' : World} {g : Nat} {cs : Array Value} {e : TypeId} (h : RowB w g cs e) (hb : Below w.heap.size w w') : RowB w' g cs e := ⟨(hb.block g h.lt).trans h.out⟩
theorem RowB.belowN {w w' : World} {n g : Nat} {cs : Array Value} {e : TypeId} (h : RowB w g cs e) (hb : Below n w w') (hn : g < n) : RowB w' g cs e := ⟨(hb.block g hn).trans h.out⟩
theorem RowB.grown {w w' : World} {g g' : Nat} {cs : Array Value} {e : TypeId} (h : RowB w g cs e) (hb : w.grownBy w' (some g')) (hne : g ≠ g') : RowB w' g cs e := ⟨(hb.block g h.lt (by simpa using hne)).trans h.out⟩
theorem RowB.drewN {w : World} {g : Nat} {cs : Array Value} {e : TypeId} (h : RowB w g cs e) (n : Nat) : RowB (w.drewN n) g cs e := ⟨h.out⟩
theorem RowB.drew {w : World} {g : Nat} {cs : Array Value} {e : TypeId} (h : RowB w g cs e) : RowB w.drew g cs e := ⟨h.out⟩
theorem RowB.new (w : World) (cs : Array Value) (e : TypeId) : RowB (w.alloc (.cells cs e)) w.heap.size cs e := ⟨heap_alloc_new w _⟩
theorem RowB.alloc {w : World} {g : Nat} {cs : Array Value} {e : TypeId} (h : RowB w g cs e) (o : Obj) : RowB (w.alloc o) g cs e := ⟨(heap_alloc_old w o h.lt).trans h.out⟩
theorem ret_row {fn : Func} {p : Tmp} {ty : TypeId} {w : World} {g : Nat} {cs : Array Value} {e : TypeId} (h : RowB w g cs e) (hr : fn.results = #[.cell p ty]) (tmps : Array Value) (d : TypeDesc)
    (hd : (match d with | .struct _ | .array _ _ => true | _ => false) = true) (hu : Tryz.prog.underlying ty = some d) (hp : tmps.getD p undef = .pointer (some ⟨g, 0, none⟩)) (hi : (Tryz.prog.info? ty).map (·.size) = some cs.size) :
    (results fn tmps).run Tryz.prog w = .ok (.agg cs) w := results_cell_row hr tmps w g e cs (0, 0) d hp h.out hu (by cases d <;> simp_all) hi
theorem alloc_size (w : World) (o : Obj) : (w.alloc o).heap.size = w.heap.size + 1 := Array.size_push ..
theorem BigR.new0 {w : World} {b : Nat} (h : RowB w b #[Value.bool false, Value.slice none 0 0] 229) : BigR w b 0 false none 0 0 [] :=
  ⟨h.blk0, h.cell 0 _ rfl, h.cell 1 _ rfl, NatR.nil w, Nrm.nil⟩
theorem i126 : (Tryz.prog.info? 126).map (·.size) = some 2 := by kernel_rfl
theorem c134 (z : Int) (w : World) : Calls Tryz.prog 134 #[.int .i64 z] w fun e w' => e = .returned (.agg #[.int .i64 z, .pointer none]) ∧ Below w.heap.size w w' := by
  go_enter Tryz.func134, Tryz.ntmps134
  go_wp2_with fail
  refine bodyPost_ret (ret_row (RowB.new w _ _) rfl _ _ rfl Tryz.underlying126 rfl i126) rfl ?_
  exact ⟨rfl, below_alloc' (Below.refl _ _) _⟩
theorem c136 (b : Nat) (w : World) : Calls Tryz.prog 136 #[.pointer (some ⟨b, 0, none⟩)] w fun e w' => e = .returned (.agg #[.int .i64 0, .pointer (some ⟨b, 0, none⟩)]) ∧ Below w.heap.size w w' := by
  go_enter Tryz.func136, Tryz.ntmps136
  go_wp2_with fail
  refine bodyPost_ret (ret_row (RowB.new w _ _) rfl _ _ rfl Tryz.underlying126 rfl i126) rfl ?_
  exact ⟨rfl, below_alloc' (Below.refl _ _) _⟩
/-- v is starlark's Int of the number z (of at most 8 words) -/
def IntV (w : World) (z : Int) (v : Value) : Prop :=
  (isSm z = true ∧ v = .agg #[.int .i64 z, .pointer none]) ∨
  (isSm z = false ∧ ∃ b neg A n c xs, v = .agg #[.int .i64 0, .pointer (some ⟨b, 0, none⟩)] ∧ BigR w b 0 neg A n c xs ∧ zv neg xs = z ∧ n ≤ 8)
theorem IntV.below {w w' : World} {z : Int} {v : Value} (h : IntV w z v) (hb : Below w.heap.size w w') : IntV w' z v := by
  rcases h with h | ⟨h, b, neg, A, n, c, xs, e, hB, hz, hn⟩
  · exact .inl h
  · exact .inr ⟨h, b, neg, A, n, c, xs, e, hB.below hb, hz, hn⟩
/-- P holds of w and rests upon blocks from N on only -/
def Sits (N : Nat) (P : World → Prop) (w : World) : Prop := ∀ W, w.heap.size ≤ W.heap.size → (∀ k, N ≤ k → k < w.heap.size → W.heap[k]? = w.heap[k]?) → P W
theorem Sits.out {N : Nat} {P : World → Prop} {w : World} (h : Sits N P w) : P w := h w (Nat.le_refl _) fun _ _ _ => rfl
theorem Sits.below {N : Nat} {P : World → Prop} {w w' : World} (h : Sits N P w) (hb : Below w.heap.size w w') : Sits N P w' :=
  fun W hs hk => h W (Nat.le_trans hb.size hs) fun k h1 h2 => (hk k h1 (Nat.lt_of_lt_of_le h2 hb.size)).trans (hb.block k h2)
theorem Sits.grown {N g : Nat} {P : World → Prop} {w w' : World} (h : Sits N P w) (hb : w.grownBy w' (some g)) (hg : g < N) : Sits N P w' :=
  fun W hs hk => h W (Nat.le_trans hb.size hs) fun k h1 h2 => (hk k h1 (Nat.lt_of_lt_of_le h2 hb.size)).trans (hb.block k h2 (by simp; omega))
theorem Sits.mono {N M : Nat} {P : World → Prop} {w : World} (h : Sits N P w) (hm : M ≤ N) : Sits M P w :=
  fun W hs hk => h W hs fun k h1 h2 => hk k (Nat.le_trans hm h1) h2
theorem Sits.imp {N : Nat} {P Q : World → Prop} {w : World} (h : Sits N P w) (hi : ∀ W, P W → Q W) : Sits N Q w := fun W hs hk => hi W (h W hs hk)
theorem Sits.and {N : Nat} {P Q : World → Prop} {w : World} (h : Sits N P w) (k : Sits N Q w) : Sits N (fun W => P W ∧ Q W) w := fun W hs hk => ⟨h W hs hk, k W hs hk⟩
theorem Sits.const {N : Nat} {P : Prop} {w : World} (h : P) : Sits N (fun _ => P) w := fun _ _ _ => h
theorem NatR.agree {w W : World} {A : Option Addr} {n c : Nat} {xs : List Nat} (h : NatR w A n c xs) (hA : ∀ a, A = some a → W.heap[a.block]? = w.heap[a.block]?) : NatR W A n c xs :=
  ⟨h.len, h.le, h.small, h.rng, by
    rcases h.blk with h1 | ⟨g, ys, e, hk, hl⟩
    · exact .inl h1
    · exact .inr ⟨g, ys, e, ⟨(hA _ e).trans hk.out⟩, hl⟩⟩
theorem NatR.lt {w : World} {A : Option Addr} {n c : Nat} {xs : List Nat} (h : NatR w A n c xs) (a : Addr) (ha : A = some a) : a.block < w.heap.size := by
  rcases h.blk with ⟨h1, _⟩ | ⟨g, ys, e, hk, hl⟩
  · rw [h1] at ha; cases ha
  · rw [e] at ha; cases ha; exact hk.lt
theorem BigR.agree {w W : World} {b o : Nat} {neg : Bool} {A : Option Addr} {n c : Nat} {xs : List Nat} (h : BigR w b o neg A n c xs) (hb : W.heap[b]? = w.heap[b]?) (hA : ∀ a, A = some a → W.heap[a.block]? = w.heap[a.block]?) : BigR W b o neg A n c xs :=
  ⟨by obtain ⟨c, e, h⟩ := h.own.out; exact ⟨c, e, hb.trans h⟩, (World.cell?_of_block hb).trans h.sg, (World.cell?_of_block hb).trans h.ab, h.nat.agree hA, h.nrm⟩
theorem BigR.sits {N : Nat} {w : World} {b o : Nat} {neg : Bool} {A : Option Addr} {n c : Nat} {xs : List Nat} (h : BigR w b o neg A n c xs) (hb : N ≤ b) (hA : ∀ a, A = some a → N ≤ a.block) : Sits N (fun W => BigR W b o neg A n c xs) w :=
  fun W _ hk => h.agree (hk b hb h.lt) fun a ha => hk _ (hA a ha) (h.nat.lt a ha)
/-- the two stores of an Int into a result's block -/
theorem set126 {w : World} {g : Nat} {x y x' y' : Value} (h : RowB w g #[x, y] 126) : RowB ((w.setCell ⟨g, 0, none⟩ x').setCell ⟨g, 1, none⟩ y') g #[x', y'] 126 :=
  (h.set 0 x' #[x', y] rfl).set 1 y' #[x', y'] rfl
set_option maxHeartbeats 1000000 in
theorem c116 (b : Nat) (neg : Bool) (A : Option Addr) (n c : Nat) (xs : List Nat) (z : Int) (w : World) (h : BigR w b 0 neg A n c xs) (hz : zv neg xs = z) (hn : n ≤ 8) :
    Calls Tryz.prog 116 #[.pointer (some ⟨b, 0, none⟩)] w fun e w' => ∃ v, e = .returned v ∧ Sits w.heap.size (fun W => IntV W z v) w' ∧ Below w.heap.size w w' := by
  have hlt := h.lt
  have HB : Hid (∀ W, Below w.heap.size w W → BigR W b 0 neg A n c xs) := fun W hW => h.below hW
  have hd : isSm z = true → nv xs < 9223372036854775808 := by
    subst hz
    unfold isSm zv
    rw [Bool.and_eq_true, decide_eq_true_iff, decide_eq_true_iff]
    rintro ⟨h1, h2⟩
    split at h1 <;> simp_all <;> omega
  have HD := Lib.hid hd
  have HZ := Lib.hid hz
  clear h hd hz
  have hB0 : Below w.heap.size w (w.alloc (.cells #[Value.int IntKind.i64 0, Value.pointer none] 126)) := below_alloc' (Below.refl _ _) _
  have hn1 := Lib.hid (RowB.new w #[Value.int IntKind.i64 0, Value.pointer none] 126)
  cases hs : isSm z
  · have H1 : Hid (∀ W, Below w.heap.size w W → Calls Tryz.prog 133 #[.pointer (some ⟨b, 0, none⟩)] W fun e w' => e = .returned (.bool false) ∧ W = w') := fun W hW => by
      have := c133 b 0 neg A n c xs W (HB.out W hW); rwa [HZ.out, hs] at this
    have HS := Lib.hid hs
    clear hs
    go_enter Tryz.func116, Tryz.ntmps116
    go_wp2_with fail
    refine (H1.out _ hB0).mono ?_
    rintro e w1 ⟨rfl, rfl⟩
    have hB1 : Below w.heap.size w ((w.alloc (.cells #[Value.int IntKind.i64 0, Value.pointer none] 126)).alloc (.cells #[Value.bool false, Value.slice none 0 0] 229)) := below_alloc' hB0 _
    have hR : RowB ((w.alloc (.cells #[Value.int IntKind.i64 0, Value.pointer none] 126)).alloc (.cells #[Value.bool false, Value.slice none 0 0] 229)) (w.heap.size + 1) #[Value.bool false, Value.slice none 0 0] 229 := alloc_size w (.cells #[Value.int IntKind.i64 0, Value.pointer none] 126) ▸ RowB.new _ _ _
    have hR1 := (RowB.new w #[Value.int IntKind.i64 0, Value.pointer none] 126).alloc (.cells #[Value.bool false, Value.slice none 0 0] 229)
    go_wp2_with fail
    generalize (w.alloc (.cells #[Value.int IntKind.i64 0, Value.pointer none] 126)).alloc (.cells #[Value.bool false, Value.slice none 0 0] 229) = w1 at *
    refine (c120 (w.heap.size + 1) 0 b 0 neg A n c xs w1 (BigR.new0 hR) (HB.out _ hB1) (by omega) (by omega)).mono ?_
    rintro e w2 ⟨B, d, rfl, hX, hG, hfr, -⟩
    have hB2 : Below w.heap.size w w2 := below_grown' hB1 hG (by omega)
    have hR2 := hR1.grown hG (by omega)
    go_wp2_with fail
    refine (c136 _ _).mono ?_
    rintro e w3 ⟨rfl, hB⟩
    have hB3 := below_trans' hB2 hB
    have hlR := hR.lt
    have hr := Lib.hid (hR2.below hB)
    have hX3 := Lib.hid (hX.below hB)
    have k0 := hr.out.cell 0 _ rfl
    have k1 := hr.out.cell 1 _ rfl
    have f0 := hr.out.free 0
    have hr1 := Lib.hid (hr.out.set 0 (.int .i64 0) #[.int .i64 0, .pointer none] rfl)
    have f1 := hr1.out.free 1
    have k2 := hr1.out.cell 1 _ rfl
    clear hX hR2 hR1 hR
    go_wp2_with fail
    refine bodyPost_ret (ret_row (set126 hr.out) rfl _ _ rfl Tryz.underlying126 rfl i126) rfl ?_
    have hX5 := hX3.out.grown (g := w.heap.size) (grown_set (grown_set (grown_refl _ _) 0 (.int .i64 0)) 1 (.pointer (some ⟨w.heap.size + 1, 0, none⟩))) (by omega) (fun a ha => by have := hfr a ha; omega)
    refine ⟨_, rfl, (hX5.sits (N := w.heap.size) (by omega) (fun a ha => by have := hfr a ha; omega)).imp fun W hW => .inr ⟨HS.out, w.heap.size + 1, neg, B, n, d, xs, rfl, hW, HZ.out, hn⟩, below_set' (below_set' hB3 (Nat.le_refl _) _) (Nat.le_refl _) _⟩
  · have H1 : Hid (∀ W, Below w.heap.size w W → Calls Tryz.prog 133 #[.pointer (some ⟨b, 0, none⟩)] W fun e w' => e = .returned (.bool true) ∧ W = w') := fun W hW => by
      have := c133 b 0 neg A n c xs W (HB.out W hW); rwa [HZ.out, hs] at this
    have H2 : Hid (∀ W, Below w.heap.size w W → Calls Tryz.prog 135 #[.pointer (some ⟨b, 0, none⟩)] W fun e w' => e = .returned (.int .i64 z) ∧ W = w') := fun W hW => by
      have := c135 b 0 neg A n c xs W (HB.out W hW) (HD.out hs); rwa [HZ.out] at this
    have HS := Lib.hid hs
    clear hs
    go_enter Tryz.func116, Tryz.ntmps116
    go_wp2_with fail
    refine (H1.out _ hB0).mono ?_
    rintro e w1 ⟨rfl, rfl⟩
    go_wp2_with fail
    refine (H2.out _ hB0).mono ?_
    rintro e w1 ⟨rfl, rfl⟩
    go_wp2_with fail
    refine (c134 z _).mono ?_
    rintro e w1 ⟨rfl, hB⟩
    have hr := Lib.hid (hn1.out.below hB)
    have hBB := below_trans' hB0 hB
    have k0 := hr.out.cell 0 _ rfl
    have k1 := hr.out.cell 1 _ rfl
    have f0 := hr.out.free 0
    have hr1 := Lib.hid (hr.out.set 0 (.int .i64 z) #[.int .i64 z, .pointer none] rfl)
    have f1 := hr1.out.free 1
    have k2 := hr1.out.cell 1 _ rfl
    go_wp2_with fail
    refine bodyPost_ret (ret_row (set126 hr.out) rfl _ _ rfl Tryz.underlying126 rfl i126) rfl ?_
    exact ⟨_, rfl, fun W _ _ => .inl ⟨HS.out, rfl⟩, below_set' (below_set' hBB (Nat.le_refl _) _) (Nat.le_refl _) _⟩
end Go.Proofs.YtpfihjkhgfoijaaGreatDoor
namespace Go.Proofs.YtpfihjkhgfoijaaGreatDoor
open Go.RowKit

/-- the number of a sign and bytes -/
def bz (neg : Bool) (bs : List Nat) : Int := if neg then -(bval bs : Int) else (bval bs : Int)
theorem words_le {xs bs : List Nat} (hn : Nrm xs) (hb : ∀ b ∈ bs, b < 256) (hl : bs.length ≤ 40) (hv : nv xs = bval bs) : xs.length ≤ 8 := by
  by_cases h0 : xs = []
  · subst h0; simp
  apply Classical.byContradiction
  intro hc
  have h1 := nv_pos hn h0
  have h2 := bval_lt hb
  have h3 : 256 ^ bs.length ≤ 256 ^ 40 := Nat.pow_le_pow_right (by omega) hl
  have h4 : WB ^ 8 ≤ WB ^ (xs.length - 1) := Nat.pow_le_pow_right wb_pos (by omega)
  have h5 : 256 ^ 40 ≤ WB ^ 8 := by rw [← pow_wb]; exact Nat.pow_le_pow_right (by omega) (by omega)
  omega
theorem zv_bz {xs bs : List Nat} (neg : Bool) (hv : nv xs = bval bs) (hn : Nrm xs) : zv (decide (0 < xs.length) && neg) xs = bz neg bs := by
  unfold zv bz
  rw [← hv]
  cases neg <;> simp
  intro h; subst h; rfl
theorem IntV.shape {w : World} {z : Int} {v : Value} (h : IntV w z v) : ∃ i p, v = .agg #[.int .i64 i, .pointer p] := by
  rcases h with ⟨_, e⟩ | ⟨_, b, _, _, _, _, _, e, _⟩
  · exact ⟨_, _, e⟩
  · exact ⟨_, _, e⟩
theorem c92 (k : Int) (neg : Bool) (A : Option Addr) (n c : Nat) (u : Int) (t : ByteArray) (K : Option Addr) (m d : Nat) (bs : List Nat) (w : World) (h : ByteR w A n c bs) (hn : n ≤ 40) :
    Calls Tryz.prog 92 #[.agg #[.int .i64 k, .bool neg, .slice A n c, .int .u64 u, .string t, .slice K m d]] w fun e w' => ∃ v, e = .returned v ∧ Sits w.heap.size (fun W => IntV W (bz neg bs) v) w' ∧ Below w.heap.size w w' := by
  obtain ⟨w2, hw2, b2, r0, r1, r2⟩ : ∃ w2, ((w.alloc (.cells #[.int .i64 k, .bool neg, .slice A n c, .int .u64 u, .string t, .slice K m d] 36)).alloc (.cells #[.int .i64 0, .pointer none] 126)).alloc (.cells #[.bool false, .slice none 0 0] 229) = w2 ∧ Below w.heap.size w w2 ∧
      RowB w2 w.heap.size #[.int .i64 k, .bool neg, .slice A n c, .int .u64 u, .string t, .slice K m d] 36 ∧ RowB w2 (w.heap.size + 1) #[.int .i64 0, .pointer none] 126 ∧ RowB w2 (w.heap.size + 1 + 1) #[.bool false, .slice none 0 0] 229 :=
    ⟨_, rfl, below_alloc' (below_alloc' (below_alloc' (Below.refl _ _) _) _) _, ((RowB.new w _ _).alloc _).alloc _, by
      have := RowB.new (w.alloc (.cells #[.int .i64 k, .bool neg, .slice A n c, .int .u64 u, .string t, .slice K m d] 36)) #[.int .i64 0, .pointer none] 126
      rw [alloc_size] at this; exact this.alloc _, by
      have := RowB.new ((w.alloc (.cells #[.int .i64 k, .bool neg, .slice A n c, .int .u64 u, .string t, .slice K m d] 36)).alloc (.cells #[.int .i64 0, .pointer none] 126)) #[.bool false, .slice none 0 0] 229
      rw [alloc_size, alloc_size] at this; exact this⟩
  have hN := Lib.hid (c114 _ A n c bs w2 (BigR.new0 r2) (h.below b2) (by omega))
  have h8 : ∀ xs : List Nat, Nrm xs → nv xs = bval bs → xs.length ≤ 8 := fun xs h1 h2 => words_le h1 h.rng (by rw [h.len]; omega) h2
  have H8 := Lib.hid h8
  clear h h8
  have c2 := r0.cell 2 _ rfl
  go_enter Tryz.func92, Tryz.ntmps92
  go_wp2_with fail
  clear hw2
  refine hN.out.mono ?_
  rintro e w3 ⟨B, q, e, xs, rfl, hX, hv, hG, hfr⟩
  have l2 := r2.lt
  have b3 : Below w.heap.size w w3 := below_grown' b2 hG (by omega)
  have r0 := r0.grown hG (by omega)
  have r1 := r1.grown hG (by omega)
  have hq := H8.out xs hX.nrm hv
  rw [hX.nat.len] at hq
  have HV := Lib.hid hv
  have c1 := r0.cell 1 _ rfl
  have r1' := Lib.hid r1
  have hX' := Lib.hid hX
  have hneB : ∀ a, B = some a → a.block ≠ w.heap.size + 1 + 1 := fun a ha => by have := hfr a ha; omega
  clear hv hN r1 hX
  cases neg
  · go_wp2_with fail
    have hz := zv_bz false HV.out hX'.out.nrm
    rw [Bool.and_false] at hz
    have HZ := Lib.hid hz
    clear hz
    refine (c116 _ false B q e xs _ w3 hX'.out HZ.out hq).mono ?_
    rintro e w4 ⟨v, rfl, hI, hB⟩
    have b4 := below_trans' b3 hB
    have hr := Lib.hid (r1'.out.below hB)
    have k0 := hr.out.cell 0 _ rfl
    have k1 := hr.out.cell 1 _ rfl
    have f0 := hr.out.free 0
    obtain ⟨i, p, rfl⟩ := hI.out.shape
    have hI' := Lib.hid hI
    clear hI
    have hr1 := Lib.hid (hr.out.set 0 (.int .i64 i) #[.int .i64 i, .pointer none] rfl)
    have f1 := hr1.out.free 1
    have k2 := hr1.out.cell 1 _ rfl
    have l3 := hG.size
    go_wp2_with fail
    refine bodyPost_ret (ret_row (set126 hr.out) rfl _ _ rfl Tryz.underlying126 rfl i126) rfl ?_
    exact ⟨_, rfl, (hI'.out.grown (g := w.heap.size + 1) (grown_set (grown_set (grown_refl _ _) _ _) _ _) (by omega)).mono (by omega), below_set' (below_set' b4 (by show _ ≤ w.heap.size + 1; omega) _) (by show _ ≤ w.heap.size + 1; omega) _⟩
  · go_wp2_with fail
    refine (c115 _ 0 false B q e xs w3 hX'.out hneB).mono ?_
    rintro e w4 ⟨rfl, hX4, hG4⟩
    rw [Bool.not_false] at hX4
    have l3 := hG.size
    have b4 : Below w.heap.size w w4 := below_grown' b3 hG4 (by omega)
    have r1'' := Lib.hid (r1'.out.grown hG4 (by omega))
    have hz := zv_bz true HV.out hX'.out.nrm
    rw [hX'.out.nat.len] at hz
    have HZ := Lib.hid hz
    have HX4 := Lib.hid hX4
    clear hz hX4
    go_wp2_with fail
    refine (c116 _ _ B q _ xs _ w4 HX4.out HZ.out hq).mono ?_
    rintro e w5 ⟨v, rfl, hI, hB⟩
    have b5 := below_trans' b4 hB
    have hr := Lib.hid (r1''.out.below hB)
    have k0 := hr.out.cell 0 _ rfl
    have k1 := hr.out.cell 1 _ rfl
    have f0 := hr.out.free 0
    obtain ⟨i, p, rfl⟩ := hI.out.shape
    have hI' := Lib.hid hI
    clear hI
    have hr1 := Lib.hid (hr.out.set 0 (.int .i64 i) #[.int .i64 i, .pointer none] rfl)
    have f1 := hr1.out.free 1
    have k2 := hr1.out.cell 1 _ rfl
    have l4 := hG4.size
    go_wp2_with fail
    refine bodyPost_ret (ret_row (set126 hr.out) rfl _ _ rfl Tryz.underlying126 rfl i126) rfl ?_
    exact ⟨_, rfl, (hI'.out.grown (g := w.heap.size + 1) (grown_set (grown_set (grown_refl _ _) _ _) _ _) (by omega)).mono (by omega), below_set' (below_set' b5 (by show _ ≤ w.heap.size + 1; omega) _) (by show _ ≤ w.heap.size + 1; omega) _⟩
end Go.Proofs.YtpfihjkhgfoijaaGreatDoor

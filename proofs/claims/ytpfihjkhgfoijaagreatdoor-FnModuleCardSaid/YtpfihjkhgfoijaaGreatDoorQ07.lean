/- Words, blocks of words, and small facts on worlds, for the walks of this seat; Contracts of functions over words and slices of words: make, norm, setWord, setUint64, set; Contracts over bytes and words: beUint32, beUint64, bigEndianWord; Contracts of functions over slices of words: set, setUint64, mulAddVWW, mulAddWW; Contracts over words: Add64, Sub64, mulAddWWW, mulAddVWW, mulAddWW, addMulVVWW. -/
import Derived.Test.YtpfihjkhgfoijaaGreatDoorProg
import Derived.WalkKit
import Derived.WalkSpells
import Derived.WalkLawsBesides
import Derived.Lib.Hide
import Derived.Deep.OwnRows
import Derived.Deep.QuietTactic
import Derived.BigQuiet
import Derived.Deep.LoopGhost
import Derived.Deep.RegionHeld3
import Derived.Deep.DeepCutAuto
import Derived.Laws.CopyOwn
import Derived.Shelf.Spec.BitsCarry
import Derived.Test.YtpfihjkhgfoijaaGreatDoorQ05
set_option linter.unusedVariables false
set_option linter.unusedSimpArgs false
namespace Go.Proofs.YtpfihjkhgfoijaaGreatDoor
open Go.RowKit

/-! ### words -/
@[irreducible] def WB : Nat := 18446744073709551616
theorem wb_eq : WB = 18446744073709551616 := by unfold WB; rfl
theorem wb_pos : 0 < WB := by rw [wb_eq]; omega
theorem wb_lt {x : Nat} (h : x < WB) : x < 18446744073709551616 := by rw [← wb_eq]; exact h
theorem lt_wb {x : Nat} (h : x < 18446744073709551616) : x < WB := by rw [wb_eq]; exact h
theorem wrap_u64 {x : Nat} (h : x < WB) : IntKind.u64.wrap (x : Int) = (x : Int) := by
  have := wb_lt h
  rw [IntKind.wrap_u64]; omega
def wsv (xs : List Nat) : List Value := xs.map fun (x : Nat) => .int .u64 (x : Int)
@[irreducible] def wrow (xs : List Nat) : Array Value := (wsv xs).toArray
theorem wrow_get {xs : List Nat} {i : Nat} (h : i < xs.length) : (wrow xs)[i]? = some (.int .u64 ((xs.getD i 0 : Nat) : Int)) := by
  unfold wrow wsv
  simp [h]
theorem wrow_set (xs : List Nat) (i : Nat) (v : Nat) : (wrow xs).setIfInBounds i (.int .u64 (v : Int)) = wrow (xs.set i v) := by
  unfold wrow wsv
  simp [List.map_set]
theorem wrow_size (xs : List Nat) : (wrow xs).size = xs.length := by unfold wrow wsv; simp
theorem wrow_toList (xs : List Nat) : (wrow xs).toList = wsv xs := by unfold wrow; simp
theorem wrow_of (xs : List Nat) : wrow xs = (wsv xs).toArray := by unfold wrow; rfl

def nv : List Nat → Nat
  | [] => 0
  | x :: xs => x + WB * nv xs
theorem nv_append (a b : List Nat) : nv (a ++ b) = nv a + WB ^ a.length * nv b := by
  induction a with
  | nil => simp [nv]
  | cons x xs ih => simp only [List.cons_append, nv, ih, List.length_cons, Nat.pow_succ]; rw [Nat.mul_add, Nat.mul_comm (WB ^ xs.length) WB, ← Nat.mul_assoc]; omega
theorem nv_zeros (n : Nat) : nv (List.replicate n 0) = 0 := by
  induction n with
  | zero => rfl
  | succ n ih => simp [List.replicate_succ, nv, ih]
theorem nv_lt {xs : List Nat} (h : ∀ x ∈ xs, x < WB) : nv xs < WB ^ xs.length := by
  induction xs with
  | nil => simp [nv]
  | cons x xs ih =>
    have h1 := ih (fun y hy => h y (List.mem_cons_of_mem _ hy))
    have h2 := h x List.mem_cons_self
    simp only [nv, List.length_cons, Nat.pow_succ]
    rw [Nat.mul_comm (WB ^ xs.length) WB]
    have : WB * nv xs + WB ≤ WB * WB ^ xs.length := by rw [← Nat.mul_succ]; exact Nat.mul_le_mul_left _ h1
    omega
theorem take_snoc_nat (xs : List Nat) (k : Nat) (h : k < xs.length) : xs.take (k + 1) = xs.take k ++ [xs.getD k 0] := by
  rw [List.take_succ_eq_append_getElem h]; simp [h]
theorem splice_set (zs' zs : List Nat) (k v : Nat) (hl : zs'.length = k) (hk : k < zs.length) : (zs' ++ zs.drop k).set k v = (zs' ++ [v]) ++ zs.drop (k + 1) := by
  subst hl
  rw [List.set_append_right _ _ (Nat.le_refl _), Nat.sub_self, List.drop_eq_getElem_cons hk]
  simp only [List.set_cons_zero, List.append_assoc, List.singleton_append]
theorem getD_lt {xs : List Nat} (h : ∀ x ∈ xs, x < WB) (i : Nat) : xs.getD i 0 < WB := by
  rw [List.getD_eq_getElem?_getD]
  by_cases hi : i < xs.length
  · rw [List.getElem?_eq_getElem hi]; exact h _ (List.getElem_mem hi)
  · rw [List.getElem?_eq_none (by omega)]; exact wb_pos
theorem getD_append_l {xs ys : List Nat} {i : Nat} (h : i < xs.length) : (xs ++ ys).getD i 0 = xs.getD i 0 := by
  rw [List.getD_eq_getElem?_getD, List.getD_eq_getElem?_getD, List.getElem?_append_left h]

/-! ### worlds -/
/-- block g holds the words xs -/
structure WBlk (w : World) (g : Nat) (xs : List Nat) : Prop where mk :: (out : w.heap[g]? = some (.cells (wrow xs) 254 (0, 0)))
theorem WBlk.cell {w : World} {g : Nat} {xs : List Nat} (h : WBlk w g xs) {i : Nat} (hi : i < xs.length) : w.cell? ⟨g, i, none⟩ = some (.int .u64 ((xs.getD i 0 : Nat) : Int)) := by
  simp only [World.cell?, h.out]
  simpa using wrow_get hi
theorem WBlk.free {w : World} {g : Nat} {xs : List Nat} (h : WBlk w g xs) (i : Nat) : w.frozen? ⟨g, i, none⟩ = false := by
  simp [World.frozen?, h.out]
theorem WBlk.set {w : World} {g : Nat} {xs : List Nat} (h : WBlk w g xs) (i v : Nat) : WBlk (w.setCell ⟨g, i, none⟩ (.int .u64 (v : Int))) g (xs.set i v) := by
  constructor
  simp only [World.setCell, Array.getElem?_modify, h.out]
  simp [wrow_set]
theorem WBlk.lt {w : World} {g : Nat} {xs : List Nat} (h : WBlk w g xs) : g < w.heap.size := (Array.getElem?_eq_some_iff.1 h.out).1
theorem WBlk.below {w w' : World} {g : Nat} {xs : List Nat} (h : WBlk w g xs) (hb : Below w.heap.size w w') : WBlk w' g xs := ⟨(hb.block g h.lt).trans h.out⟩
theorem WBlk.grown {w w' : World} {g g' : Nat} {xs : List Nat} (h : WBlk w g xs) (hb : w.grownBy w' (some g')) (hne : g ≠ g') : WBlk w' g xs := ⟨(hb.block g h.lt (by simpa using hne)).trans h.out⟩
theorem WBlk.new (w : World) (xs : List Nat) : WBlk (w.alloc (.cells (wrow xs) 254)) w.heap.size xs := ⟨by show (w.heap.push _)[w.heap.size]? = _; simp⟩
theorem grown_refl (w : World) (r : Option Nat) : w.grownBy w r := ⟨rfl, rfl, rfl, Nat.le_refl _, fun _ _ _ => rfl⟩
theorem grown_trans {a b c : World} {r : Option Nat} (h : a.grownBy b r) (k : b.grownBy c r) : a.grownBy c r :=
  ⟨k.os.trans h.os, k.tape.trans h.tape, k.output.trans h.output, Nat.le_trans h.size k.size, fun i hi hn => (k.block i (Nat.lt_of_lt_of_le hi h.size) hn).trans (h.block i hi hn)⟩
theorem below_of_grown_new {w w' : World} {g : Nat} (h : w.grownBy w' (some g)) (hg : w.heap.size ≤ g) : Below w.heap.size w w' :=
  ⟨h.os, h.tape, h.output, h.size, fun k hk => h.block k hk (by simp; omega)⟩
theorem grown_of_below' {w w' : World} (h : Below w.heap.size w w') (r : Option Nat) : w.grownBy w' r := ⟨h.os, h.tape, h.output, h.size, fun k hk _ => h.block k hk⟩
theorem below_trans' {a b c : World} (h : Below a.heap.size a b) (k : Below b.heap.size b c) : Below a.heap.size a c :=
  ⟨k.os.trans h.os, k.tape.trans h.tape, k.output.trans h.output, Nat.le_trans h.size k.size, fun i hi => (k.block i (Nat.lt_of_lt_of_le hi h.size)).trans (h.block i hi)⟩
theorem below_alloc' {a b : World} (h : Below a.heap.size a b) (o : Obj) : Below a.heap.size a (b.alloc o) := h.alloc h.size o
theorem below_grown' {a b c : World} {g : Nat} (h : Below a.heap.size a b) (k : b.grownBy c (some g)) (hg : a.heap.size ≤ g) : Below a.heap.size a c :=
  ⟨k.os.trans h.os, k.tape.trans h.tape, k.output.trans h.output, Nat.le_trans h.size k.size, fun i hi => (k.block i (Nat.lt_of_lt_of_le hi h.size) (by simp; omega)).trans (h.block i hi)⟩
theorem below_set' {a b : World} (h : Below a.heap.size a b) {p : Addr} (hp : a.heap.size ≤ p.block) (v : Value) : Below a.heap.size a (b.setCell p v) := h.setCell hp v
theorem grown_cell {w w' : World} {g : Nat} (h : w.grownBy w' (some g)) {a : Addr} {v : Value} (hc : w.cell? a = some v) (hg : g ≠ a.block) : w'.cell? a = some v :=
  (World.cell?_of_block (h.block _ (World.block_lt_of_cell? w a hc) (by simp; exact fun e => hg e.symm))).trans hc
theorem grown_set {w w' : World} {g : Nat} (h : w.grownBy w' (some g)) (i : Nat) (v : Value) : w.grownBy (w'.setCell ⟨g, i, none⟩ v) (some g) :=
  ⟨h.os, h.tape, h.output, by simpa [World.setCell] using h.size, fun k hk hn => by
    have : g ≠ k := by rintro rfl; exact hn rfl
    simp only [World.setCell, Array.getElem?_modify, if_neg this]
    exact h.block k hk hn⟩
theorem below_cell {w w' : World} (h : Below w.heap.size w w') {a : Addr} {v : Value} (hc : w.cell? a = some v) : w'.cell? a = some v := (h.cell (World.block_lt_of_cell? w a hc)).trans hc
theorem WBlk.drewN {w : World} {g : Nat} {xs : List Nat} (h : WBlk w g xs) (n : Nat) : WBlk (w.drewN n) g xs := ⟨h.out⟩
theorem WBlk.drew {w : World} {g : Nat} {xs : List Nat} (h : WBlk w g xs) : WBlk w.drew g xs := ⟨h.out⟩
theorem grown_drewN {w w' : World} {r : Option Nat} (h : w.grownBy w' r) (n : Nat) : w.grownBy (w'.drewN n) r := ⟨h.os, h.tape, h.output, h.size, h.block⟩
theorem grown_drew {w w' : World} {r : Option Nat} (h : w.grownBy w' r) : w.grownBy w'.drew r := ⟨h.os, h.tape, h.output, h.size, h.block⟩
theorem below_drewN' {B : Nat} {w w' : World} (h : Below B w w') (n : Nat) : Below B w (w'.drewN n) := ⟨h.os, h.tape, h.output, h.size, h.block⟩
theorem below_drew' {B : Nat} {w w' : World} (h : Below B w w') : Below B w w'.drew := ⟨h.os, h.tape, h.output, h.size, h.block⟩
theorem drewN_size (w : World) (n : Nat) : (w.drewN n).heap.size = w.heap.size := rfl
theorem quietS {P : Program} {f : FuncId} {args : Array Value} {w : World} {n : Nat} {v : Value}
    (h : Calls P f args (w.drewN n) fun e w' => e = .returned v ∧ w.drewN n = w') : Calls P f args (w.drewN n) fun e w'' => e = .returned v ∧ ∃ m, w'' = w.drewN m :=
  h.mono fun _ _ ⟨he, hm⟩ => ⟨he, n, hm.symm⟩
theorem add_at (g j : Nat) : (⟨g, 0, none⟩ : Addr).add j = ⟨g, j, none⟩ := by unfold Addr.add; split <;> simp_all
theorem ret_eq {v v' : Value} (h : v = v') : Ending.returned v = Ending.returned v' := by rw [h]

/-! ### a number in memory: a slice of words -/
/-- the slice 'A, n, c' reads as the words xs -/
structure NatR (w : World) (A : Option Addr) (n c : Nat) (xs : List Nat) : Prop where
  len : xs.length = n
  le : n ≤ c
  small : c ≤ 4096
  rng : ∀ x ∈ xs, x < WB
  blk : (A = none ∧ c = 0) ∨ ∃ g ys, A = some ⟨g, 0, none⟩ ∧ WBlk w g (xs ++ ys) ∧ xs.length + ys.length = c
theorem NatR.nil (w : World) : NatR w none 0 0 [] := ⟨rfl, Nat.le_refl _, by omega, by simp, .inl ⟨rfl, rfl⟩⟩
theorem NatR.below {w w' : World} {A : Option Addr} {n c : Nat} {xs : List Nat} (h : NatR w A n c xs) (hb : Below w.heap.size w w') : NatR w' A n c xs :=
  ⟨h.len, h.le, h.small, h.rng, by
    rcases h.blk with h1 | ⟨g, ys, e, hk, hl⟩
    · exact .inl h1
    · exact .inr ⟨g, ys, e, hk.below hb, hl⟩⟩
theorem NatR.grown {w w' : World} {A : Option Addr} {n c : Nat} {xs : List Nat} (h : NatR w A n c xs) {g' : Nat} (hb : w.grownBy w' (some g')) (hne : ∀ a, A = some a → a.block ≠ g') : NatR w' A n c xs :=
  ⟨h.len, h.le, h.small, h.rng, by
    rcases h.blk with h1 | ⟨g, ys, e, hk, hl⟩
    · exact .inl h1
    · exact .inr ⟨g, ys, e, hk.grown hb (hne _ e), hl⟩⟩
theorem NatR.pos {w : World} {A : Option Addr} {n c : Nat} {xs : List Nat} (h : NatR w A n c xs) (hn : 0 < n) : ∃ g ys, A = some ⟨g, 0, none⟩ ∧ WBlk w g (xs ++ ys) ∧ xs.length + ys.length = c := by
  rcases h.blk with ⟨_, hc⟩ | h1
  · have := h.le; omega
  · exact h1
theorem NatR.capPos {w : World} {A : Option Addr} {n c : Nat} {xs : List Nat} (h : NatR w A n c xs) (hn : 0 < c) : ∃ g ys, A = some ⟨g, 0, none⟩ ∧ WBlk w g (xs ++ ys) ∧ xs.length + ys.length = c := by
  rcases h.blk with ⟨_, hc⟩ | h1
  · omega
  · exact h1
theorem NatR.zero {w : World} {A : Option Addr} {n c : Nat} {xs : List Nat} (h : NatR w A n c xs) (hn : n = 0) : xs = [] := List.eq_nil_of_length_eq_zero (h.len.trans hn)
/-- a beginning -/
theorem NatR.take {w : World} {A : Option Addr} {n c : Nat} {xs : List Nat} (h : NatR w A n c xs) {m : Nat} (hm : m ≤ n) : NatR w A m c (xs.take m) := by
  have hl := h.len
  refine ⟨by simp; omega, Nat.le_trans hm h.le, h.small, fun x hx => h.rng x (List.mem_of_mem_take hx), ?_⟩
  rcases h.blk with h1 | ⟨g, ys, e, hk, hl'⟩
  · exact .inl h1
  · refine .inr ⟨g, xs.drop m ++ ys, e, ?_, by simp; omega⟩
    rw [← List.append_assoc, List.take_append_drop]; exact hk
/-- the highest word isn't 0 -/
def Nrm (xs : List Nat) : Prop := xs = [] ∨ xs.getD (xs.length - 1) 0 ≠ 0
theorem Nrm.nil : Nrm [] := .inl rfl

theorem info254 : (Tryz.prog.info? 254).map (fun i => (i.zero, i.size, i.bytes)) = some (some (.int .u64 0), 1, 8) := by kernel_rfl
theorem wrow_replicate (n : Nat) : wrow (List.replicate n 0) = madeCells #[.int .u64 0] n := by
  unfold wrow
  apply Array.ext'
  rw [toList_madeCells_one]
  simp [wsv]
theorem run_make254 (n c : Nat) (h : n ≤ c) (hc : c ≤ 4611686018427) (w : World) :
   (Instr.makeSlice 227 (.int .i64 (n : Int)) (.int .i64 (c : Int))).run Tryz.prog w = .ok (.slice (some ⟨w.heap.size, 0, none⟩) n c) (w.alloc (.cells (wrow (List.replicate c 0)) 254)) := by
  obtain ⟨i, hi, hzz⟩ := Option.map_eq_some_iff.1 info254
  simp only [Prod.mk.injEq] at hzz
  obtain ⟨hz, hs, hb⟩ := hzz
  have := run_make (P := Tryz.prog) w 227 254 i (.int .u64 0) Tryz.underlying227 hi hz .i64 .i64 n c (by omega) (by omega) (by rw [hb]; omega) (by omega)
  rw [this, wrow_replicate]
  simp [hs, Value.cells]

end Go.Proofs.YtpfihjkhgfoijaaGreatDoor
set_option linter.unusedVariables false
set_option linter.unusedSimpArgs false
set_option maxRecDepth 100000
namespace Go.Proofs.YtpfihjkhgfoijaaGreatDoor
open Go.RowKit

/-! ### (nat).make -/
set_option maxHeartbeats 400000 in
theorem c149_new (A : Option Addr) (l c n : Nat) (hn : c < n) (hb : n ≤ 2000) (w : World) :
    Calls Tryz.prog 149 #[.slice A l c, .int .i64 n] w fun e w' => ∃ cp, e = .returned (.slice (some ⟨w.heap.size, 0, none⟩) n cp) ∧ n ≤ cp ∧ cp ≤ n + 4 ∧ w' = w.alloc (.cells (wrow (List.replicate cp 0)) 254) := by
  by_cases h1 : n = 1
  · subst h1
    have hm := run_make254 1 1 (by omega) (by omega)
    rw [show ((1 : Nat) : Int) = 1 from rfl] at hm
    obtain rfl : c = 0 := by omega
    clear hn hb
    have HF : Hid (∀ R, R = wrow (List.replicate 1 0) → ∃ cp, Ending.returned (.slice (some ⟨w.heap.size, 0, none⟩) 1 1) = .returned (.slice (some ⟨w.heap.size, 0, none⟩) 1 cp) ∧ 1 ≤ cp ∧ cp ≤ 1 + 4 ∧ w.alloc (.cells R 254) = w.alloc (.cells (wrow (List.replicate cp 0)) 254)) := fun R hR => ⟨1, rfl, by omega, by omega, by rw [hR]⟩
    generalize hR : wrow (List.replicate 1 0) = R at *
    have HR := Lib.hid hR.symm
    clear hR
    go_enter Tryz.func149, Tryz.ntmps149
    go_wp2
    go_ret
    exact HF.out R rfl
  · have hm := run_make254 n (n+4) (by omega) (by omega)
    have hs : IntKind.i64.wrap ((n : Int) + 4) = (n : Int) + 4 := by rw [IntKind.wrap_i64]; omega
    rw [show ((n + 4 : Nat) : Int) = (n : Int) + 4 from by omega] at hm
    have HF : Hid (∀ R, R = wrow (List.replicate (n + 4) 0) → ∃ cp, Ending.returned (.slice (some ⟨w.heap.size, 0, none⟩) n (n + 4)) = .returned (.slice (some ⟨w.heap.size, 0, none⟩) n cp) ∧ n ≤ cp ∧ cp ≤ n + 4 ∧ w.alloc (.cells R 254) = w.alloc (.cells (wrow (List.replicate cp 0)) 254)) := fun R hR => ⟨n + 4, rfl, by omega, by omega, by rw [hR]⟩
    generalize hR : wrow (List.replicate (n+4) 0) = R at *
    have HR := Lib.hid hR.symm
    clear hR
    have hc0 : decide (n ≤ c) = false := by simp; omega
    have hc1 : ((n : Int) == 1) = false := by simp; omega
    clear hn hb
    go_enter Tryz.func149, Tryz.ntmps149
    go_wp2
    go_ret
    exact HF.out R rfl
theorem c149n (A : Option Addr) (l c n : Nat) (hn : c < n) (hb : n ≤ 2000) (w : World) :
    Calls Tryz.prog 149 #[.slice A l c, .int .i64 n] w fun e w' => ∃ cp, e = .returned (.slice (some ⟨w.heap.size, 0, none⟩) n cp) ∧ n ≤ cp ∧ cp ≤ n + 4 ∧ WBlk w' w.heap.size (List.replicate cp 0) ∧ Below w.heap.size w w' ∧ w'.heap.size = w.heap.size + 1 :=
  (c149_new A l c n hn hb w).mono fun e w' ⟨cp, h1, h2, h3, h4⟩ => ⟨cp, h1, h2, h3, by rw [h4]; exact WBlk.new _ _, by rw [h4]; exact (Below.refl _ _).alloc (Nat.le_refl _) _, by rw [h4]; simp⟩
/-- what is asked is there -/
theorem c149_old (A : Option Addr) (l c n : Nat) (hn : n ≤ c) (hc : c ≤ 100000) (w : World) :
    Calls Tryz.prog 149 #[.slice A l c, .int .i64 n] w fun e w' => e = .returned (.slice A n c) ∧ w = w' := by
  have hc0 : decide (n ≤ c) = true := by simp; omega
  go_enter Tryz.func149, Tryz.ntmps149
  go_wp2
  go_ret
  exact ⟨rfl, rfl⟩

/-! ### (nat).norm -/
theorem take_succ_zero {xs : List Nat} {k : Nat} (hk : k < xs.length) (h : xs.getD k 0 = 0) : nv (xs.take (k + 1)) = nv (xs.take k) := by
  rw [take_snoc_nat xs k hk, nv_append, h]; simp [nv]
set_option maxHeartbeats 400000 in
theorem c151 (A : Option Addr) (n c : Nat) (xs : List Nat) (w : World) (h : NatR w A n c xs) :
    Calls Tryz.prog 151 #[.slice A n c] w fun e w' => ∃ m, e = .returned (.slice A m c) ∧ m ≤ n ∧ NatR w A m c (xs.take m) ∧ Nrm (xs.take m) ∧ nv (xs.take m) = nv xs ∧ w = w' := by
  have hnc := h.le
  have hcs := h.small
  have hl := Lib.hid h.len
  go_enter Tryz.func151, Tryz.ntmps151
  go_wp2
  go_loop [3] (fun vi => ∃ k : Nat, k ≤ n ∧ vi = .int .i64 k ∧ Hid (nv (xs.take k) = nv xs)) (fun vi => (intOf vi).toNat)
  case atStart => exact ⟨n, by omega, rfl, by show _ = _; rw [List.take_of_length_le (by rw [hl.out]; exact Nat.le_refl _)]⟩
  case round =>
    obtain ⟨k, hk, rfl, hv⟩ := hrel
    by_cases h0 : k = 0
    · subst h0
      have hnn : decide ((0 : Int) ≤ (n : Int)) = true := by simp
      go_wp2
      go_ret
      exact ⟨0, rfl, by omega, h.take (by omega), Nrm.nil, hv.out, rfl⟩
    · have hkp : 0 < k := by omega
      obtain ⟨g, ys, rfl, hb, hc⟩ := h.pos (by omega)
      have hcell := hb.cell (i := k - 1) (by simp [hl.out]; omega)
      rw [getD_append_l (by rw [hl.out]; omega)] at hcell
      have hi : ((k : Int) - 1).toNat = k - 1 := by omega
      by_cases hz : xs.getD (k - 1) 0 = 0
      · have hZ := Lib.hid hz
        rw [hz] at hcell
        clear hz
        go_wp2
        go_round
        case rel =>
          refine ⟨k - 1, by omega, by go_num, ?_⟩
          show _ = _
          rw [← hv.out]
          have := take_succ_zero (xs := xs) (k := k - 1) (by rw [hl.out]; omega) hZ.out
          rw [← this]
          congr 2; omega
        case measure => simp [intOf]; omega
      · have HZ := Lib.hid hz
        generalize hX : xs.getD (k - 1) 0 = X at hcell hz
        have HX := Lib.hid hX
        clear hX
        have hz2 : ((X : Int) == 0) = false := by rw [beq_eq_false_iff_ne]; omega
        go_wp2
        go_ret
        refine ⟨k, rfl, hk, h.take hk, .inr ?_, hv.out, rfl⟩
        have e : (xs.take k).length = k := by simp [hl.out]; omega
        rw [e]
        rw [List.getD_eq_getElem?_getD, List.getElem?_take, if_pos (by omega), ← List.getD_eq_getElem?_getD]
        exact HZ.out
/-! ### (nat).setWord -/
theorem c194_new (x : Nat) (hx : x < WB) (w : World) :
    Calls Tryz.prog 194 #[.slice none 0 0, .int .u64 x] w fun e w' => ∃ A n c xs, e = .returned (.slice A n c) ∧ NatR w' A n c xs ∧ Nrm xs ∧ nv xs = x ∧ Below w.heap.size w w' ∧ (∀ a, A = some a → w.heap.size ≤ a.block) := by
  by_cases h0 : x = 0
  · subst h0
    go_enter Tryz.func194, Tryz.ntmps194
    go_wp2
    go_ret
    exact ⟨none, 0, 0, [], rfl, NatR.nil _, Nrm.nil, rfl, Below.refl _ _, by simp⟩
  · have hz2 : ((x : Int) == 0) = false := by simp; omega
    go_enter Tryz.func194, Tryz.ntmps194
    go_wp2_with fail
    refine (c149n none 0 0 1 (by omega) (by omega) _).mono ?_
    rintro e w1 ⟨cp, rfl, h1, h2, hb, hB, hs⟩
    have hc := hb.cell (i := 0) (by simp; omega)
    have hf := hb.free 0
    have hb2 := hb.set 0 x
    go_wp2_with fail
    go_ret
    obtain ⟨cp, rfl⟩ : ∃ q, cp = q + 1 := ⟨cp - 1, by omega⟩
    refine ⟨_, 1, cp + 1, [x], rfl, ⟨rfl, by omega, by omega, by simpa using hx, .inr ⟨w.heap.size, List.replicate cp 0, rfl, ?_, by simp; omega⟩⟩, .inr (by simpa using h0), by simp [nv], below_set' hB (Nat.le_refl _) _, by simp⟩
    simpa [List.replicate_succ] using hb2
end Go.Proofs.YtpfihjkhgfoijaaGreatDoor
set_option linter.unusedVariables false
set_option linter.unusedSimpArgs false
set_option maxRecDepth 100000
namespace Go.Proofs.YtpfihjkhgfoijaaGreatDoor
open Go.RowKit

theorem or_nat (a b i : Nat) (ha : a < 2 ^ i) : a ||| (b * 2 ^ i) = a + b * 2 ^ i := by
  have := Nat.two_pow_add_eq_or_of_lt ha b
  rw [Nat.or_comm, Nat.mul_comm b, ← this, Nat.add_comm]
theorem or_u32 (a b i : Nat) (ha : a < 2 ^ i) (ha2 : a < 4294967296) (hb : b * 2 ^ i < 4294967296) : bits .or .u32 (a : Int) ((b * 2 ^ i : Nat) : Int) = ((a + b * 2 ^ i : Nat) : Int) := by
  rw [u32_or_nat a _ ha2 hb, or_nat a b i ha]
theorem or_u64 (a b i : Nat) (ha : a < 2 ^ i) (ha2 : a < 18446744073709551616) (hb : b * 2 ^ i < 18446744073709551616) : bits .or .u64 (a : Int) ((b * 2 ^ i : Nat) : Int) = ((a + b * 2 ^ i : Nat) : Int) := by
  rw [u64_or_nat a _ ha2 hb, or_nat a b i ha]
theorem or_comm64 (a b : Nat) (ha : a < 18446744073709551616) (hb : b < 18446744073709551616) : bits .or .u64 (a : Int) (b : Int) = bits .or .u64 (b : Int) (a : Int) := by
  rw [u64_or_nat a b ha hb, u64_or_nat b a hb ha, Nat.or_comm]
theorem be32 (b0 b1 b2 b3 : Nat) (l0 : b0 < 256) (l1 : b1 < 256) (l2 : b2 < 256) (l3 : b3 < 256) :
    bits .or .u32 (bits .or .u32 (bits .or .u32 (b3 : Int) ((b2 : Int) * 256)) ((b1 : Int) * 65536)) ((b0 : Int) * 16777216) = (((b0 * 256 + b1) * 256 + b2) * 256 + b3 : Nat) := by
  have e1 : (b2 : Int) * 256 = ((b2 * 2 ^ 8 : Nat) : Int) := by omega
  have e2 : (b1 : Int) * 65536 = ((b1 * 2 ^ 16 : Nat) : Int) := by omega
  have e3 : (b0 : Int) * 16777216 = ((b0 * 2 ^ 24 : Nat) : Int) := by omega
  rw [e1, e2, e3, or_u32 b3 b2 8 (by omega) (by omega) (by omega), or_u32 _ b1 16 (by omega) (by omega) (by omega), or_u32 _ b0 24 (by omega) (by omega) (by omega)]
  congr 1; omega
set_option maxHeartbeats 1000000 in
theorem c169 (g o n c : Nat) (hn : 4 ≤ n) (hc : n ≤ c) (b0 b1 b2 b3 : Nat) (l0 : b0 < 256) (l1 : b1 < 256) (l2 : b2 < 256) (l3 : b3 < 256) (w : World)
    (h0 : w.cell? ⟨g, o, none⟩ = some (.int .u8 b0)) (h1 : w.cell? ⟨g, o + 1, none⟩ = some (.int .u8 b1)) (h2 : w.cell? ⟨g, o + 2, none⟩ = some (.int .u8 b2)) (h3 : w.cell? ⟨g, o + 3, none⟩ = some (.int .u8 b3)) :
    Calls Tryz.prog 169 #[.slice (some ⟨g, o, none⟩) n c] w fun e w' => e = .returned (.int .u32 (((b0 * 256 + b1) * 256 + b2) * 256 + b3 : Nat)) ∧ ∃ k, w' = w.drewN k := by
  have q0 : (0 : Int) < (n : Int) := by omega
  have q1 : (1 : Int) < (n : Int) := by omega
  have q2 : (2 : Int) < (n : Int) := by omega
  have q3 : (3 : Int) < (n : Int) := by omega
  go_enter Tryz.func169, Tryz.ntmps169
  go_wp2_with fail
  go_quiet (fail)
  go_wp2_with fail
  go_ret
  exact ⟨ret_eq (by show Value.int .u32 _ = _; rw [be32 b0 b1 b2 b3 l0 l1 l2 l3]), _, rfl⟩

def be32n (f : Nat → Nat) (i : Nat) : Nat := ((f i * 256 + f (i + 1)) * 256 + f (i + 2)) * 256 + f (i + 3)
theorem be32n_lt (f : Nat → Nat) (hf : ∀ i, f i < 256) (i : Nat) : be32n f i < 4294967296 := by
  unfold be32n; have := hf i; have := hf (i+1); have := hf (i+2); have := hf (i+3); omega
set_option maxHeartbeats 1000000 in
theorem c168 (g o n c : Nat) (hn : 8 ≤ n) (hc : n ≤ c) (f : Nat → Nat) (hf : ∀ i, f i < 256) (w : World)
    (h : ∀ i, i < 8 → w.cell? ⟨g, o + i, none⟩ = some (.int .u8 (f i : Nat))) :
    Calls Tryz.prog 168 #[.slice (some ⟨g, o, none⟩) n c] w fun e w' => e = .returned (.int .u64 (be32n f 0 * 4294967296 + be32n f 4 : Nat)) ∧ ∃ k, w' = w.drewN k := by
  have q7 : (7 : Int) < (n : Int) := by omega
  have q4 : (4 : Int) ≤ (n : Int) := by omega
  have h7 := h 7 (by omega)
  have k1 : Hid (∀ W, (∀ i, i < 8 → W.cell? ⟨g, o + i, none⟩ = some (.int .u8 (f i : Nat))) → Calls Tryz.prog 169 #[.slice (some ⟨g, o, none⟩) n c] W fun e w' => e = .returned (.int .u32 (be32n f 0 : Nat)) ∧ ∃ k, w' = W.drewN k) :=
    fun W hW => c169 g o n c (by omega) hc (f 0) (f 1) (f 2) (f 3) (hf _) (hf _) (hf _) (hf _) W (hW 0 (by omega)) (hW 1 (by omega)) (hW 2 (by omega)) (hW 3 (by omega))
  have k2 : Hid (∀ W, (∀ i, i < 8 → W.cell? ⟨g, o + i, none⟩ = some (.int .u8 (f i : Nat))) → Calls Tryz.prog 169 #[.slice (some ⟨g, o + 4, none⟩) (n - 4) (c - 4)] W fun e w' => e = .returned (.int .u32 (be32n f 4 : Nat)) ∧ ∃ k, w' = W.drewN k) :=
    fun W hW => c169 g (o + 4) (n - 4) (c - 4) (by omega) (by omega) (f 4) (f 5) (f 6) (f 7) (hf _) (hf _) (hf _) (hf _) W (hW 4 (by omega)) (hW 5 (by omega)) (hW 6 (by omega)) (hW 7 (by omega))
  have H := Lib.hid h
  have cn : (c = 4) = False := by simp; omega
  have r1 := be32n_lt f hf 0
  have r2 := be32n_lt f hf 4
  clear h hf
  generalize be32n f 0 = X at *
  generalize be32n f 4 = Y at *
  go_enter Tryz.func168, Tryz.ntmps168
  go_wp2_with fail
  go_quiet ((first | (go_at_call_of 169 (Value.slice (some ⟨g, o, none⟩) n c); exact Calls.quiet_of (k1.out _ H.out)) | (go_at_call 169; exact Calls.quiet_of (k2.out _ H.out))))
  go_wp2_with fail
  go_ret
  refine ⟨ret_eq ?_, _, rfl⟩
  show Value.int .u64 _ = _
  have e3 : (X : Int) * 4294967296 = ((X * 2 ^ 32 : Nat) : Int) := by omega
  rw [e3, or_comm64 _ _ (by omega) (by omega), or_u64 Y X 32 (by omega) (by omega) (by omega)]
  congr 1; omega

/-- the word of eight bytes, the highest first -/
def be64n (f : Nat → Nat) : Nat := be32n f 0 * 4294967296 + be32n f 4
theorem c150 (g o n c : Nat) (hn : 8 ≤ n) (hc : n ≤ c) (f : Nat → Nat) (hf : ∀ i, f i < 256) (w : World)
    (h : ∀ i, i < 8 → w.cell? ⟨g, o + i, none⟩ = some (.int .u8 (f i : Nat))) :
    Calls Tryz.prog 150 #[.slice (some ⟨g, o, none⟩) n c] w fun e w' => e = .returned (.int .u64 (be64n f)) ∧ ∃ k, w' = w.drewN k := by
  have H : Hid (Calls Tryz.prog 168 #[.slice (some ⟨g, o, none⟩) n c] w fun e w' => e = .returned (.int .u64 (be64n f : Nat)) ∧ ∃ k, w' = w.drewN k) := c168 g o n c hn hc f hf w h
  clear h hf
  generalize be64n f = X at *
  go_enter Tryz.func150, Tryz.ntmps150
  go_wp2_with fail
  refine H.out.mono ?_
  rintro e w1 ⟨rfl, k, rfl⟩
  go_wp2_with fail
  go_ret
  exact ⟨rfl, _, rfl⟩
end Go.Proofs.YtpfihjkhgfoijaaGreatDoor
set_option linter.unusedVariables false
set_option linter.unusedSimpArgs false
set_option maxRecDepth 100000
namespace Go.Proofs.YtpfihjkhgfoijaaGreatDoor
open Go.RowKit

/-! ### (nat).set onto nil -/
set_option maxHeartbeats 400000 in
theorem c143_new (A : Option Addr) (n c : Nat) (xs : List Nat) (w : World) (h : NatR w A n c xs) (hn : n ≤ 2000) :
    Calls Tryz.prog 143 #[.slice none 0 0, .slice A n c] w fun e w' => ∃ A' c', e = .returned (.slice A' n c') ∧ NatR w' A' n c' xs ∧ Below w.heap.size w w' ∧ (∀ a, A' = some a → w.heap.size ≤ a.block) := by
  have hl := Lib.hid h.len
  by_cases h0 : n = 0
  · subst h0
    obtain rfl := h.zero rfl
    go_enter Tryz.func143, Tryz.ntmps143
    go_wp2_with fail
    refine (c149_old none 0 0 0 (by omega) (by omega) _).mono ?_
    rintro e w1 ⟨rfl, rfl⟩
    go_wp2_with (refine wpList_copy_nothing rfl (.tmp 9) (.tmp 10) 227 227 rfl 254 Tryz.underlying227 (by kernel_rfl) none A 0 0 0 c rfl rfl (by simp) ?_)
    go_ret
    exact ⟨none, 0, rfl, NatR.nil _, Below.refl _ _, by simp⟩
  · obtain ⟨g, ys, rfl, hb, hc⟩ := h.pos (by omega)
    have hlt := hb.lt
    go_enter Tryz.func143, Tryz.ntmps143
    go_wp2_with fail
    refine (c149n none 0 0 n (by omega) (by omega) _).mono ?_
    rintro e w1 ⟨cp, rfl, h1, h2, hb1, hB, hs⟩
    have hcells : ∀ j v, (wsv xs)[j]? = some v → w1.cell? ((⟨g, 0, none⟩ : Addr).add j) = some v := by
      intro j v hj
      have hjl : j < xs.length := by simpa [wsv] using (List.getElem?_eq_some_iff.1 hj).1
      have := (hb.below hB).cell (i := j) (by simp; omega)
      rw [getD_append_l hjl] at this
      rw [add_at]
      simp only [wsv, List.getElem?_map, List.getElem?_eq_getElem hjl, Option.map_some, Option.some.injEq] at hj
      subst hj
      simpa [hjl] using this
    have HC := Lib.hid hcells
    have HB1 := Lib.hid (show w1.heap[w.heap.size]? = some (.cells (wsv (List.replicate cp 0)).toArray 254 (0, 0)) by rw [← wrow_of]; exact hb1.out)
    clear hcells
    go_wp2_with (refine wpList_copy_splice rfl (.tmp 9) (.tmp 10) 227 227 rfl 254 Tryz.underlying227 (by kernel_rfl) (some ⟨w.heap.size, 0, none⟩) (some ⟨g, 0, none⟩) n cp n c rfl rfl w.heap.size 0 (wsv (List.replicate cp 0)) 254 HB1.out (wsv xs) (by simp [wsv, hl.out]) (fun _ => ⟨rfl, _, rfl, HC.out⟩) (by simp [wsv, hl.out]; omega) (by simp [wsv, Value.oneCell']) w.heap.size w hB (Nat.le_refl _) ?_; intro w2 hb2 hB2)
    go_ret
    refine ⟨_, cp, rfl, ⟨hl.out, h1, by have := h.small; have := h.le; omega, h.rng, .inr ⟨_, List.replicate (cp - n) 0, rfl, ⟨?_⟩, by simp [hl.out]; omega⟩⟩, hB2, by simp⟩
    rw [hb2.out, wrow_of]
    simp [splice, wsv, hl.out]
end Go.Proofs.YtpfihjkhgfoijaaGreatDoor
set_option linter.unusedVariables false
set_option linter.unusedSimpArgs false
set_option maxRecDepth 100000
namespace Go.Proofs.YtpfihjkhgfoijaaGreatDoor
open Go.RowKit

theorem r260 (x y c : Nat) (hc : c ≤ 1) (w : World) :
    (callFunc 260 #[.int .u64 x, .int .u64 y, .int .u64 c]).run Tryz.prog w =
      .ok (.value (.tuple #[.int .u64 (((x + y + c) % WB : Nat) : Int), .int .u64 (((x + y + c) / WB : Nat) : Int)])) w := by
  rw [wb_eq, run_callFunc_extern Tryz.func260 (by kernel_rfl) (by kernel_rfl) (by kernel_rfl) (e := add64Entry) (by kernel_rfl), run_add64 x y c (by omega) (by omega) (by omega) (by omega)]
  simp only [Result.andThen]
  congr 5 <;> omega
theorem r275 (x y b : Nat) (hb : b ≤ 1) (w : World) :
    (callFunc 275 #[.int .u64 x, .int .u64 y, .int .u64 b]).run Tryz.prog w =
      .ok (.value (.tuple #[.int .u64 (((x + WB - y - b) % WB : Nat) : Int), .int .u64 ((if x < y + b then 1 else 0 : Nat) : Int)])) w := by
  rw [wb_eq, run_callFunc_extern Tryz.func275 (by kernel_rfl) (by kernel_rfl) (by kernel_rfl) (e := sub64Entry) (by kernel_rfl), run_sub64 x y b hb]
  rfl

theorem c245 (x y c : Nat) (hc : c ≤ 1) (w : World) :
    Calls Tryz.prog 245 #[.int .u64 x, .int .u64 y, .int .u64 c] w fun e w' => e = .returned (.tuple #[.int .u64 ((x + y + c) % WB : Nat), .int .u64 ((x + y + c) / WB : Nat)]) ∧ w = w' := by
  have h := r260 x y c hc w
  revert h
  generalize (x + y + c) % WB = A
  generalize (x + y + c) / WB = B
  intro h
  go_enter Tryz.func245, Tryz.ntmps245
  go_wp2
  go_ret2
  exact ⟨rfl, rfl⟩
theorem c270 (x y b : Nat) (hb : b ≤ 1) (w : World) :
    Calls Tryz.prog 270 #[.int .u64 x, .int .u64 y, .int .u64 b] w fun e w' => e = .returned (.tuple #[.int .u64 ((x + WB - y - b) % WB : Nat), .int .u64 ((if x < y + b then 1 else 0 : Nat) : Int)]) ∧ w = w' := by
  have h := r275 x y b hb w
  revert h
  generalize (x + WB - y - b) % WB = A
  generalize (if x < y + b then 1 else 0 : Nat) = B
  intro h
  go_enter Tryz.func270, Tryz.ntmps270
  go_wp2
  go_ret2
  exact ⟨rfl, rfl⟩
theorem c268 (x y : Nat) (hx : x < WB) (hy : y < WB) (w : World) :
    Calls Tryz.prog 268 #[.int .u64 x, .int .u64 y] w fun e w' => e = .returned (.tuple #[.int .u64 ((x * y / WB : Nat) : Int), .int .u64 ((x * y % WB : Nat) : Int)]) ∧ w = w' :=
  (Tryz.bits_Mul x y (wb_lt hx) (wb_lt hy) w).mono fun e w' h => ⟨by rw [wb_eq]; exact h.1, h.2.symm⟩

theorem mul_bound {x y c : Nat} (hx : x < WB) (hy : y < WB) (hc : c < WB) : (x * y + c) / WB < WB := by
  have : x * y + c < WB * WB := by
    have h1 : x * y ≤ (WB - 1) * (WB - 1) := Nat.mul_le_mul (by omega) (by omega)
    have h2 : (WB - 1) * (WB - 1) + WB ≤ WB * WB := by
      obtain ⟨b, hb⟩ : ∃ b, WB = b + 1 := ⟨WB - 1, by omega⟩
      rw [hb]; simp only [Nat.add_sub_cancel]; rw [Nat.add_mul, Nat.mul_add]; omega
    omega
  exact Nat.div_lt_of_lt_mul this
theorem div_split (p c : Nat) : p / WB + (p % WB + c + 0) / WB = (p + c) / WB := by
  have h1 := Nat.div_add_mod p WB
  have h2 : p + c = WB * (p / WB) + (p % WB + c) := by omega
  rw [h2, Nat.mul_add_div wb_pos, Nat.add_zero]
theorem mod_split (p c : Nat) : (p % WB + c + 0) % WB = (p + c) % WB := by
  rw [Nat.add_zero, Nat.mod_add_mod]
theorem c253 (x y c : Nat) (hx : x < WB) (hy : y < WB) (hc : c < WB) (w : World) :
    Calls Tryz.prog 253 #[.int .u64 x, .int .u64 y, .int .u64 c] w fun e w' => e = .returned (.tuple #[.int .u64 ((x*y+c)/WB : Nat), .int .u64 ((x*y+c)%WB : Nat)]) ∧ w = w' := by
  have h1 := c268 x y hx hy w
  have h2 := c245 (x * y % WB) c 0 (by omega) w
  have hs : IntKind.u64.wrap (((x * y / WB : Nat) : Int) + (((x * y % WB + c + 0) / WB : Nat) : Int)) = (((x*y+c)/WB : Nat) : Int) := by
    rw [← Int.natCast_add, div_split, wrap_u64 (mul_bound hx hy hc)]
  rw [mod_split] at h2
  have H1 := Lib.hid h1
  have H2 := Lib.hid h2
  have HS := Lib.hid hs
  clear h1 h2 hs
  generalize (x * y % WB + c + 0) / WB = C at *
  generalize x * y / WB = A at *
  generalize x * y % WB = B at *
  generalize (x * y + c) / WB = D at *
  generalize (x * y + c) % WB = E at *
  go_enter Tryz.func253, Tryz.ntmps253
  go_wp2_with (first | (go_at_call 268; refine (H1.out).mono ?_; rintro e w' ⟨rfl, rfl⟩) | (go_at_call 245; refine (H2.out).mono ?_; rintro e w' ⟨rfl, rfl⟩))
  go_ret2
  exact ⟨by rw [← HS.out]; rfl, rfl⟩

theorem round238 {zs' xs : List Nat} {k c y r : Nat} (hl : zs'.length = k) (hk : k < xs.length) (h : nv zs' + WB ^ k * c = nv (xs.take k) * y + r) :
    nv (zs' ++ [(xs.getD k 0 * y + c) % WB]) + WB ^ (k + 1) * ((xs.getD k 0 * y + c) / WB) = nv (xs.take (k + 1)) * y + r := by
  rw [take_snoc_nat xs k hk, nv_append, nv_append]
  have e : (xs.take k).length = k := by simp; omega
  rw [e, hl, Nat.add_mul]
  have hd := Nat.div_add_mod (xs.getD k 0 * y + c) WB
  generalize xs.getD k 0 = x at *
  generalize (x * y + c) % WB = m at *
  generalize (x * y + c) / WB = q at *
  simp only [nv, Nat.mul_zero, Nat.add_zero, Nat.pow_succ]
  have h2 : WB ^ k * m + WB ^ k * WB * q = WB ^ k * x * y + WB ^ k * c := by
    rw [Nat.mul_assoc, ← Nat.mul_add, Nat.mul_assoc, ← Nat.mul_add, ← hd]
    congr 1; omega
  omega

set_option maxHeartbeats 400000 in
theorem c238 (g : Nat) (zs : List Nat) (zc : Nat) (gx ox : Nat) (xc : Nat) (xs : List Nat) (y r : Nat) (m : Nat) (hm : m = xs.length) (hm1 : m ≤ 1000000) (w : World)
    (hz : WBlk w g zs) (hzl : m ≤ zs.length) (hg : g ≠ gx)
    (hx : ∀ i, i < m → w.cell? ⟨gx, ox + i, none⟩ = some (.int .u64 ((xs.getD i 0 : Nat) : Int))) (hxr : ∀ i, xs.getD i 0 < WB) (hy : y < WB) (hr : r < WB) :
    Calls Tryz.prog 238 #[.slice (some ⟨g, 0, none⟩) m zc, .slice (some ⟨gx, ox, none⟩) m xc, .int .u64 y, .int .u64 r] w fun e w' =>
      ∃ (zs' : List Nat) (c : Nat), e = .returned (.int .u64 c) ∧ WBlk w' g (zs' ++ zs.drop m) ∧ zs'.length = m ∧ c < WB ∧ (∀ x ∈ zs', x < WB) ∧ nv zs' + WB ^ m * c = nv xs * y + r ∧ w.grownBy w' (some g) := by
  have Hm := Lib.hid hm
  have Hx := Lib.hid hx
  clear hm hx
  go_enter Tryz.func238, Tryz.ntmps238
  go_wp2
  go_loopw [8, 19] (fun vc vi wr => ∃ (k c : Nat) (zs' : List Nat), k ≤ m ∧ vi = .int .i64 k ∧ vc = .int .u64 c ∧ c < WB ∧ WBlk wr g (zs' ++ zs.drop k) ∧ zs'.length = k ∧ (∀ x ∈ zs', x < WB) ∧ Hid (nv zs' + WB ^ k * c = nv (xs.take k) * y + r) ∧ w.grownBy wr (some g)) (fun _ vi _ => m - (intOf vi).toNat)
  case atStart => exact ⟨0, r, [], by omega, rfl, rfl, hr, by simpa using hz, rfl, by simp, by simp [Hid, nv], grown_refl _ _⟩
  case round =>
    obtain ⟨k, c, zs', hk, rfl, rfl, hc, hb, hzl', hzr, hnv, hgr⟩ := hrel
    have Hzl := Lib.hid hzl'
    clear hzl'
    by_cases hlt : k < m
    · have hxk : wr.cell? ⟨gx, ox + k, none⟩ = some (.int .u64 ((xs.getD k 0 : Nat) : Int)) := grown_cell hgr (Hx.out k hlt) hg
      have hzk := hb.cell (i := k) (by simp [Hzl.out]; omega)
      have hzf := hb.free k
      have hcall := Lib.hid (c253 (xs.getD k 0) y c (hxr k) hy hc)
      generalize hX : xs.getD k 0 = X at hxk hcall
      have HX := Lib.hid hX
      clear hX
      go_wp2_with (go_at_call 253; refine (hcall.out _).mono ?_; rintro e w' ⟨rfl, rfl⟩)
      go_roundw
      case rel =>
        refine ⟨k + 1, _, zs' ++ [(X * y + c) % WB], by omega, by go_num, rfl, mul_bound (by rw [← HX.out]; exact hxr k) hy hc, ?_, by simp [Hzl.out], ?_, ?_, grown_set hgr _ _⟩
        · have := hb.set k ((X * y + c) % WB)
          rwa [splice_set _ _ _ _ Hzl.out (by omega)] at this
        · intro x hx
          rcases List.mem_append.1 hx with h | h
          · exact hzr x h
          · rw [List.mem_singleton.1 h]; exact Nat.mod_lt _ wb_pos
        · have := round238 (xs := xs) (y := y) (r := r) Hzl.out (by rw [← Hm.out]; exact hlt) hnv.out
          rw [HX.out] at this
          exact this
      case measure => simp [intOf]; omega
    · go_wp2_with fail
      go_ret
      have e : k = m := by omega
      subst e
      refine ⟨zs', c, rfl, hb, Hzl.out, hc, hzr, ?_, hgr⟩
      have := hnv.out
      rwa [List.take_of_length_le (by rw [Hm.out]; exact Nat.le_refl _)] at this
end Go.Proofs.YtpfihjkhgfoijaaGreatDoor

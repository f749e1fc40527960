/- A hash table of at most eight entries in one block: how it lies in memory; checkMutable, overloaded, init; A hash table of at most eight entries: insert. -/
import Derived.Test.YtpfihjkhgfoijaaGreatDoorQ07
import Derived.Lib.SliceRun
set_option linter.unusedVariables false
set_option linter.unusedSimpArgs false
set_option maxRecDepth 100000
namespace Go.Proofs.YtpfihjkhgfoijaaGreatDoor
open Go.RowKit

/-- the cells of block b, up to n, hold F -/
structure BlkF (w : World) (b n : Nat) (F : Nat → Value) : Prop where
  cell : ∀ off, off < n → w.cell? ⟨b, off, none⟩ = some (F off)
  free : ∀ off, w.frozen? ⟨b, off, none⟩ = false
theorem BlkF.below {w w' : World} {b n : Nat} {F : Nat → Value} (h : BlkF w b n F) (hn : 0 < n) (hb : Below w.heap.size w w') : BlkF w' b n F :=
  ⟨fun off ho => below_cell hb (h.cell off ho), fun off => (hb.frozen (p := ⟨b, off, none⟩) (World.block_lt_of_cell? w ⟨b, 0, none⟩ (h.cell 0 hn))).trans (h.free off)⟩
theorem BlkF.drewN {w : World} {b n : Nat} {F : Nat → Value} (h : BlkF w b n F) (k : Nat) : BlkF (w.drewN k) b n F := ⟨h.cell, h.free⟩
theorem BlkF.drew {w : World} {b n : Nat} {F : Nat → Value} (h : BlkF w b n F) : BlkF w.drew b n F := ⟨h.cell, h.free⟩
theorem BlkF.lt {w : World} {b n : Nat} {F : Nat → Value} (h : BlkF w b n F) (hn : 0 < n) : b < w.heap.size := World.block_lt_of_cell? w ⟨b, 0, none⟩ (h.cell 0 hn)
theorem cell_setCell_at {w : World} {b i : Nat} {v u : Value} (h : w.cell? ⟨b, i, none⟩ = some u) (off : Nat) : (w.setCell ⟨b, i, none⟩ v).cell? ⟨b, off, none⟩ = if off = i then some v else w.cell? ⟨b, off, none⟩ := by
  unfold World.cell? at h ⊢
  simp only [World.setCell, Array.getElem?_modify]
  cases hb : w.heap[b]? with
  | none => simp [hb] at h
  | some o =>
    cases o with
    | cells c e f =>
      simp only [hb, Option.isSome_none, Bool.false_eq_true, if_false] at h
      have hi : i < c.size := (Array.getElem?_eq_some_iff.1 h).1
      simp only [if_true, Option.map_some, Option.isSome_none, Bool.false_eq_true, if_false]
      by_cases e : off = i
      · subst e; simp [hi]
      · rw [if_neg e]; simp [Array.getElem?_setIfInBounds_ne (Ne.symm e)]
    | _ => simp [hb] at h
theorem frozen_setCell (w : World) (p : Addr) (v : Value) (q : Addr) : (w.setCell p v).frozen? q = w.frozen? q := by
  unfold World.frozen? World.setCell
  simp only [Array.getElem?_modify]
  by_cases e : p.block = q.block
  · rw [if_pos e]
    cases w.heap[q.block]? with
    | none => rfl
    | some o => cases o <;> rfl
  · rw [if_neg e]
theorem BlkF.set {w : World} {b n : Nat} {F : Nat → Value} (h : BlkF w b n F) {i : Nat} (hi : i < n) (v : Value) : BlkF (w.setCell ⟨b, i, none⟩ v) b n (fun off => if off = i then v else F off) :=
  ⟨fun off ho => by rw [cell_setCell_at (h.cell i hi)]; split; rfl; exact h.cell off ho, fun off => by rw [frozen_setCell]; exact h.free off⟩
theorem BlkF.eq {w : World} {b n : Nat} {F G : Nat → Value} (h : BlkF w b n F) (e : ∀ off, off < n → F off = G off) : BlkF w b n G := ⟨fun off ho => by rw [← e off ho]; exact h.cell off ho, h.free⟩
theorem cell_setCell_ne {w : World} {p q : Addr} {v u : Value} (h : w.cell? q = some u) (hne : p.block ≠ q.block) : (w.setCell p v).cell? q = some u := by
  unfold World.cell? at h ⊢
  simp only [World.setCell, Array.getElem?_modify, if_neg hne]
  exact h
/-- the field f of the j-th entry of L (in the order in which they came; it lies in slot 7 - j) -/
def entAt (b : Nat) (L : List (Nat × Value × Value)) (j f : Nat) : Value :=
  match L[j]? with
  | none => if f = 0 then .int .u32 0 else if f ≤ 2 then .nilIface else .pointer none
  | some (h, k, v) =>
    if f = 0 then .int .u32 h else if f = 1 then k else if f = 2 then v
    else if f = 3 then (if j + 1 < L.length then .pointer (some ⟨b, 1 + 5 * (7 - (j + 1)), none⟩) else .pointer none)
    else .pointer (some ⟨b, if j = 0 then 44 else 1 + 5 * (7 - (j - 1)) + 3, none⟩)
/-- what the cell at an offset of a hash table's block holds; ini: is it set up? it: how many go through it -/
def htAt (b : Nat) (ini : Bool) (it : Nat) (L : List (Nat × Value × Value)) (off : Nat) : Value :=
  if off = 0 then (if ini then .slice (some ⟨b, 1, none⟩) 1 1 else .slice none 0 0)
  else if off ≤ 40 then entAt b L (7 - (off - 1) / 5) ((off - 1) % 5)
  else if off = 41 then .pointer none
  else if off = 42 then .int .u32 L.length
  else if off = 43 then .int .u32 it
  else if off = 44 then (if L.length = 0 then .pointer none else .pointer (some ⟨b, 36, none⟩))
  else if off = 45 then (if ini then .pointer (some ⟨b, if L.length = 0 then 44 else 1 + 5 * (7 - (L.length - 1)) + 3, none⟩) else .pointer none)
  else .bool false
/-- block b is a hash table with the entries L -/
structure HtR (w : World) (b : Nat) (ini : Bool) (it : Nat) (L : List (Nat × Value × Value)) : Prop where
  blk : BlkF w b 47 (htAt b ini it L)
  few : L.length ≤ 8
  set : ini = false → L = []
  hash : ∀ e ∈ L, 0 < e.1 ∧ e.1 < 4294967296
theorem HtR.cells {w : World} {b it : Nat} {ini : Bool} {L : List (Nat × Value × Value)} (h : HtR w b ini it L) : ∀ off, off < 47 → w.cell? ⟨b, off, none⟩ = some (htAt b ini it L off) := h.blk.cell
theorem HtR.free {w : World} {b it : Nat} {ini : Bool} {L : List (Nat × Value × Value)} (h : HtR w b ini it L) : ∀ off, w.frozen? ⟨b, off, none⟩ = false := h.blk.free
theorem HtR.below {w w' : World} {b it : Nat} {ini : Bool} {L : List (Nat × Value × Value)} (h : HtR w b ini it L) (hb : Below w.heap.size w w') : HtR w' b ini it L := ⟨h.blk.below (by omega) hb, h.few, h.set, h.hash⟩
theorem HtR.drewN {w : World} {b it : Nat} {ini : Bool} {L : List (Nat × Value × Value)} (h : HtR w b ini it L) (n : Nat) : HtR (w.drewN n) b ini it L := ⟨h.blk.drewN n, h.few, h.set, h.hash⟩
theorem HtR.lt {w : World} {b it : Nat} {ini : Bool} {L : List (Nat × Value × Value)} (h : HtR w b ini it L) : b < w.heap.size := h.blk.lt (by omega)

set_option maxHeartbeats 400000 in
theorem c137 (b : Nat) (ini : Bool) (L : List (Nat × Value × Value)) (s : ByteArray) (w : World) (h : HtR w b ini 0 L) :
    Calls Tryz.prog 137 #[.pointer (some ⟨b, 0, none⟩), .string s] w fun e w' => e = .returned (.nilIface) ∧ w = w' := by
  have h1 : w.cell? ⟨b, 46, none⟩ = some (.bool false) := h.cells 46 (by omega)
  have h2 : w.cell? ⟨b, 43, none⟩ = some (.int .u32 0) := h.cells 43 (by omega)
  go_enter Tryz.func137, Tryz.ntmps137
  go_wp2
  go_ret
  exact ⟨rfl, rfl⟩
theorem c140 (n : Int) (m : Int) (hn : n < 8) (w : World) :
    Calls Tryz.prog 140 #[.int .i64 n, .int .i64 m] w fun e w' => e = .returned (.bool false) ∧ w = w' := by
  have t : decide (8 ≤ n) = false := by simp; omega
  go_enter Tryz.func140, Tryz.ntmps140
  go_wp2
  go_ret
  exact ⟨rfl, rfl⟩
theorem c138 (b : Nat) (w : World) (h : HtR w b false 0 []) :
    Calls Tryz.prog 138 #[.pointer (some ⟨b, 0, none⟩), .int .i64 1] w fun e w' => e = .returned (.tuple #[]) ∧ HtR w' b true 0 [] ∧ w.grownBy w' (some b) := by
  have h0 := h.cells 0 (by omega)
  have h1 := h.cells 45 (by omega)
  have f0 := h.free 0
  have f1 := h.free 45
  go_enter Tryz.func138, Tryz.ntmps138
  go_wp2_with fail
  go_loop [4] (fun v => v = .int .i64 1) (fun _ => 0)
  case atStart => rfl
  case round =>
    subst hrel
    go_wp2_with (go_at_call 140; refine (c140 1 1 (by omega) _).mono ?_; rintro e w' ⟨rfl, rfl⟩)
    go_end0
    refine ⟨rfl, ⟨((h.blk.set (i := 0) (by omega) _).set (i := 45) (by omega) _).eq ?_, by simp, by simp, by simp⟩, grown_set (grown_set (grown_refl _ _) _ _) _ _⟩
    intro off ho
    unfold htAt
    by_cases h1 : off = 45
    · subst h1; simp
    · by_cases h2 : off = 0
      · subst h2; simp
      · simp [h1, h2]
end Go.Proofs.YtpfihjkhgfoijaaGreatDoor
namespace Go.Proofs.YtpfihjkhgfoijaaGreatDoor
open Go.RowKit

/-- the method 'name' of the interface value 'iface T x' is function K, called with recv -/
structure Disp (T : TypeId) (x : Value) (name : String) (K : Nat) (recv : Value) : Prop where mk ::
  ahead : ∀ w, (nilAhead 548 T x name).run Tryz.prog w = .ok (some false) w
  meth : ∀ w, (method 548 T x name).run Tryz.prog w = .ok (K, recv) w
  enter : ∀ w, (callFunc K #[recv]).run Tryz.prog w = .ok (.enter K #[recv]) w
theorem below_mid {B : Nat} {a b c : World} (h : Below B a b) (k : Below b.heap.size b c) (hB : B ≤ a.heap.size) : Below B a c :=
  ⟨k.os.trans h.os, k.tape.trans h.tape, k.output.trans h.output, Nat.le_trans h.size k.size, fun i hi => (k.block i (by have := h.size; omega)).trans (h.block i hi)⟩
theorem below_mid_grown {B b : Nat} {u v w : World} (h : Below B u v) (k : v.grownBy w (some b)) (hB : B ≤ u.heap.size) (hb : B ≤ b) : Below B u w :=
  ⟨k.os.trans h.os, k.tape.trans h.tape, k.output.trans h.output, Nat.le_trans h.size k.size, fun i hi => (k.block i (by have := h.size; omega) (by simp; omega)).trans (h.block i hi)⟩

/-- the last empty slot among the first i -/
def insV (b k i : Nat) : Value := if i = 0 ∨ 8 ≤ k then .pointer none else .pointer (some ⟨b, 1 + 5 * (min i (8 - k) - 1), none⟩)
theorem ht_ent (b : Nat) (ini : Bool) (it : Nat) (L : List (Nat × Value × Value)) (i f : Nat) (hi : i < 8) (hf : f < 5) : htAt b ini it L (1 + i * 5 + f) = entAt b L (7 - i) f := by
  unfold htAt
  rw [if_neg (by omega), if_pos (by omega)]
  congr 1 <;> omega
theorem ht_empty (b : Nat) (ini : Bool) (it : Nat) (L : List (Nat × Value × Value)) (i : Nat) (hi : i < 8) (hik : i + L.length ≤ 7) : htAt b ini it L (1 + i * 5) = .int .u32 0 := by
  have := ht_ent b ini it L i 0 hi (by omega)
  rw [Nat.add_zero] at this
  rw [this]; unfold entAt
  rw [List.getElem?_eq_none (by omega)]; rfl
theorem ht_full (b : Nat) (ini : Bool) (it : Nat) (L : List (Nat × Value × Value)) (i : Nat) (hi : i < 8) (hik : 8 ≤ i + L.length) (hk : L.length ≤ 8) :
    ∃ e, e ∈ L ∧ htAt b ini it L (1 + i * 5) = .int .u32 (e.1 : Int) ∧ htAt b ini it L (1 + i * 5 + 1) = e.2.1 := by
  have hl : 7 - i < L.length := by omega
  refine ⟨L[7 - i], List.getElem_mem hl, ?_, ?_⟩
  · have := ht_ent b ini it L i 0 hi (by omega)
    rw [Nat.add_zero] at this
    rw [this]; unfold entAt
    rw [List.getElem?_eq_getElem hl]; rfl
  · rw [ht_ent b ini it L i 1 hi (by omega)]; unfold entAt
    rw [List.getElem?_eq_getElem hl]; rfl
theorem insV_next (b k i : Nat) (h : i + k ≤ 7) : insV b k (i + 1) = .pointer (some ⟨b, 1 + i * 5, none⟩) := by
  unfold insV
  rw [if_neg (by omega)]
  congr 3; omega
theorem insV_same (b k i : Nat) (h : 8 ≤ i + k) : insV b k (i + 1) = insV b k i := by
  unfold insV
  by_cases h8 : 8 ≤ k
  · rw [if_pos (.inr h8), if_pos (.inr h8)]
  · rw [if_neg (by omega), if_neg (by omega)]
    congr 3; omega
theorem ent_push_lt (b : Nat) (L : List (Nat × Value × Value)) (t : Nat × Value × Value) (j f : Nat) (hj : j < L.length) (hf : f ≠ 3 ∨ j + 1 ≠ L.length) : entAt b (L ++ [t]) j f = entAt b L j f := by
  unfold entAt
  rw [List.getElem?_append_left hj, List.getElem?_eq_getElem hj]
  simp only [List.length_append, List.length_singleton]
  by_cases h3 : f = 3
  · have hjk : j + 1 ≠ L.length := by rcases hf with h | h; exact absurd h3 h; exact h
    by_cases h4 : j + 1 < L.length
    · simp only [h3, h4, show j + 1 < L.length + 1 from by omega]
    · omega
  · simp only [h3, if_false]
theorem ent_push_gt (b : Nat) (L : List (Nat × Value × Value)) (t : Nat × Value × Value) (j f : Nat) (hj : L.length < j) : entAt b (L ++ [t]) j f = entAt b L j f := by
  unfold entAt
  rw [List.getElem?_eq_none (by simp; omega), List.getElem?_eq_none (by omega)]
theorem ht_push (b : Nat) (L : List (Nat × Value × Value)) (h8 : Nat) (k v : Value) (s tl : Nat) (hs : s = 1 + 5 * (7 - L.length)) (ht : tl = if L.length = 0 then 44 else 1 + 5 * (7 - (L.length - 1)) + 3) (hL : L.length ≤ 7) (off : Nat) (ho : off < 47) :
    (if off = 42 then Value.int .u32 ((L.length : Int) + 1) else if off = 45 then .pointer (some ⟨b, s + 3, none⟩) else if off = tl then .pointer (some ⟨b, s, none⟩) else if off = s + 4 then .pointer (some ⟨b, tl, none⟩) else if off = s + 2 then v else if off = s + 1 then k else if off = s then .int .u32 (h8 : Int) else htAt b true 0 L off) = htAt b true 0 (L ++ [(h8, k, v)]) off := by
  have hlen : (L ++ [(h8, k, v)]).length = L.length + 1 := by simp
  have htl : (L.length = 0 ∧ tl = 44) ∨ (1 ≤ L.length ∧ tl = 1 + 5 * (7 - (L.length - 1)) + 3) := by
    rw [ht]; split
    · exact .inl ⟨by omega, rfl⟩
    · exact .inr ⟨by omega, rfl⟩
  by_cases c42 : off = 42
  · subst c42; rw [if_pos rfl]; unfold htAt; simp [hlen]
  rw [if_neg c42]
  by_cases c45 : off = 45
  · subst c45; rw [if_pos rfl]; unfold htAt; simp [hlen]; try omega
  rw [if_neg c45]
  by_cases c0 : off = 0
  · subst c0
    rw [if_neg (by omega), if_neg (by omega), if_neg (by omega), if_neg (by omega), if_neg (by omega)]
    unfold htAt; simp
  by_cases c40 : off ≤ 40
  · obtain ⟨i, f, hi, hf, rfl⟩ : ∃ i f, i < 8 ∧ f < 5 ∧ off = 1 + i * 5 + f := ⟨(off - 1) / 5, (off - 1) % 5, by omega, Nat.mod_lt _ (by omega), by omega⟩
    rw [ht_ent b true 0 (L ++ [(h8, k, v)]) i f hi hf, ht_ent b true 0 L i f hi hf]
    by_cases e1 : 7 - i = L.length
    · have hnew : ∀ f, entAt b (L ++ [(h8, k, v)]) (7 - i) f = if f = 0 then .int .u32 (h8 : Int) else if f = 1 then k else if f = 2 then v else if f = 3 then .pointer none else .pointer (some ⟨b, tl, none⟩) := by
        intro f
        unfold entAt
        rw [List.getElem?_append_right (by omega), show 7 - i - L.length = 0 from by omega]
        simp only [List.getElem?_cons_zero, hlen, e1, Nat.lt_irrefl, if_false]
        rw [ht]
      have hold : entAt b L (7 - i) 3 = .pointer none := by
        unfold entAt; rw [List.getElem?_eq_none (by omega)]; rfl
      rw [hnew]
      rw [if_neg (by omega)]
      by_cases f4 : f = 4
      · subst f4; rw [if_pos (by omega)]; rfl
      · rw [if_neg (by omega)]
        by_cases f2 : f = 2
        · subst f2; rw [if_pos (by omega)]; rfl
        · rw [if_neg (by omega)]
          by_cases f1 : f = 1
          · subst f1; rw [if_pos (by omega)]; rfl
          · rw [if_neg (by omega)]
            by_cases f0 : f = 0
            · subst f0; rw [if_pos (by omega)]; rfl
            · rw [if_neg (by omega)]
              obtain rfl : f = 3 := by omega
              rw [hold]; rfl
    · have n1 : ¬ (1 + i * 5 + f = s + 4) := by omega
      have n2 : ¬ (1 + i * 5 + f = s + 2) := by omega
      have n3 : ¬ (1 + i * 5 + f = s + 1) := by omega
      have n4 : ¬ (1 + i * 5 + f = s) := by omega
      rw [if_neg n1, if_neg n2, if_neg n3, if_neg n4]
      by_cases ct : 1 + i * 5 + f = tl
      · rw [if_pos ct]
        have hj : 7 - i + 1 = L.length ∧ f = 3 := by omega
        obtain ⟨hj1, rfl⟩ := hj
        unfold entAt
        rw [List.getElem?_append_left (by omega), List.getElem?_eq_getElem (by omega)]
        simp only [hlen]
        rw [if_neg (by omega), if_neg (by omega), if_neg (by omega), if_pos trivial, if_pos (by omega), hs, hj1]
      · rw [if_neg ct]
        by_cases e2 : 7 - i < L.length
        · exact (ent_push_lt b L (h8, k, v) (7 - i) f e2 (by omega)).symm
        · exact (ent_push_gt b L (h8, k, v) (7 - i) f (by omega)).symm
  · by_cases c44 : off = 44
    · subst c44
      by_cases c : L.length = 0
      · rw [if_pos (by omega)]; unfold htAt; simp [hlen, c, hs]
      · rw [if_neg (by omega), if_neg (by omega), if_neg (by omega), if_neg (by omega), if_neg (by omega)]; unfold htAt; simp [hlen, c]
    · rw [if_neg (by omega), if_neg (by omega), if_neg (by omega), if_neg (by omega), if_neg (by omega)]
      unfold htAt
      rw [if_neg c0, if_neg c40, if_neg c42, if_neg c44, if_neg c45, if_neg c0, if_neg c40, if_neg c42, if_neg c44, if_neg c45]
theorem and0_u32 (h8 : Nat) : bits .and .u32 (h8 : Int) 0 = 0 := by
  simp [bits]
  rfl
theorem isNone_t {A : Option Addr} (h : A.isNone = !false) : A = none := Option.isNone_iff_eq_none.1 h
theorem isNone_f {A : Option Addr} (h : A.isNone = !true) : ∃ a, A = some a := by
  cases A with
  | none => simp at h
  | some a => exact ⟨a, rfl⟩
set_option maxHeartbeats 1000000 in
theorem c117 (B b : Nat) (ini : Bool) (L : List (Nat × Value × Value)) (T : TypeId) (x : Value) (Tv : TypeId) (xv : Value) (K : Nat) (r : Value) (w : World)
    (h : HtR w b ini 0 L) (hL : L.length ≤ 7) (hB : B ≤ b) (hBw : B ≤ w.heap.size) (D : Disp T x "Hash" K r)
    (hH : ∀ W, Below B w W → Calls Tryz.prog K #[r] W fun e w' => ∃ hh : Nat, hh < 4294967296 ∧ e = .returned (.tuple #[.int .u32 hh, .nilIface]) ∧ Below W.heap.size W w')
    (hE : ∀ e ∈ L, ∀ W, Below B w W → Calls Tryz.prog 139 #[.iface T x, e.2.1] W fun e w' => e = .returned (.tuple #[.bool false, .nilIface]) ∧ Below W.heap.size W w') :
    Calls Tryz.prog 117 #[.pointer (some ⟨b, 0, none⟩), .iface T x, .iface Tv xv] w fun e w' => ∃ hh, e = .returned .nilIface ∧ HtR w' b true 0 (L ++ [(hh, .iface T x, .iface Tv xv)]) ∧ Below B w w' := by
  have HH := Lib.hid hH
  have HE := Lib.hid hE
  have d1 := D.ahead
  have d2 := D.meth
  have d3 := D.enter
  have qT : ∀ (w : World) (a : Option Addr) (n c n' c' : Nat), (binOp .eql 158 (.slice a n c) (.slice none n' c')).run Tryz.prog w = .ok (.bool a.isNone) w := fun w a n c n' c' => Lib.run_eql_slice_nil w _ _ a n c n' c' Tryz.underlying158
  have hc1 : ∃ A n c, w.cell? ⟨b, 0, none⟩ = some (.slice A n c) ∧ Hid (A.isNone = !ini) := by
    have := h.cells 0 (by omega)
    cases ini
    · exact ⟨_, _, _, this, rfl⟩
    · exact ⟨_, _, _, this, rfl⟩
  obtain ⟨A, nA, cA, hc0, hA⟩ := hc1
  clear hH hE
  go_enter Tryz.func117, Tryz.ntmps117
  go_wp2_with fail
  go_step3
  go_wp2_with fail
  refine (c137 b _ _ _ _ h).mono ?_
  rintro e w1 ⟨rfl, rfl⟩
  go_upto_if 26 with (fail)
  go_cut [8] (fun _ wc => HtR wc b true 0 L ∧ Below B w wc)
  case first =>
    clear hc0 qT
    cases ini with
    | false =>
      obtain rfl := isNone_t hA.out
      obtain rfl := h.set rfl
      go_wp2_with fail
      refine (c138 b _ h).mono ?_
      rintro e w1 ⟨rfl, h1, hg1⟩
      go_wp2_with fail
      go_meet
      exact ⟨h1, below_mid_grown (Below.refl _ _) hg1 hBw hB⟩
    | true =>
      obtain ⟨A, rfl⟩ := isNone_f hA.out
      go_wp2_with fail
      go_meet
      exact ⟨h, Below.refl _ _⟩
  case rest =>
    obtain ⟨h1, hb1⟩ := hcut
    clear hc0 qT h hA
    go_wp2_with fail
    refine (HH.out _ hb1).mono ?_
    rintro e w2 ⟨hh, hhl, rfl, hb2⟩
    have h2 := h1.below hb2
    have hb2' := below_mid hb1 hb2 hBw
    clear h1 hb1 hb2 d1 d2 d3
    go_upto_if 38 with (fail)
    go_cut [8] (fun v8 wc => ∃ h8 : Nat, v8 = .int .u32 h8 ∧ 0 < h8 ∧ h8 < 4294967296 ∧ wc = w2)
    case first =>
      by_cases h0 : hh = 0
      · subst h0
        go_wp2_with fail
        go_meet
        exact ⟨1, rfl, by omega, by omega, rfl⟩
      · have e0 : ((hh : Int) == 0) = false := by rw [beq_eq_false_iff_ne]; omega
        go_wp2_with fail
        go_meet
        exact ⟨hh, rfl, by omega, by omega, rfl⟩
    case rest =>
      obtain ⟨h8, rfl, h8p, h8l, rfl⟩ := hcut
      clear hhl
      go_wp2_with fail
      go_step3
      go_wp2_with fail
      have hc0 : wc.cell? ⟨b, 0, none⟩ = some (.slice (some ⟨b, 1, none⟩) 1 1) := h2.cells 0 (by omega)
      have hand : bits .and .u32 (h8 : Int) 0 = 0 := and0_u32 h8
      go_quiet (fail)
      go_wp2_with fail
      clear hc0 hand
      have h3 := h2.drewN nq
      have hb3 := below_drewN' hb2' nq
      clear h2 hb2'
      generalize wc.drewN nq = w3 at *
      go_loopw [10, 11] (fun v10 v11 wr => v10 = .pointer none ∧ v11 = .pointer (some ⟨b, 1, none⟩) ∧ HtR wr b true 0 L ∧ Below B w wr) (fun _ _ _ => 0)
      case atStart => exact ⟨rfl, rfl, h3, hb3⟩
      case round =>
        obtain ⟨rfl, rfl, h4, hb4⟩ := hrel
        clear h3 hb3
        obtain ⟨wo, rfl⟩ : ∃ wo : World, wo = wr := ⟨_, rfl⟩
        go_wp2_with fail
        go_loopw [53, 10] (fun vi v10 wr => ∃ i : Nat, i ≤ 8 ∧ vi = .int .i64 i ∧ v10 = insV b L.length i ∧ HtR wr b true 0 L ∧ Below B w wr) (fun vi _ _ => 8 - (intOf vi).toNat)
        case atStart => exact ⟨0, by omega, rfl, rfl, h4, hb4⟩
        case round =>
          obtain ⟨i, hi, rfl, rfl, h5, hb5⟩ := hrel
          clear h4 hb4
          by_cases hi8 : i < 8
          · by_cases hik : i + L.length ≤ 7
            · have hc := h5.cells (1 + i * 5) (by omega)
              rw [ht_empty b true 0 L i hi8 hik] at hc
              have e0 : ((0 : Int) != (h8 : Int)) = true := by rw [bne_iff_ne]; omega
              have hin := Lib.hid (insV_next b L.length i hik)
              go_wp2_with fail
              go_roundw
              case rel => exact ⟨i + 1, by omega, by go_num, by rw [hin.out], h5, hb5⟩
              case measure => simp [intOf]; omega
            · obtain ⟨e, he, e1, e2⟩ := ht_full b true 0 L i hi8 (by omega) h5.few
              have hc := h5.cells (1 + i * 5) (by omega)
              have hk := h5.cells (1 + i * 5 + 1) (by omega)
              rw [e1] at hc
              rw [e2] at hk
              have hpos := h5.hash e he
              have hcall := Lib.hid (HE.out e he wr hb5)
              have hin := Lib.hid (insV_same b L.length i (by omega))
              obtain ⟨eh, ek, ev⟩ := e
              simp only at hc hk hpos hcall
              clear e1 e2 he
              by_cases heq : eh = h8
              · subst heq
                have e0 : ((eh : Int) != (eh : Int)) = false := by simp
                go_wp2_with fail
                refine hcall.out.mono ?_
                rintro e w6 ⟨rfl, hb6⟩
                have h6 := h5.below hb6
                have hb6' := below_mid hb5 hb6 hBw
                clear hc hk h5 hb5 hb6
                go_wp2_with fail
                go_roundw
                case rel => exact ⟨i + 1, by omega, by go_num, by rw [hin.out], h6, hb6'⟩
                case measure => simp [intOf]; omega
              · have e0 : ((eh : Int) != (h8 : Int)) = true := by rw [bne_iff_ne]; omega
                have e00 : ((eh : Int) == 0) = false := by rw [beq_eq_false_iff_ne]; omega
                go_wp2_with fail
                go_roundw
                case rel => exact ⟨i + 1, by omega, by go_num, by rw [hin.out], h5, hb5⟩
                case measure => simp [intOf]; omega
          · obtain rfl : i = 8 := by omega
            clear hi hi8 HE
            have hc41 : wr.cell? ⟨b, 41, none⟩ = some (.pointer none) := h5.cells 41 (by omega)
            have hc42 : wr.cell? ⟨b, 42, none⟩ = some (.int .u32 (L.length : Int)) := h5.cells 42 (by omega)
            have hc0 : wr.cell? ⟨b, 0, none⟩ = some (.slice (some ⟨b, 1, none⟩) 1 1) := h5.cells 0 (by omega)
            have hov := Lib.hid (fun W => c140 (L.length : Int) 1 (by omega) W)
            have hins : insV b L.length 8 = .pointer (some ⟨b, 1 + 5 * (7 - L.length), none⟩) := by
              unfold insV
              rw [if_neg (by omega)]
              congr 3; omega
            rw [hins]
            clear hins
            go_wp2_with fail
            go_quiet ((go_at_call 140; exact quietS (hov.out _)))
            have hb6 := below_drewN' hb5 nq
            have B0 := h5.blk.drewN nq
            have HC := Lib.hid h5
            have hc45 : (wr.drewN nq).cell? ⟨b, 45, none⟩ = some (.pointer (some ⟨b, if L.length = 0 then 44 else 1 + 5 * (7 - (L.length - 1)) + 3, none⟩)) := h5.cells 45 (by omega)
            have H42 := Lib.hid (show htAt b true 0 L 42 = .int .u32 (L.length : Int) from rfl)
            have H45 := Lib.hid (show htAt b true 0 L 45 = .pointer (some ⟨b, if L.length = 0 then 44 else 1 + 5 * (7 - (L.length - 1)) + 3, none⟩) from rfl)
            clear hc41 hc42 hc0 h5 hb5 hc45
            generalize wr.drewN nq = W0 at *
            generalize hF : htAt b true 0 L = F0 at *
            have HF := Lib.hid hF
            clear hF
            obtain ⟨s, hs⟩ : ∃ s, s = 1 + 5 * (7 - L.length) := ⟨_, rfl⟩
            obtain ⟨tl, htl⟩ : ∃ tl, tl = if L.length = 0 then 44 else 1 + 5 * (7 - (L.length - 1)) + 3 := ⟨_, rfl⟩
            rw [← hs]
            rw [← htl] at H45
            have Hs := Lib.hid hs
            have Ht := Lib.hid htl
            have hs1 : s ≤ 36 := by omega
            have ht1 : tl ≤ 44 := by rw [htl]; split <;> omega
            clear hs htl
            have a0 := B0.cell s (by omega)
            have f0 := B0.free s
            go_upto_region 36 with (fail)
            clear a0 f0
            have B1 := B0.set (i := s) (by omega) (.int .u32 (h8 : Int))
            have b1 := hb6.setCell (p := ⟨b, s, none⟩) hB (.int .u32 (h8 : Int))
            clear B0 hb6
            generalize W0.setCell ⟨b, s, none⟩ (.int .u32 (h8 : Int)) = W1 at *
            have a0 := B1.cell (s + 1) (by omega)
            have f0 := B1.free (s + 1)
            go_upto_region 37 with (fail)
            clear a0 f0
            have B2 := B1.set (i := s + 1) (by omega) (.iface T x)
            have b2 := b1.setCell (p := ⟨b, s + 1, none⟩) hB (.iface T x)
            clear B1 b1
            generalize W1.setCell ⟨b, s + 1, none⟩ (.iface T x) = W2 at *
            have a0 := B2.cell (s + 2) (by omega)
            have f0 := B2.free (s + 2)
            go_upto_region 38 with (fail)
            clear a0 f0
            have B3 := B2.set (i := s + 2) (by omega) (.iface Tv xv)
            have b3 := b2.setCell (p := ⟨b, s + 2, none⟩) hB (.iface Tv xv)
            clear B2 b2
            generalize W2.setCell ⟨b, s + 2, none⟩ (.iface Tv xv) = W3 at *
            have a0 := B3.cell (s + 4) (by omega)
            have f0 := B3.free (s + 4)
            have l45 := B3.cell 45 (by omega)
            rw [if_neg (by omega), if_neg (by omega), if_neg (by omega), H45.out] at l45
            go_upto_region 39 with (fail)
            clear a0 f0 l45
            have B4 := B3.set (i := s + 4) (by omega) (.pointer (some ⟨b, tl, none⟩))
            have b4 := b3.setCell (p := ⟨b, s + 4, none⟩) hB (.pointer (some ⟨b, tl, none⟩))
            clear B3 b3
            generalize W3.setCell ⟨b, s + 4, none⟩ (.pointer (some ⟨b, tl, none⟩)) = W4 at *
            have l45 := B4.cell 45 (by omega)
            rw [if_neg (by omega), if_neg (by omega), if_neg (by omega), if_neg (by omega), H45.out] at l45
            have a0 := B4.cell tl (by omega)
            have f0 := B4.free tl
            go_upto_region 40 with (fail)
            clear a0 f0 l45
            have B5 := B4.set (i := tl) (by omega) (.pointer (some ⟨b, s, none⟩))
            have b5 := b4.setCell (p := ⟨b, tl, none⟩) hB (.pointer (some ⟨b, s, none⟩))
            clear B4 b4
            generalize W4.setCell ⟨b, tl, none⟩ (.pointer (some ⟨b, s, none⟩)) = W5 at *
            have a0 := B5.cell 45 (by omega)
            have f0 := B5.free 45
            go_upto_region 41 with (fail)
            clear a0 f0
            have B6 := B5.set (i := 45) (by omega) (.pointer (some ⟨b, s + 3, none⟩))
            have b6 := b5.setCell (p := ⟨b, 45, none⟩) hB (.pointer (some ⟨b, s + 3, none⟩))
            clear B5 b5
            generalize W5.setCell ⟨b, 45, none⟩ (.pointer (some ⟨b, s + 3, none⟩)) = W6 at *
            have l42 := B6.cell 42 (by omega)
            have ht42 : tl ≠ 42 := by rw [Ht.out]; split <;> omega
            rw [if_neg (by omega), if_neg (by omega), if_neg (by omega), if_neg (by omega), if_neg (by omega), if_neg (by omega), H42.out] at l42
            have f0 := B6.free 42
            have hw1 : IntKind.u32.wrap ((L.length : Int) + 1) = (L.length : Int) + 1 := by rw [IntKind.wrap_u32]; omega
            go_wp2_with fail
            rw [Exit.noGoto_ret]
            go_ret
            have B7 := B6.set (i := 42) (by omega) (.int .u32 ((L.length : Int) + 1))
            refine ⟨h8, rfl, ⟨B7.eq ?_, by simp; omega, by simp, ?_⟩, b6.setCell (p := ⟨b, 42, none⟩) hB _⟩
            · intro off ho
              rw [← HF.out]
              exact ht_push b L h8 _ _ s tl Hs.out Ht.out hL off ho
            · intro e he
              rcases List.mem_append.1 he with h | h
              · exact HC.out.hash e h
              · rw [List.mem_singleton.1 h]; exact ⟨h8p, h8l⟩
end Go.Proofs.YtpfihjkhgfoijaaGreatDoor

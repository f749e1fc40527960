/- A region that draws its order: a condition S on the world that is wanted only till one named operation has come up; Contract of Int.QuoRem by a number of one word. -/
import Derived.OrdersHeld
import Derived.Deep.RegionHeld3
import Derived.BigRegion
import Derived.Outline
import Derived.Test.YtpfihjkhgfoijaaGreatDoorQ24
set_option linter.unusedVariables false
set_option linter.unusedSimpArgs false
namespace Go.Proofs.YtpfihjkhgfoijaaGreatDoor
open Go

section
variable {P : Program} {ops : Array Oper} {Q : Exit → Act → World → Prop} {S : World → Prop} {k : Nat}

/-- whatever comes up next; as long as number k has not come up, S is to hold behind it -/
def wpAnyK (P : Program) (ops : Array Oper) (Q : Exit → Act → World → Prop) (S : World → Prop) (k : Nat) : Nat → Array Bool → Act → World → Prop
  | 0, listed, a, w => Region.ready .any ops listed = [] ∧ Q .normal a w
  | fuel + 1, listed, a, w =>
    (Region.ready .any ops listed = [] → Q .normal a w) ∧
    ∀ i ∈ Region.ready .any ops listed, wpOp P ops Q i (fun a' w' => ((listed.setIfInBounds i true).getD k true = false → S w') ∧ wpAnyK P ops Q S k fuel (listed.setIfInBounds i true) a' w') a w
theorem wpAny_of_K : ∀ (fuel : Nat) (listed : Array Bool) (a : Act) (w : World), wpAnyK P ops Q S k fuel listed a w → wpAny P .any ops Q fuel listed a w
  | 0, _, _, _, h => h
  | fuel + 1, _, _, _, h => ⟨h.1, fun i hi => wpOp_mono (fun a' w' h' => wpAny_of_K fuel _ a' w' h'.2) (h.2 i hi)⟩
/-- an operation for which number k waits, and which yields its value in every world that meets S, may be taken first -/
theorem wpAnyK_first {i : Nat} {oi ok : Oper} {v : Value} (hi : ops[i]? = some oi) (hok : ops[k]? = some ok) (hki : k ≠ i) (hkw : ∃ e ∈ ok.after, Region.binds .any e = true ∧ e.on = i)
    (hsel : ∀ (j : Nat) (o : Oper) cs b, ops[j]? = some o → o.op ≠ .select cs b) (hQ : ∀ c a w, Q (.panic c) (a.put oi.dst v) w → Q (.panic c) a w) :
    ∀ (fuel : Nat) (listed : Array Bool) (a : Act) (w : World),
      (∀ j oj, ops[j]? = some oj → j ≠ i → listed.getD j true = false → (∀ e ∈ oj.after, Region.binds .any e = true → e.on ≠ i) → oi.apart ops oj = true) →
      i ∈ Region.ready .any ops listed → listed.getD k true = false → YieldsIf P ops S oi v a → S w →
      wpAnyK P ops Q S k fuel (listed.setIfInBounds i true) (a.put oi.dst v) w → wpAnyK P ops Q S k (fuel + 1) listed a w := by
  intro fuel
  induction fuel with
  | zero =>
    intro listed a w _ hr hun hy hS H
    refine ⟨fun h => (by rw [h] at hr; cases hr), fun j hj => ?_⟩
    by_cases hji : j = i
    · subst hji; exact hy.wpOp hi hS ⟨fun _ => hS, H⟩
    · have := ready_mono hj hji
      rw [H.1] at this
      cases this
  | succ fuel ih =>
    intro listed a w hfree hr hun hy hS H
    refine ⟨fun h => (by rw [h] at hr; cases hr), fun j hj => ?_⟩
    by_cases hji : j = i
    · subst hji; exact hy.wpOp hi hS ⟨fun _ => hS, H⟩
    · have h1 := H.2 j (ready_mono hj hji)
      obtain ⟨hjun, oj, hoj, hall⟩ := mem_ready.1 hj
      have hnot : ∀ e ∈ oj.after, Region.binds .any e = true → e.on ≠ i := fun e he hb heq => by
        have h1 := hall e he hb
        have h0 := (mem_ready.1 hr).1
        rw [heq] at h1
        rcases Nat.lt_or_ge i listed.size with h' | h'
        · simp [h'] at h0 h1; rw [h0] at h1; cases h1
        · simp [Array.getElem?_eq_none h'] at h1
      have hjk : j ≠ k := fun e => by
        subst e
        rw [hok] at hoj
        cases hoj
        obtain ⟨e, he, hb, hon⟩ := hkw
        exact hnot e he hb hon
      have hunj : (listed.setIfInBounds j true).getD k true = false := by rw [getD_set_ne true hjk]; exact hun
      have hunij : ((listed.setIfInBounds i true).setIfInBounds j true).getD k true = false := by rw [getD_set_ne true hjk, getD_set_ne true (Ne.symm hki)]; exact hun
      have h2 := wpOp_putIf hoj (hfree j oj hoj hji hjun hnot) (fun cs b => hsel i oi cs b hi) (fun cs b => hsel j oj cs b hoj) hQ hy h1
      have hfree' : ∀ k ok, ops[k]? = some ok → k ≠ i → (listed.setIfInBounds j true).getD k true = false →
          (∀ e ∈ ok.after, Region.binds .any e = true → e.on ≠ i) → oi.apart ops ok = true := fun k ok hk hki hun hno => by
        refine hfree k ok hk hki ?_ hno
        by_cases hjk : j = k
        · subst hjk; exact hjun
        · rw [getD_set_ne true hjk] at hun; exact hun
      refine wpOp_mono (fun a' w' h3 => ⟨fun _ => h3.2.1 hunij, ih (listed.setIfInBounds j true) a' w' hfree' (ready_mono hr (Ne.symm hji)) hunj h3.1 (h3.2.1 hunij) ?_⟩) h2
      rw [Array.setIfInBounds_comm _ _ hji]
      exact h3.2.2
/-- an operation that yields its value in whatever world may be taken first -/
theorem wpAnyK_easy {i : Nat} {oi : Oper} {v : Value} (hi : ops[i]? = some oi) (hki : k ≠ i)
    (hsel : ∀ (j : Nat) (o : Oper) cs b, ops[j]? = some o → o.op ≠ .select cs b) (hQ : ∀ c a w, Q (.panic c) (a.put oi.dst v) w → Q (.panic c) a w) :
    ∀ (fuel : Nat) (listed : Array Bool) (a : Act) (w : World),
      (∀ j oj, ops[j]? = some oj → j ≠ i → listed.getD j true = false → (∀ e ∈ oj.after, Region.binds .any e = true → e.on ≠ i) → oi.apart ops oj = true) →
      i ∈ Region.ready .any ops listed → YieldsIf P ops (fun _ => True) oi v a → (listed.getD k true = false → S w) →
      wpAnyK P ops Q S k fuel (listed.setIfInBounds i true) (a.put oi.dst v) w → wpAnyK P ops Q S k (fuel + 1) listed a w := by
  intro fuel
  induction fuel with
  | zero =>
    intro listed a w _ hr hy hS H
    refine ⟨fun h => (by rw [h] at hr; cases hr), fun j hj => ?_⟩
    by_cases hji : j = i
    · subst hji; exact hy.wpOp hi trivial ⟨fun h0 => hS (by rw [getD_set_ne true (Ne.symm hki)] at h0; exact h0), H⟩
    · have := ready_mono hj hji
      rw [H.1] at this
      cases this
  | succ fuel ih =>
    intro listed a w hfree hr hy hS H
    refine ⟨fun h => (by rw [h] at hr; cases hr), fun j hj => ?_⟩
    by_cases hji : j = i
    · subst hji; exact hy.wpOp hi trivial ⟨fun h0 => hS (by rw [getD_set_ne true (Ne.symm hki)] at h0; exact h0), H⟩
    · have h1 := H.2 j (ready_mono hj hji)
      obtain ⟨hjun, oj, hoj, hall⟩ := mem_ready.1 hj
      have hnot : ∀ e ∈ oj.after, Region.binds .any e = true → e.on ≠ i := fun e he hb heq => by
        have h1 := hall e he hb
        have h0 := (mem_ready.1 hr).1
        rw [heq] at h1
        rcases Nat.lt_or_ge i listed.size with h' | h'
        · simp [h'] at h0 h1; rw [h0] at h1; cases h1
        · simp [Array.getElem?_eq_none h'] at h1
      have hcom : ((listed.setIfInBounds i true).setIfInBounds j true).getD k true = (listed.setIfInBounds j true).getD k true := by
        rw [Array.setIfInBounds_comm _ _ (Ne.symm hji), getD_set_ne true (Ne.symm hki)]
      have h2 := wpOp_putIf hoj (hfree j oj hoj hji hjun hnot) (fun cs b => hsel i oi cs b hi) (fun cs b => hsel j oj cs b hoj) hQ hy h1
      have hfree' : ∀ k ok, ops[k]? = some ok → k ≠ i → (listed.setIfInBounds j true).getD k true = false →
          (∀ e ∈ ok.after, Region.binds .any e = true → e.on ≠ i) → oi.apart ops ok = true := fun k ok hk hki hun hno => by
        refine hfree k ok hk hki ?_ hno
        by_cases hjk : j = k
        · subst hjk; exact hjun
        · rw [getD_set_ne true hjk] at hun; exact hun
      refine wpOp_mono (fun a' w' h3 => ⟨fun h0 => h3.2.1 (hcom.trans h0), ih (listed.setIfInBounds j true) a' w' hfree' (ready_mono hr (Ne.symm hji)) h3.1 (fun h0 => h3.2.1 (hcom.trans h0)) ?_⟩) h2
      rw [Array.setIfInBounds_comm _ _ hji]
      exact h3.2.2
/-- number i of a list of operations -/
def nthOp : List Oper → Nat → Option Oper
  | [], _ => none
  | o :: _, 0 => some o
  | _ :: os, i + 1 => nthOp os i
theorem nthOp_get : ∀ (l : List Oper) (i : Nat), nthOp l i = l[i]?
  | [], _ => rfl
  | _ :: _, 0 => rfl
  | _ :: os, i + 1 => by rw [nthOp, nthOp_get os i, List.getElem?_cons_succ]
/-- does number k of the list wait for number i, and has it not come up? -/
def lateOp (ops : Array Oper) (listed : Array Bool) (k i : Nat) : Bool :=
  (k != i) && !(listed.getD k true) && (match ops[k]? with | some o => o.after.any (fun e => Region.binds .any e && e.on == i) | none => false)
theorem wpAnyK_take {l : List Oper} (i : Nat) {oi : Oper} {v : Value} {fuel : Nat} {listed : Array Bool} {a : Act} {w : World} (hi : nthOp l i = some oi)
    (hs : Region.noSelect l.toArray = true) (hf : Region.free .any l.toArray listed i = true) (hr : (Region.ready .any l.toArray listed).contains i = true) (hl : lateOp l.toArray listed k i = true)
    (hQ : ∀ c a w, Q (.panic c) (a.put oi.dst v) w → Q (.panic c) a w) (hS : S w) (hy : YieldsIf P l.toArray S oi v a)
    (h : wpAnyK P l.toArray Q S k fuel (listed.setIfInBounds i true) (a.put oi.dst v) w) : wpAnyK P l.toArray Q S k (fuel + 1) listed a w := by
  have hi' : l.toArray[i]? = some oi := by rw [List.getElem?_toArray, ← nthOp_get]; exact hi
  unfold lateOp at hl
  cases hok : l.toArray[k]? with
  | none => rw [hok] at hl; simp at hl
  | some ok =>
    rw [hok] at hl
    simp only [Bool.and_eq_true, bne_iff_ne, Bool.not_eq_true', Array.any_eq_true', beq_iff_eq] at hl
    obtain ⟨⟨h1, h2⟩, e, he, hb, hon⟩ := hl
    exact wpAnyK_first hi' hok h1 ⟨e, he, hb, hon⟩ (Region.noSelect_spec hs) hQ fuel listed a w (Region.free_spec hi' hf) (by simpa using hr) h2 hy hS h
theorem wpAnyK_pure {l : List Oper} (i : Nat) {oi : Oper} {v : Value} {fuel : Nat} {listed : Array Bool} {a : Act} {w : World} (hi : nthOp l i = some oi)
    (hs : Region.noSelect l.toArray = true) (hf : Region.free .any l.toArray listed i = true) (hr : (Region.ready .any l.toArray listed).contains i = true) (hl : (k != i) = true)
    (hQ : ∀ c a w, Q (.panic c) (a.put oi.dst v) w → Q (.panic c) a w) (hS : listed.getD k true = false → S w) (hy : YieldsIf P l.toArray (fun _ => True) oi v a)
    (h : wpAnyK P l.toArray Q S k fuel (listed.setIfInBounds i true) (a.put oi.dst v) w) : wpAnyK P l.toArray Q S k (fuel + 1) listed a w := by
  have hi' : l.toArray[i]? = some oi := by rw [List.getElem?_toArray, ← nthOp_get]; exact hi
  exact wpAnyK_easy hi' (by simpa using hl) (Region.noSelect_spec hs) hQ fuel listed a w (Region.free_spec hi' hf) (by simpa using hr) hy hS h
theorem wpAnyK_past {l : List Oper} (i : Nat) {oi : Oper} {v : Value} {fuel : Nat} {listed : Array Bool} {a : Act} {w : World} (hi : nthOp l i = some oi)
    (hs : Region.noSelect l.toArray = true) (hf : Region.free .any l.toArray listed i = true) (hr : (Region.ready .any l.toArray listed).contains i = true) (hl : (k != i) = true) (hk : listed.getD k true = true)
    (hQ : ∀ c a w, Q (.panic c) (a.put oi.dst v) w → Q (.panic c) a w) (hy : YieldsIf P l.toArray (fun _ => True) oi v a)
    (h : wpAnyK P l.toArray Q S k fuel (listed.setIfInBounds i true) (a.put oi.dst v) w) : wpAnyK P l.toArray Q S k (fuel + 1) listed a w :=
  wpAnyK_pure i hi hs hf hr hl hQ (fun h0 => by rw [hk] at h0; cases h0) hy h
theorem yieldsIf_run {o : Oper} {v : Value} {a : Act} (hw : Region.wanted o (yielded ops a.tmps) = true) (h : ∀ w, S w → (execOp a.eval o).run P w = .ok (.value v) w) : YieldsIf P ops S o v a := Or.inl ⟨hw, h⟩
/-- the one that may come up comes up -/
theorem wpAnyK_one {l : List Oper} (i : Nat) {oi : Oper} {fuel : Nat} {listed : Array Bool} {a : Act} {w : World} (hr : Region.ready .any l.toArray listed = [i]) (hi : nthOp l i = some oi)
    (h : ∀ K' : Act → World → Prop, Shut (∀ a w, ((listed.setIfInBounds i true).getD k true = false → S w) → wpAnyK P l.toArray Q S k fuel (listed.setIfInBounds i true) a w → K' a w) →
      if Region.wanted oi (yielded l.toArray a.tmps) = true then Oper.wp P oi a w K' Q else K' (a.put oi.dst undef) w) : wpAnyK P l.toArray Q S k (fuel + 1) listed a w := by
  have hi' : l.toArray[i]? = some oi := by rw [List.getElem?_toArray, ← nthOp_get]; exact hi
  refine ⟨fun h0 => (by rw [hr] at h0; cases h0), fun j hj => ?_⟩
  rw [hr] at hj
  rw [List.mem_singleton.1 hj]
  exact wpOp_step hi' (fun K' hK => h K' (fun a w hS hW => hK a w ⟨hS, hW⟩))
/-- the same, from number k on: S is wanted no more -/
theorem wpAnyK_free {l : List Oper} (i : Nat) {oi : Oper} {fuel : Nat} {listed : Array Bool} {a : Act} {w : World} (hr : Region.ready .any l.toArray listed = [i]) (hi : nthOp l i = some oi) (hl : (listed.setIfInBounds i true).getD k true = true)
    (h : ∀ K' : Act → World → Prop, Shut (∀ a w, wpAnyK P l.toArray Q S k fuel (listed.setIfInBounds i true) a w → K' a w) →
      if Region.wanted oi (yielded l.toArray a.tmps) = true then Oper.wp P oi a w K' Q else K' (a.put oi.dst undef) w) : wpAnyK P l.toArray Q S k (fuel + 1) listed a w :=
  wpAnyK_one i hr hi fun K' hK => h K' fun a w hW => hK.out a w (fun h0 => by rw [hl] at h0; cases h0) hW
theorem wpAnyK_done {l : List Oper} {listed : Array Bool} {a : Act} {w : World} (hr : Region.ready .any l.toArray listed = []) (h : Q .normal a w) : ∀ fuel, wpAnyK P l.toArray Q S k fuel listed a w
  | 0 => ⟨hr, h⟩
  | _ + 1 => ⟨fun _ => h, by rw [hr]; simp⟩
theorem wp_region_K {l : List Oper} (S : World → Prop) (k : Nat) {id : Nat} {a : Act} {w : World} (hm : P.follows .mixedOrders = true)
    (h : wpAnyK P l.toArray Q S k l.length (List.replicate l.length false).toArray a w.drew) : (Code.region id l.toArray true).wp P Q a w := by
  refine wp_region_any hm (wpAny_of_K (S := S) (k := k) _ _ _ _ ?_)
  have e1 : l.toArray.size = l.length := by simp
  have e2 : (Array.replicate l.toArray.size false) = (List.replicate l.length false).toArray := by simp
  rw [e2, e1]
  exact h
end
end Go.Proofs.YtpfihjkhgfoijaaGreatDoor
set_option linter.unusedVariables false
set_option linter.unusedSimpArgs false
set_option maxRecDepth 100000
namespace Go.Proofs.YtpfihjkhgfoijaaGreatDoor
open Go.RowKit

/-- what is as it was but for the blocks b and b4 -/
structure But2 (b b4 : Nat) (w w' : World) : Prop where
  os : w'.os = w.os
  tape : w'.tape = w.tape
  output : w'.output = w.output
  size : w.heap.size ≤ w'.heap.size
  block : ∀ k, k < w.heap.size → k ≠ b → k ≠ b4 → w'.heap[k]? = w.heap[k]?
theorem But2.below {b b4 N : Nat} {w w' : World} (h : But2 b b4 w w') (h1 : N ≤ b) (h2 : N ≤ b4) (h3 : N ≤ w.heap.size) : Below N w w' :=
  ⟨h.os, h.tape, h.output, h.size, fun k hk => h.block k (by omega) (by omega) (by omega)⟩
theorem But2.of_below {b b4 : Nat} {w w' : World} (h : Below w.heap.size w w') : But2 b b4 w w' := ⟨h.os, h.tape, h.output, h.size, fun k hk _ _ => h.block k hk⟩
theorem setCell_size (w : World) (p : Addr) (v : Value) : (w.setCell p v).heap.size = w.heap.size := by simp [World.setCell]
theorem setCell_block (w : World) (p : Addr) (v : Value) (k : Nat) (h : k ≠ p.block) : (w.setCell p v).heap[k]? = w.heap[k]? := by
  simp only [World.setCell, Array.getElem?_modify, if_neg (Ne.symm h)]
theorem But2.set {b b4 : Nat} {w w' : World} (h : But2 b b4 w w') (p : Addr) (hp : p.block = b ∨ p.block = b4) (v : Value) : But2 b b4 w (w'.setCell p v) :=
  ⟨h.os, h.tape, h.output, by rw [setCell_size]; exact h.size, fun k hk h1 h2 => by rw [setCell_block _ _ _ _ (by rcases hp with e | e <;> omega)]; exact h.block k hk h1 h2⟩
theorem But2.drew {b b4 : Nat} {w w' : World} (h : But2 b b4 w w') : But2 b b4 w w'.drew := ⟨h.os, h.tape, h.output, h.size, h.block⟩
theorem BigR.but2 {b b4 : Nat} {w w' : World} {bx ox : Nat} {neg : Bool} {A : Option Addr} {n c : Nat} {xs : List Nat} (h : BigR w bx ox neg A n c xs) (hb : But2 b b4 w w') (h1 : bx ≠ b) (h2 : bx ≠ b4) (hA : ∀ a, A = some a → a.block ≠ b ∧ a.block ≠ b4) : BigR w' bx ox neg A n c xs :=
  h.agree (hb.block bx h.lt h1 h2) fun a ha => hb.block _ (h.nat.lt a ha) (hA a ha).1 (hA a ha).2
/-- a store into a number's place that is no part of another's -/
theorem BigR.away {w : World} {b o : Nat} {neg : Bool} {A : Option Addr} {n c : Nat} {xs : List Nat} (h : BigR w b o neg A n c xs) (p : Addr) (v : Value) (hb : p.block ≠ b) (hA : ∀ a, A = some a → a.block ≠ p.block) : BigR (w.setCell p v) b o neg A n c xs :=
  h.agree (setCell_block _ _ _ _ (Ne.symm hb)) fun a ha => setCell_block _ _ _ _ (hA a ha)
theorem BigR.putAbs {w : World} {b o : Nat} {neg : Bool} {A0 : Option Addr} {n0 c0 : Nat} {x0 : List Nat} (h : BigR w b o neg A0 n0 c0 x0) {A : Option Addr} {n c : Nat} {xs : List Nat} (hN : NatR w A n c xs) (hr : Nrm xs) (hA : ∀ a, A = some a → a.block ≠ b) : BigR (w.setCell ⟨b, o + 1, none⟩ (.slice A n c)) b o neg A n c xs := by
  refine ⟨h.own.set _ _, ?_, ?_, hN.grown (g' := b) (grown_set (grown_refl _ _) _ _) hA, hr⟩
  · rw [cell_setCell_at h.ab, if_neg (by omega)]; exact h.sg
  · rw [cell_setCell_at h.ab, if_pos rfl]
theorem BigR.putNeg {w : World} {b o : Nat} {neg : Bool} {A : Option Addr} {n c : Nat} {xs : List Nat} (h : BigR w b o neg A n c xs) (hA : ∀ a, A = some a → a.block ≠ b) (neg' : Bool) : BigR (w.setCell ⟨b, o, none⟩ (.bool neg')) b o neg' A n c xs := by
  refine ⟨h.own.set _ _, ?_, ?_, h.nat.grown (g' := b) (grown_set (grown_refl _ _) _ _) hA, h.nrm⟩
  · rw [cell_setCell_at h.sg, if_pos rfl]
  · rw [cell_setCell_at h.sg, if_neg (by omega)]; exact h.ab
/-- what QuoRem leaves -/
def QRP (b b4 : Nat) (nx ny : Bool) (xs : List Nat) (y : Nat) (w : World) (e : Ending) (w' : World) : Prop :=
  ∃ B m d qs C k f rs, e = .returned (.tuple #[.pointer (some ⟨b, 0, none⟩), .pointer (some ⟨b4, 0, none⟩)]) ∧ BigR w' b 0 (decide (0 < m) && (nx != ny)) B m d qs ∧ BigR w' b4 0 (decide (0 < k) && nx) C k f rs ∧ (y = 1 → qs = xs) ∧ m ≤ xs.length ∧ nv rs = nv xs % y ∧ But2 b b4 w w' ∧ (∀ a, B = some a → w.heap.size ≤ a.block) ∧ (∀ a, C = some a → w.heap.size ≤ a.block)
set_option maxHeartbeats 8000000 in
theorem c248 (b bx ox b2 o2 b4 : Nat) (nx ny : Bool) (A : Option Addr) (n c : Nat) (xs : List Nat) (y gy cy : Nat) (w : World) (hz : BigR w b 0 false none 0 0 []) (hr : BigR w b4 0 false none 0 0 []) (hx : BigR w bx ox nx A n c xs) (hy : BigR w b2 o2 ny (some ⟨gy, 0, none⟩) 1 cy [y])
    (h1 : b ≠ b4) (h2 : b ≠ bx) (h3 : b ≠ b2) (h4 : b4 ≠ bx) (h5 : b4 ≠ b2) (hn0 : 0 < n) (hn : n ≤ 1000) (hy0 : 0 < y) :
    Calls Tryz.prog 248 #[.pointer (some ⟨b, 0, none⟩), .pointer (some ⟨bx, ox, none⟩), .pointer (some ⟨b2, o2, none⟩), .pointer (some ⟨b4, 0, none⟩)] w (QRP b b4 nx ny xs y w) := by
  have z1 := hz.ab
  have r1 := hr.ab
  have x0 := hx.sg
  have x1 := hx.ab
  have y0 := hy.sg
  have y1 := hy.ab
  have HD := Lib.hid (c215 A n c y gy cy xs hn0 hn hy0 w.drew hx.nat.drew hx.nrm hy.nat.drew)
  have HZ := Lib.hid hz
  have HR := Lib.hid hr
  have hbl := hz.lt
  have hrl := hr.lt
  have hxl := hx.lt
  have hyl := hy.lt
  clear hz hr hx hy
  go_enter Tryz.func248, Tryz.ntmps248
  go_upto_region 1 with (fail)
  go_cut [10] (fun _ wc => ∃ B m d qs C k f rs, BigR wc b 0 false B m d qs ∧ BigR wc b4 0 false C k f rs ∧ Hid (y = 1 → qs = xs) ∧ m ≤ xs.length ∧ Hid (nv rs = nv xs % y) ∧ But2 b b4 w wc ∧ Hid (∀ a, B = some a → w.heap.size ≤ a.block) ∧ Hid (∀ a, C = some a → w.heap.size ≤ a.block) ∧
    wc.cell? ⟨bx, ox, none⟩ = some (.bool nx) ∧ wc.cell? ⟨b2, o2, none⟩ = some (.bool ny))
  case first =>
    have sA : w.drew.cell? ⟨b, 1, none⟩ = some (.slice none 0 0) ∧ w.drew.cell? ⟨b4, 1, none⟩ = some (.slice none 0 0) ∧ w.drew.cell? ⟨bx, ox + 1, none⟩ = some (.slice A n c) ∧ w.drew.cell? ⟨b2, o2 + 1, none⟩ = some (.slice (some ⟨gy, 0, none⟩) 1 cy) := ⟨z1, r1, x1, y1⟩
    refine wp_region_K (fun W => W.cell? ⟨b, 1, none⟩ = some (.slice none 0 0) ∧ W.cell? ⟨b4, 1, none⟩ = some (.slice none 0 0) ∧ W.cell? ⟨bx, ox + 1, none⟩ = some (.slice A n c) ∧ W.cell? ⟨b2, o2 + 1, none⟩ = some (.slice (some ⟨gy, 0, none⟩) 1 cy)) 18 (by kernel_rfl) ?_
    refine wpAnyK_pure 0 (v := ?kv0) rfl (by kernel_rfl) (by kernel_rfl) (by kernel_rfl) (by kernel_rfl) (fun _ _ _ h => h) (fun _ => sA) (yieldsIf_run (by rfl) ?ky0) ?kr0
    case ky0 => (intro w hSw; go_simp; all_goals with_reducible rfl)
    try simp only [Act.put, List.setIfInBounds_toArray, List.set_cons_zero, List.set_cons_succ]
    refine wpAnyK_pure 1 (v := ?kv1) rfl (by kernel_rfl) (by kernel_rfl) (by kernel_rfl) (by kernel_rfl) (fun _ _ _ h => h) (fun _ => sA) (yieldsIf_run (by rfl) ?ky1) ?kr1
    case ky1 => (intro w hSw; go_simp; all_goals with_reducible rfl)
    try simp only [Act.put, List.setIfInBounds_toArray, List.set_cons_zero, List.set_cons_succ]
    refine wpAnyK_pure 2 (v := ?kv2) rfl (by kernel_rfl) (by kernel_rfl) (by kernel_rfl) (by kernel_rfl) (fun _ _ _ h => h) (fun _ => sA) (yieldsIf_run (by rfl) ?ky2) ?kr2
    case ky2 => (intro w hSw; go_simp; all_goals with_reducible rfl)
    try simp only [Act.put, List.setIfInBounds_toArray, List.set_cons_zero, List.set_cons_succ]
    refine wpAnyK_pure 3 (v := ?kv3) rfl (by kernel_rfl) (by kernel_rfl) (by kernel_rfl) (by kernel_rfl) (fun _ _ _ h => h) (fun _ => sA) (yieldsIf_run (by rfl) ?ky3) ?kr3
    case ky3 => (intro w hSw; go_simp; all_goals with_reducible rfl)
    try simp only [Act.put, List.setIfInBounds_toArray, List.set_cons_zero, List.set_cons_succ]
    refine wpAnyK_pure 4 (v := ?kv4) rfl (by kernel_rfl) (by kernel_rfl) (by kernel_rfl) (by kernel_rfl) (fun _ _ _ h => h) (fun _ => sA) (yieldsIf_run (by rfl) ?ky4) ?kr4
    case ky4 => (intro w hSw; go_simp; all_goals with_reducible rfl)
    try simp only [Act.put, List.setIfInBounds_toArray, List.set_cons_zero, List.set_cons_succ]
    refine wpAnyK_take 5 (v := ?kv5) rfl (by kernel_rfl) (by kernel_rfl) (by kernel_rfl) (by kernel_rfl) (fun _ _ _ h => h) sA (yieldsIf_run (by rfl) ?ky5) ?kr5
    case ky5 => (intro w hSw; (try dsimp only at hSw); go_simp; all_goals with_reducible rfl)
    try simp only [Act.put, List.setIfInBounds_toArray, List.set_cons_zero, List.set_cons_succ]
    refine wpAnyK_pure 6 (v := ?kv6) rfl (by kernel_rfl) (by kernel_rfl) (by kernel_rfl) (by kernel_rfl) (fun _ _ _ h => h) (fun _ => sA) (yieldsIf_run (by rfl) ?ky6) ?kr6
    case ky6 => (intro w hSw; go_simp; all_goals with_reducible rfl)
    try simp only [Act.put, List.setIfInBounds_toArray, List.set_cons_zero, List.set_cons_succ]
    refine wpAnyK_pure 7 (v := ?kv7) rfl (by kernel_rfl) (by kernel_rfl) (by kernel_rfl) (by kernel_rfl) (fun _ _ _ h => h) (fun _ => sA) (yieldsIf_run (by rfl) ?ky7) ?kr7
    case ky7 => (intro w hSw; go_simp; all_goals with_reducible rfl)
    try simp only [Act.put, List.setIfInBounds_toArray, List.set_cons_zero, List.set_cons_succ]
    refine wpAnyK_pure 8 (v := ?kv8) rfl (by kernel_rfl) (by kernel_rfl) (by kernel_rfl) (by kernel_rfl) (fun _ _ _ h => h) (fun _ => sA) (yieldsIf_run (by rfl) ?ky8) ?kr8
    case ky8 => (intro w hSw; go_simp; all_goals with_reducible rfl)
    try simp only [Act.put, List.setIfInBounds_toArray, List.set_cons_zero, List.set_cons_succ]
    refine wpAnyK_take 9 (v := ?kv9) rfl (by kernel_rfl) (by kernel_rfl) (by kernel_rfl) (by kernel_rfl) (fun _ _ _ h => h) sA (yieldsIf_run (by rfl) ?ky9) ?kr9
    case ky9 => (intro w hSw; (try dsimp only at hSw); go_simp; all_goals with_reducible rfl)
    try simp only [Act.put, List.setIfInBounds_toArray, List.set_cons_zero, List.set_cons_succ]
    refine wpAnyK_pure 10 (v := ?kv10) rfl (by kernel_rfl) (by kernel_rfl) (by kernel_rfl) (by kernel_rfl) (fun _ _ _ h => h) (fun _ => sA) (yieldsIf_run (by rfl) ?ky10) ?kr10
    case ky10 => (intro w hSw; go_simp; all_goals with_reducible rfl)
    try simp only [Act.put, List.setIfInBounds_toArray, List.set_cons_zero, List.set_cons_succ]
    refine wpAnyK_pure 11 (v := ?kv11) rfl (by kernel_rfl) (by kernel_rfl) (by kernel_rfl) (by kernel_rfl) (fun _ _ _ h => h) (fun _ => sA) (yieldsIf_run (by rfl) ?ky11) ?kr11
    case ky11 => (intro w hSw; go_simp; all_goals with_reducible rfl)
    try simp only [Act.put, List.setIfInBounds_toArray, List.set_cons_zero, List.set_cons_succ]
    refine wpAnyK_pure 12 (v := ?kv12) rfl (by kernel_rfl) (by kernel_rfl) (by kernel_rfl) (by kernel_rfl) (fun _ _ _ h => h) (fun _ => sA) (yieldsIf_run (by rfl) ?ky12) ?kr12
    case ky12 => (intro w hSw; go_simp; all_goals with_reducible rfl)
    try simp only [Act.put, List.setIfInBounds_toArray, List.set_cons_zero, List.set_cons_succ]
    refine wpAnyK_take 13 (v := ?kv13) rfl (by kernel_rfl) (by kernel_rfl) (by kernel_rfl) (by kernel_rfl) (fun _ _ _ h => h) sA (yieldsIf_run (by rfl) ?ky13) ?kr13
    case ky13 => (intro w hSw; (try dsimp only at hSw); go_simp; all_goals with_reducible rfl)
    try simp only [Act.put, List.setIfInBounds_toArray, List.set_cons_zero, List.set_cons_succ]
    refine wpAnyK_pure 14 (v := ?kv14) rfl (by kernel_rfl) (by kernel_rfl) (by kernel_rfl) (by kernel_rfl) (fun _ _ _ h => h) (fun _ => sA) (yieldsIf_run (by rfl) ?ky14) ?kr14
    case ky14 => (intro w hSw; go_simp; all_goals with_reducible rfl)
    try simp only [Act.put, List.setIfInBounds_toArray, List.set_cons_zero, List.set_cons_succ]
    refine wpAnyK_pure 15 (v := ?kv15) rfl (by kernel_rfl) (by kernel_rfl) (by kernel_rfl) (by kernel_rfl) (fun _ _ _ h => h) (fun _ => sA) (yieldsIf_run (by rfl) ?ky15) ?kr15
    case ky15 => (intro w hSw; go_simp; all_goals with_reducible rfl)
    try simp only [Act.put, List.setIfInBounds_toArray, List.set_cons_zero, List.set_cons_succ]
    refine wpAnyK_pure 16 (v := ?kv16) rfl (by kernel_rfl) (by kernel_rfl) (by kernel_rfl) (by kernel_rfl) (fun _ _ _ h => h) (fun _ => sA) (yieldsIf_run (by rfl) ?ky16) ?kr16
    case ky16 => (intro w hSw; go_simp; all_goals with_reducible rfl)
    try simp only [Act.put, List.setIfInBounds_toArray, List.set_cons_zero, List.set_cons_succ]
    refine wpAnyK_take 17 (v := ?kv17) rfl (by kernel_rfl) (by kernel_rfl) (by kernel_rfl) (by kernel_rfl) (fun _ _ _ h => h) sA (yieldsIf_run (by rfl) ?ky17) ?kr17
    case ky17 => (intro w hSw; (try dsimp only at hSw); go_simp; all_goals with_reducible rfl)
    try simp only [Act.put, List.setIfInBounds_toArray, List.set_cons_zero, List.set_cons_succ]
    refine wpAnyK_free 18 (by kernel_rfl) rfl (by kernel_rfl) (fun K' hK => ?_)
    go_simp
    go_at_call 215
    (with_reducible refine HD.out.mono ?_)
    rintro e w2 ⟨B, m, d, qs, C, k, f, rs, rfl, hN, hNr, hq1, hm, hC, hCr, hCv, hB, hf1, hf2, hf3⟩
    have hZ2 := HZ.out.below (w' := w2) (below_trans' (bdrew1 w) hB)
    have hR2 := HR.out.below (w' := w2) (below_trans' (bdrew1 w) hB)
    have hb1 := hZ2.putAbs hN hNr (fun a ha => by have := hf1 a ha; have : w.drew.heap.size = w.heap.size := rfl; omega)
    have hb4 := hR2.putAbs hC hCr (fun a ha => by have := hf2 a ha; have : w.drew.heap.size = w.heap.size := rfl; omega)
    have kA := hZ2.ab
    have kB := hZ2.own.free 1
    have kC := hR2.ab
    have kD := hR2.own.free 1
    have hR3 := hR2.away ⟨b, 1, none⟩ (.slice B m d) (by simpa using h1) (by simp)
    have hZ3 := hZ2.away ⟨b4, 1, none⟩ (.slice C k f) (by simpa using h1.symm) (by simp)
    have kE := hR3.ab
    have kF := hR3.own.free 1
    have kG := hZ3.ab
    have kH := hZ3.own.free 1
    have F12 : Hid (BigR ((w2.setCell ⟨b, 1, none⟩ (.slice B m d)).setCell ⟨b4, 1, none⟩ (.slice C k f)) b 0 false B m d qs ∧ BigR ((w2.setCell ⟨b, 1, none⟩ (.slice B m d)).setCell ⟨b4, 1, none⟩ (.slice C k f)) b4 0 false C k f rs) :=
      ⟨hb1.away _ _ (by simpa using h1.symm) (fun a ha => by have := hf1 a ha; have : w.drew.heap.size = w.heap.size := rfl; show a.block ≠ b4; omega), hR3.putAbs (hC.grown (g' := b) (grown_set (grown_refl _ _) _ _) (fun a ha => by have := hf2 a ha; have : w.drew.heap.size = w.heap.size := rfl; omega)) hCr (fun a ha => by have := hf2 a ha; have : w.drew.heap.size = w.heap.size := rfl; omega)⟩
    have F21 : Hid (BigR ((w2.setCell ⟨b4, 1, none⟩ (.slice C k f)).setCell ⟨b, 1, none⟩ (.slice B m d)) b 0 false B m d qs ∧ BigR ((w2.setCell ⟨b4, 1, none⟩ (.slice C k f)).setCell ⟨b, 1, none⟩ (.slice B m d)) b4 0 false C k f rs) :=
      ⟨hZ3.putAbs (hN.grown (g' := b4) (grown_set (grown_refl _ _) _ _) (fun a ha => by have := hf1 a ha; have : w.drew.heap.size = w.heap.size := rfl; omega)) hNr (fun a ha => by have := hf1 a ha; have : w.drew.heap.size = w.heap.size := rfl; omega), hb4.away _ _ (by simpa using h1) (fun a ha => by have := hf2 a ha; have : w.drew.heap.size = w.heap.size := rfl; show a.block ≠ b; omega)⟩
    have HQ1 := Lib.hid hq1
    have HCV := Lib.hid hCv
    have HF1 := Lib.hid hf1
    have HF2 := Lib.hid hf2
    have U2 := Lib.hid (But2.of_below (b := b) (b4 := b4) (below_trans' (bdrew1 w) hB))
    have hxc := below_cell hB (show w.drew.cell? ⟨bx, ox, none⟩ = some (.bool nx) from x0)
    have hyc := below_cell hB (show w.drew.cell? ⟨b2, o2, none⟩ = some (.bool ny) from y0)
    clear hq1 hCv hf1 hf2 hf3 hN hNr hC hCr hb1 hb4 hZ2 hR2 hZ3 hR3
    go_wp2_with fail
    refine hK.out _ _ ?_
    clear hK K'
    try simp only [Act.put, List.setIfInBounds_toArray, List.set_cons_zero, List.set_cons_succ]
    refine wpAnyK_past 19 (v := ?kv19) rfl (by kernel_rfl) (by kernel_rfl) (by kernel_rfl) (by kernel_rfl) (by kernel_rfl) (fun _ _ _ h => h) (yieldsIf_run (by rfl) ?ky19) ?kr19
    case ky19 => (intro w hSw; go_simp; all_goals with_reducible rfl)
    try simp only [Act.put, List.setIfInBounds_toArray, List.set_cons_zero, List.set_cons_succ]
    refine wpAnyK_past 20 (v := ?kv20) rfl (by kernel_rfl) (by kernel_rfl) (by kernel_rfl) (by kernel_rfl) (by kernel_rfl) (fun _ _ _ h => h) (yieldsIf_run (by rfl) ?ky20) ?kr20
    case ky20 => (intro w hSw; go_simp; all_goals with_reducible rfl)
    try simp only [Act.put, List.setIfInBounds_toArray, List.set_cons_zero, List.set_cons_succ]
    refine wpAnyK_past 21 (v := ?kv21) rfl (by kernel_rfl) (by kernel_rfl) (by kernel_rfl) (by kernel_rfl) (by kernel_rfl) (fun _ _ _ h => h) (yieldsIf_run (by rfl) ?ky21) ?kr21
    case ky21 => (intro w hSw; go_simp; all_goals with_reducible rfl)
    try simp only [Act.put, List.setIfInBounds_toArray, List.set_cons_zero, List.set_cons_succ]
    refine wpAnyK_past 22 (v := ?kv22) rfl (by kernel_rfl) (by kernel_rfl) (by kernel_rfl) (by kernel_rfl) (by kernel_rfl) (fun _ _ _ h => h) (yieldsIf_run (by rfl) ?ky22) ?kr22
    case ky22 => (intro w hSw; go_simp; all_goals with_reducible rfl)
    try simp only [Act.put, List.setIfInBounds_toArray, List.set_cons_zero, List.set_cons_succ]
    refine wpAnyK_past 23 (v := ?kv23) rfl (by kernel_rfl) (by kernel_rfl) (by kernel_rfl) (by kernel_rfl) (by kernel_rfl) (fun _ _ _ h => h) (yieldsIf_run (by rfl) ?ky23) ?kr23
    case ky23 => (intro w hSw; go_simp; all_goals with_reducible rfl)
    try simp only [Act.put, List.setIfInBounds_toArray, List.set_cons_zero, List.set_cons_succ]
    refine wpAnyK_free 24 (by kernel_rfl) rfl (by kernel_rfl) (fun K' hK => ?_)
    go_simp
    refine hK.out _ _ ?_
    clear hK K'
    try simp only [Act.put, List.setIfInBounds_toArray, List.set_cons_zero, List.set_cons_succ]
    refine wpAnyK_past 25 (v := ?kv25) rfl (by kernel_rfl) (by kernel_rfl) (by kernel_rfl) (by kernel_rfl) (by kernel_rfl) (fun _ _ _ h => h) (yieldsIf_run (by rfl) ?ky25) ?kr25
    case ky25 => (intro w hSw; go_simp; all_goals with_reducible rfl)
    try simp only [Act.put, List.setIfInBounds_toArray, List.set_cons_zero, List.set_cons_succ]
    refine wpAnyK_past 26 (v := ?kv26) rfl (by kernel_rfl) (by kernel_rfl) (by kernel_rfl) (by kernel_rfl) (by kernel_rfl) (fun _ _ _ h => h) (yieldsIf_run (by rfl) ?ky26) ?kr26
    case ky26 => (intro w hSw; go_simp; all_goals with_reducible rfl)
    try simp only [Act.put, List.setIfInBounds_toArray, List.set_cons_zero, List.set_cons_succ]
    refine wpAnyK_free 27 (by kernel_rfl) rfl (by kernel_rfl) (fun K' hK => ?_)
    go_simp
    refine hK.out _ _ ?_
    clear hK K'
    try simp only [Act.put, List.setIfInBounds_toArray, List.set_cons_zero, List.set_cons_succ]
    refine wpAnyK_done (by kernel_rfl) ?_ _
    all_goals
      go_wp2_with fail
      go_meet
      first
      | exact ⟨B, m, d, qs, C, k, f, rs, F12.out.1, F12.out.2, HQ1.out, hm, HCV.out, (U2.out.set ⟨b, 1, none⟩ (.inl rfl) _).set ⟨b4, 1, none⟩ (.inr rfl) _, HF1.out, HF2.out, cell_setCell_ne (cell_setCell_ne hxc (by simpa using h2)) (by simpa using h4), cell_setCell_ne (cell_setCell_ne hyc (by simpa using h3)) (by simpa using h5)⟩
      | exact ⟨B, m, d, qs, C, k, f, rs, F21.out.1, F21.out.2, HQ1.out, hm, HCV.out, (U2.out.set ⟨b4, 1, none⟩ (.inr rfl) _).set ⟨b, 1, none⟩ (.inl rfl) _, HF1.out, HF2.out, cell_setCell_ne (cell_setCell_ne hxc (by simpa using h4)) (by simpa using h2), cell_setCell_ne (cell_setCell_ne hyc (by simpa using h5)) (by simpa using h3)⟩
  case rest =>
    obtain ⟨B, m, d, qs, C, k, f, rs, hQ, hS, hq1, hm, hv, hU, hf1, hf2, hxc, hyc⟩ := hcut
    clear z1 r1 x0 x1 y0 y1 HD HZ HR
    have hBne : ∀ a, B = some a → a.block ≠ b ∧ a.block ≠ b4 := fun a ha => by have := hf1.out a ha; omega
    have hCne : ∀ a, C = some a → a.block ≠ b ∧ a.block ≠ b4 := fun a ha => by have := hf2.out a ha; omega
    have fin : ∀ (vz vr : Bool) (W : World), But2 b b4 w W → BigR W b 0 vz B m d qs → BigR W b4 0 vr C k f rs → vz = (decide (0 < m) && (nx != ny)) → vr = (decide (0 < k) && nx) → QRP b b4 nx ny xs y w (.returned (.tuple #[.pointer (some ⟨b, 0, none⟩), .pointer (some ⟨b4, 0, none⟩)])) W :=
      fun vz vr W hu ha hb e1 e2 => ⟨B, m, d, qs, C, k, f, rs, rfl, by rw [← e1]; exact ha, by rw [← e2]; exact hb, hq1.out, hm, hv.out, hu, hf1.out, hf2.out⟩
    have FIN := Lib.hid fin
    obtain ⟨q, hq⟩ : ∃ q, (!(nx == ny)) = q := ⟨_, rfl⟩
    clear fin
    by_cases hm0 : m = 0
    · by_cases hk0 : k = 0
      · have g1 : decide ((0 : Int) < (m : Int)) = false := by simp; omega
        have g2 : decide ((0 : Int) < (k : Int)) = false := by simp; omega
        have gm : decide (0 < m) = false := by simp; omega
        have gk : decide (0 < k) = false := by simp; omega
        have e1 : false = (decide (0 < m) && (nx != ny)) := by rw [gm]; rfl
        have e2 : false = (decide (0 < k) && nx) := by rw [gk]; rfl
        have sA : wc.drew.cell? ⟨b, 1, none⟩ = some (.slice B m d) ∧ wc.drew.cell? ⟨b4, 1, none⟩ = some (.slice C k f) ∧ wc.drew.cell? ⟨bx, ox, none⟩ = some (.bool nx) ∧ wc.drew.cell? ⟨b2, o2, none⟩ = some (.bool ny) := ⟨hQ.ab, hS.ab, hxc, hyc⟩
        have hQd : BigR wc.drew b 0 false B m d qs := hQ.below (bdrew1 wc)
        have hSd : BigR wc.drew b4 0 false C k f rs := hS.below (bdrew1 wc)
        have hQ1 := hQd.putNeg (fun a ha => (hBne a ha).1) false
        have hS1 := hSd.away ⟨b, 0, none⟩ (.bool false) (by simpa using h1) (fun a ha => (hCne a ha).1)
        have hQ2 := hQd.away ⟨b4, 0, none⟩ (.bool false) (by simpa using h1.symm) (fun a ha => (hBne a ha).2)
        have hS2 := hSd.putNeg (fun a ha => (hCne a ha).2) false
        have hQ12 := hQ1.away ⟨b4, 0, none⟩ (.bool false) (by simpa using h1.symm) (fun a ha => (hBne a ha).2)
        have hS12 := hS1.putNeg (fun a ha => (hCne a ha).2) false
        have hQ21 := hQ2.putNeg (fun a ha => (hBne a ha).1) false
        have hS21 := hS2.away ⟨b, 0, none⟩ (.bool false) (by simpa using h1) (fun a ha => (hCne a ha).1)
        have sB : (wc.drew.setCell ⟨b, 0, none⟩ (.bool false)).cell? ⟨b, 1, none⟩ = some (.slice B m d) ∧ (wc.drew.setCell ⟨b, 0, none⟩ (.bool false)).cell? ⟨b4, 1, none⟩ = some (.slice C k f) ∧ (wc.drew.setCell ⟨b, 0, none⟩ (.bool false)).cell? ⟨bx, ox, none⟩ = some (.bool nx) ∧ (wc.drew.setCell ⟨b, 0, none⟩ (.bool false)).cell? ⟨b2, o2, none⟩ = some (.bool ny) := ⟨hQ1.ab, hS1.ab, cell_setCell_ne sA.2.2.1 (by simpa using h2), cell_setCell_ne sA.2.2.2 (by simpa using h3)⟩
        have sC : (wc.drew.setCell ⟨b4, 0, none⟩ (.bool false)).cell? ⟨b, 1, none⟩ = some (.slice B m d) ∧ (wc.drew.setCell ⟨b4, 0, none⟩ (.bool false)).cell? ⟨b4, 1, none⟩ = some (.slice C k f) ∧ (wc.drew.setCell ⟨b4, 0, none⟩ (.bool false)).cell? ⟨bx, ox, none⟩ = some (.bool nx) ∧ (wc.drew.setCell ⟨b4, 0, none⟩ (.bool false)).cell? ⟨b2, o2, none⟩ = some (.bool ny) := ⟨hQ2.ab, hS2.ab, cell_setCell_ne sA.2.2.1 (by simpa using h4), cell_setCell_ne sA.2.2.2 (by simpa using h5)⟩
        have sD : ((wc.drew.setCell ⟨b, 0, none⟩ (.bool false)).setCell ⟨b4, 0, none⟩ (.bool false)).cell? ⟨b, 1, none⟩ = some (.slice B m d) ∧ ((wc.drew.setCell ⟨b, 0, none⟩ (.bool false)).setCell ⟨b4, 0, none⟩ (.bool false)).cell? ⟨b4, 1, none⟩ = some (.slice C k f) ∧ ((wc.drew.setCell ⟨b, 0, none⟩ (.bool false)).setCell ⟨b4, 0, none⟩ (.bool false)).cell? ⟨bx, ox, none⟩ = some (.bool nx) ∧ ((wc.drew.setCell ⟨b, 0, none⟩ (.bool false)).setCell ⟨b4, 0, none⟩ (.bool false)).cell? ⟨b2, o2, none⟩ = some (.bool ny) := ⟨hQ12.ab, hS12.ab, cell_setCell_ne sB.2.2.1 (by simpa using h4), cell_setCell_ne sB.2.2.2 (by simpa using h5)⟩
        have sE : ((wc.drew.setCell ⟨b4, 0, none⟩ (.bool false)).setCell ⟨b, 0, none⟩ (.bool false)).cell? ⟨b, 1, none⟩ = some (.slice B m d) ∧ ((wc.drew.setCell ⟨b4, 0, none⟩ (.bool false)).setCell ⟨b, 0, none⟩ (.bool false)).cell? ⟨b4, 1, none⟩ = some (.slice C k f) ∧ ((wc.drew.setCell ⟨b4, 0, none⟩ (.bool false)).setCell ⟨b, 0, none⟩ (.bool false)).cell? ⟨bx, ox, none⟩ = some (.bool nx) ∧ ((wc.drew.setCell ⟨b4, 0, none⟩ (.bool false)).setCell ⟨b, 0, none⟩ (.bool false)).cell? ⟨b2, o2, none⟩ = some (.bool ny) := ⟨hQ21.ab, hS21.ab, cell_setCell_ne sC.2.2.1 (by simpa using h2), cell_setCell_ne sC.2.2.2 (by simpa using h3)⟩
        have kA := hQd.sg
        have kB := hQd.own.free 0
        have kC := hSd.sg
        have kD := hSd.own.free 0
        have kE := hS1.sg
        have kF := hS1.own.free 0
        have kG := hQ2.sg
        have kH := hQ2.own.free 0
        have R12 := Lib.hid (And.intro hQ12 hS12)
        have R21 := Lib.hid (And.intro hQ21 hS21)
        have U := Lib.hid hU.drew
        have E1 := Lib.hid e1
        have E2 := Lib.hid e2
        have kE' : (wc.setCell ⟨b, 0, none⟩ (.bool false)).drew.cell? ⟨b4, 0, none⟩ = _ := kE
        have kF' : (wc.setCell ⟨b, 0, none⟩ (.bool false)).drew.frozen? ⟨b4, 0, none⟩ = _ := kF
        have kG' : (wc.setCell ⟨b4, 0, none⟩ (.bool false)).drew.cell? ⟨b, 0, none⟩ = _ := kG
        have kH' : (wc.setCell ⟨b4, 0, none⟩ (.bool false)).drew.frozen? ⟨b, 0, none⟩ = _ := kH
        have gm' : (0 < m) = False := by simp; omega
        have gk' : (0 < k) = False := by simp; omega
        clear hQ hS hQd hSd hQ1 hS1 hQ2 hS2 hQ12 hS12 hQ21 hS21 hU hxc hyc gm gk e1 e2 hBne hCne
        go_upto_region 2 with (fail)
        obtain ⟨a1, a2, a3, a4⟩ := sA
        obtain ⟨a5, a6, a7, a8⟩ := sB
        obtain ⟨a9, a10, a11, a12⟩ := sC
        clear sD sE
        go_big_region
        all_goals
          go_wp2_with fail
          go_ret2
          first
          | exact FIN.out _ _ _ ((U.out.set ⟨b, 0, none⟩ (.inl rfl) _).set ⟨b4, 0, none⟩ (.inr rfl) _) R12.out.1 R12.out.2 E1.out E2.out
          | exact FIN.out _ _ _ ((U.out.set ⟨b4, 0, none⟩ (.inr rfl) _).set ⟨b, 0, none⟩ (.inl rfl) _) R21.out.1 R21.out.2 E1.out E2.out
      · have g1 : decide ((0 : Int) < (m : Int)) = false := by simp; omega
        have g2 : decide ((0 : Int) < (k : Int)) = true := by simp; omega
        have gm : decide (0 < m) = false := by simp; omega
        have gk : decide (0 < k) = true := by simp; omega
        have e1 : false = (decide (0 < m) && (nx != ny)) := by rw [gm]; rfl
        have e2 : nx = (decide (0 < k) && nx) := by rw [gk]; rfl
        have sA : wc.drew.cell? ⟨b, 1, none⟩ = some (.slice B m d) ∧ wc.drew.cell? ⟨b4, 1, none⟩ = some (.slice C k f) ∧ wc.drew.cell? ⟨bx, ox, none⟩ = some (.bool nx) ∧ wc.drew.cell? ⟨b2, o2, none⟩ = some (.bool ny) := ⟨hQ.ab, hS.ab, hxc, hyc⟩
        have hQd : BigR wc.drew b 0 false B m d qs := hQ.below (bdrew1 wc)
        have hSd : BigR wc.drew b4 0 false C k f rs := hS.below (bdrew1 wc)
        have hQ1 := hQd.putNeg (fun a ha => (hBne a ha).1) false
        have hS1 := hSd.away ⟨b, 0, none⟩ (.bool false) (by simpa using h1) (fun a ha => (hCne a ha).1)
        have hQ2 := hQd.away ⟨b4, 0, none⟩ (.bool nx) (by simpa using h1.symm) (fun a ha => (hBne a ha).2)
        have hS2 := hSd.putNeg (fun a ha => (hCne a ha).2) nx
        have hQ12 := hQ1.away ⟨b4, 0, none⟩ (.bool nx) (by simpa using h1.symm) (fun a ha => (hBne a ha).2)
        have hS12 := hS1.putNeg (fun a ha => (hCne a ha).2) nx
        have hQ21 := hQ2.putNeg (fun a ha => (hBne a ha).1) false
        have hS21 := hS2.away ⟨b, 0, none⟩ (.bool false) (by simpa using h1) (fun a ha => (hCne a ha).1)
        have sB : (wc.drew.setCell ⟨b, 0, none⟩ (.bool false)).cell? ⟨b, 1, none⟩ = some (.slice B m d) ∧ (wc.drew.setCell ⟨b, 0, none⟩ (.bool false)).cell? ⟨b4, 1, none⟩ = some (.slice C k f) ∧ (wc.drew.setCell ⟨b, 0, none⟩ (.bool false)).cell? ⟨bx, ox, none⟩ = some (.bool nx) ∧ (wc.drew.setCell ⟨b, 0, none⟩ (.bool false)).cell? ⟨b2, o2, none⟩ = some (.bool ny) := ⟨hQ1.ab, hS1.ab, cell_setCell_ne sA.2.2.1 (by simpa using h2), cell_setCell_ne sA.2.2.2 (by simpa using h3)⟩
        have sC : (wc.drew.setCell ⟨b4, 0, none⟩ (.bool nx)).cell? ⟨b, 1, none⟩ = some (.slice B m d) ∧ (wc.drew.setCell ⟨b4, 0, none⟩ (.bool nx)).cell? ⟨b4, 1, none⟩ = some (.slice C k f) ∧ (wc.drew.setCell ⟨b4, 0, none⟩ (.bool nx)).cell? ⟨bx, ox, none⟩ = some (.bool nx) ∧ (wc.drew.setCell ⟨b4, 0, none⟩ (.bool nx)).cell? ⟨b2, o2, none⟩ = some (.bool ny) := ⟨hQ2.ab, hS2.ab, cell_setCell_ne sA.2.2.1 (by simpa using h4), cell_setCell_ne sA.2.2.2 (by simpa using h5)⟩
        have sD : ((wc.drew.setCell ⟨b, 0, none⟩ (.bool false)).setCell ⟨b4, 0, none⟩ (.bool nx)).cell? ⟨b, 1, none⟩ = some (.slice B m d) ∧ ((wc.drew.setCell ⟨b, 0, none⟩ (.bool false)).setCell ⟨b4, 0, none⟩ (.bool nx)).cell? ⟨b4, 1, none⟩ = some (.slice C k f) ∧ ((wc.drew.setCell ⟨b, 0, none⟩ (.bool false)).setCell ⟨b4, 0, none⟩ (.bool nx)).cell? ⟨bx, ox, none⟩ = some (.bool nx) ∧ ((wc.drew.setCell ⟨b, 0, none⟩ (.bool false)).setCell ⟨b4, 0, none⟩ (.bool nx)).cell? ⟨b2, o2, none⟩ = some (.bool ny) := ⟨hQ12.ab, hS12.ab, cell_setCell_ne sB.2.2.1 (by simpa using h4), cell_setCell_ne sB.2.2.2 (by simpa using h5)⟩
        have sE : ((wc.drew.setCell ⟨b4, 0, none⟩ (.bool nx)).setCell ⟨b, 0, none⟩ (.bool false)).cell? ⟨b, 1, none⟩ = some (.slice B m d) ∧ ((wc.drew.setCell ⟨b4, 0, none⟩ (.bool nx)).setCell ⟨b, 0, none⟩ (.bool false)).cell? ⟨b4, 1, none⟩ = some (.slice C k f) ∧ ((wc.drew.setCell ⟨b4, 0, none⟩ (.bool nx)).setCell ⟨b, 0, none⟩ (.bool false)).cell? ⟨bx, ox, none⟩ = some (.bool nx) ∧ ((wc.drew.setCell ⟨b4, 0, none⟩ (.bool nx)).setCell ⟨b, 0, none⟩ (.bool false)).cell? ⟨b2, o2, none⟩ = some (.bool ny) := ⟨hQ21.ab, hS21.ab, cell_setCell_ne sC.2.2.1 (by simpa using h2), cell_setCell_ne sC.2.2.2 (by simpa using h3)⟩
        have kA := hQd.sg
        have kB := hQd.own.free 0
        have kC := hSd.sg
        have kD := hSd.own.free 0
        have kE := hS1.sg
        have kF := hS1.own.free 0
        have kG := hQ2.sg
        have kH := hQ2.own.free 0
        have R12 := Lib.hid (And.intro hQ12 hS12)
        have R21 := Lib.hid (And.intro hQ21 hS21)
        have U := Lib.hid hU.drew
        have E1 := Lib.hid e1
        have E2 := Lib.hid e2
        have kE' : (wc.setCell ⟨b, 0, none⟩ (.bool false)).drew.cell? ⟨b4, 0, none⟩ = _ := kE
        have kF' : (wc.setCell ⟨b, 0, none⟩ (.bool false)).drew.frozen? ⟨b4, 0, none⟩ = _ := kF
        have kG' : (wc.setCell ⟨b4, 0, none⟩ (.bool nx)).drew.cell? ⟨b, 0, none⟩ = _ := kG
        have kH' : (wc.setCell ⟨b4, 0, none⟩ (.bool nx)).drew.frozen? ⟨b, 0, none⟩ = _ := kH
        have gm' : (0 < m) = False := by simp; omega
        have gk' : (0 < k) = True := by simp; omega
        clear hQ hS hQd hSd hQ1 hS1 hQ2 hS2 hQ12 hS12 hQ21 hS21 hU hxc hyc gm gk e1 e2 hBne hCne
        go_upto_region 2 with (fail)
        obtain ⟨a1, a2, a3, a4⟩ := sA
        obtain ⟨a5, a6, a7, a8⟩ := sB
        obtain ⟨a9, a10, a11, a12⟩ := sC
        clear sD sE
        go_big_region
        all_goals
          go_wp2_with fail
          go_ret2
          first
          | exact FIN.out _ _ _ ((U.out.set ⟨b, 0, none⟩ (.inl rfl) _).set ⟨b4, 0, none⟩ (.inr rfl) _) R12.out.1 R12.out.2 E1.out E2.out
          | exact FIN.out _ _ _ ((U.out.set ⟨b4, 0, none⟩ (.inr rfl) _).set ⟨b, 0, none⟩ (.inl rfl) _) R21.out.1 R21.out.2 E1.out E2.out
    · by_cases hk0 : k = 0
      · have g1 : decide ((0 : Int) < (m : Int)) = true := by simp; omega
        have g2 : decide ((0 : Int) < (k : Int)) = false := by simp; omega
        have gm : decide (0 < m) = true := by simp; omega
        have gk : decide (0 < k) = false := by simp; omega
        have e1 : q = (decide (0 < m) && (nx != ny)) := by rw [gm]; exact hq.symm
        have e2 : false = (decide (0 < k) && nx) := by rw [gk]; rfl
        have sA : wc.drew.cell? ⟨b, 1, none⟩ = some (.slice B m d) ∧ wc.drew.cell? ⟨b4, 1, none⟩ = some (.slice C k f) ∧ wc.drew.cell? ⟨bx, ox, none⟩ = some (.bool nx) ∧ wc.drew.cell? ⟨b2, o2, none⟩ = some (.bool ny) := ⟨hQ.ab, hS.ab, hxc, hyc⟩
        have hQd : BigR wc.drew b 0 false B m d qs := hQ.below (bdrew1 wc)
        have hSd : BigR wc.drew b4 0 false C k f rs := hS.below (bdrew1 wc)
        have hQ1 := hQd.putNeg (fun a ha => (hBne a ha).1) q
        have hS1 := hSd.away ⟨b, 0, none⟩ (.bool q) (by simpa using h1) (fun a ha => (hCne a ha).1)
        have hQ2 := hQd.away ⟨b4, 0, none⟩ (.bool false) (by simpa using h1.symm) (fun a ha => (hBne a ha).2)
        have hS2 := hSd.putNeg (fun a ha => (hCne a ha).2) false
        have hQ12 := hQ1.away ⟨b4, 0, none⟩ (.bool false) (by simpa using h1.symm) (fun a ha => (hBne a ha).2)
        have hS12 := hS1.putNeg (fun a ha => (hCne a ha).2) false
        have hQ21 := hQ2.putNeg (fun a ha => (hBne a ha).1) q
        have hS21 := hS2.away ⟨b, 0, none⟩ (.bool q) (by simpa using h1) (fun a ha => (hCne a ha).1)
        have sB : (wc.drew.setCell ⟨b, 0, none⟩ (.bool q)).cell? ⟨b, 1, none⟩ = some (.slice B m d) ∧ (wc.drew.setCell ⟨b, 0, none⟩ (.bool q)).cell? ⟨b4, 1, none⟩ = some (.slice C k f) ∧ (wc.drew.setCell ⟨b, 0, none⟩ (.bool q)).cell? ⟨bx, ox, none⟩ = some (.bool nx) ∧ (wc.drew.setCell ⟨b, 0, none⟩ (.bool q)).cell? ⟨b2, o2, none⟩ = some (.bool ny) := ⟨hQ1.ab, hS1.ab, cell_setCell_ne sA.2.2.1 (by simpa using h2), cell_setCell_ne sA.2.2.2 (by simpa using h3)⟩
        have sC : (wc.drew.setCell ⟨b4, 0, none⟩ (.bool false)).cell? ⟨b, 1, none⟩ = some (.slice B m d) ∧ (wc.drew.setCell ⟨b4, 0, none⟩ (.bool false)).cell? ⟨b4, 1, none⟩ = some (.slice C k f) ∧ (wc.drew.setCell ⟨b4, 0, none⟩ (.bool false)).cell? ⟨bx, ox, none⟩ = some (.bool nx) ∧ (wc.drew.setCell ⟨b4, 0, none⟩ (.bool false)).cell? ⟨b2, o2, none⟩ = some (.bool ny) := ⟨hQ2.ab, hS2.ab, cell_setCell_ne sA.2.2.1 (by simpa using h4), cell_setCell_ne sA.2.2.2 (by simpa using h5)⟩
        have sD : ((wc.drew.setCell ⟨b, 0, none⟩ (.bool q)).setCell ⟨b4, 0, none⟩ (.bool false)).cell? ⟨b, 1, none⟩ = some (.slice B m d) ∧ ((wc.drew.setCell ⟨b, 0, none⟩ (.bool q)).setCell ⟨b4, 0, none⟩ (.bool false)).cell? ⟨b4, 1, none⟩ = some (.slice C k f) ∧ ((wc.drew.setCell ⟨b, 0, none⟩ (.bool q)).setCell ⟨b4, 0, none⟩ (.bool false)).cell? ⟨bx, ox, none⟩ = some (.bool nx) ∧ ((wc.drew.setCell ⟨b, 0, none⟩ (.bool q)).setCell ⟨b4, 0, none⟩ (.bool false)).cell? ⟨b2, o2, none⟩ = some (.bool ny) := ⟨hQ12.ab, hS12.ab, cell_setCell_ne sB.2.2.1 (by simpa using h4), cell_setCell_ne sB.2.2.2 (by simpa using h5)⟩
        have sE : ((wc.drew.setCell ⟨b4, 0, none⟩ (.bool false)).setCell ⟨b, 0, none⟩ (.bool q)).cell? ⟨b, 1, none⟩ = some (.slice B m d) ∧ ((wc.drew.setCell ⟨b4, 0, none⟩ (.bool false)).setCell ⟨b, 0, none⟩ (.bool q)).cell? ⟨b4, 1, none⟩ = some (.slice C k f) ∧ ((wc.drew.setCell ⟨b4, 0, none⟩ (.bool false)).setCell ⟨b, 0, none⟩ (.bool q)).cell? ⟨bx, ox, none⟩ = some (.bool nx) ∧ ((wc.drew.setCell ⟨b4, 0, none⟩ (.bool false)).setCell ⟨b, 0, none⟩ (.bool q)).cell? ⟨b2, o2, none⟩ = some (.bool ny) := ⟨hQ21.ab, hS21.ab, cell_setCell_ne sC.2.2.1 (by simpa using h2), cell_setCell_ne sC.2.2.2 (by simpa using h3)⟩
        have kA := hQd.sg
        have kB := hQd.own.free 0
        have kC := hSd.sg
        have kD := hSd.own.free 0
        have kE := hS1.sg
        have kF := hS1.own.free 0
        have kG := hQ2.sg
        have kH := hQ2.own.free 0
        have R12 := Lib.hid (And.intro hQ12 hS12)
        have R21 := Lib.hid (And.intro hQ21 hS21)
        have U := Lib.hid hU.drew
        have E1 := Lib.hid e1
        have E2 := Lib.hid e2
        have kE' : (wc.setCell ⟨b, 0, none⟩ (.bool q)).drew.cell? ⟨b4, 0, none⟩ = _ := kE
        have kF' : (wc.setCell ⟨b, 0, none⟩ (.bool q)).drew.frozen? ⟨b4, 0, none⟩ = _ := kF
        have kG' : (wc.setCell ⟨b4, 0, none⟩ (.bool false)).drew.cell? ⟨b, 0, none⟩ = _ := kG
        have kH' : (wc.setCell ⟨b4, 0, none⟩ (.bool false)).drew.frozen? ⟨b, 0, none⟩ = _ := kH
        have gm' : (0 < m) = True := by simp; omega
        have gk' : (0 < k) = False := by simp; omega
        clear hQ hS hQd hSd hQ1 hS1 hQ2 hS2 hQ12 hS12 hQ21 hS21 hU hxc hyc gm gk e1 e2 hBne hCne
        go_upto_region 2 with (fail)
        obtain ⟨a1, a2, a3, a4⟩ := sA
        obtain ⟨a5, a6, a7, a8⟩ := sB
        obtain ⟨a9, a10, a11, a12⟩ := sC
        clear sD sE
        go_big_region
        all_goals
          go_wp2_with fail
          go_ret2
          first
          | exact FIN.out _ _ _ ((U.out.set ⟨b, 0, none⟩ (.inl rfl) _).set ⟨b4, 0, none⟩ (.inr rfl) _) R12.out.1 R12.out.2 E1.out E2.out
          | exact FIN.out _ _ _ ((U.out.set ⟨b4, 0, none⟩ (.inr rfl) _).set ⟨b, 0, none⟩ (.inl rfl) _) R21.out.1 R21.out.2 E1.out E2.out
      · have g1 : decide ((0 : Int) < (m : Int)) = true := by simp; omega
        have g2 : decide ((0 : Int) < (k : Int)) = true := by simp; omega
        have gm : decide (0 < m) = true := by simp; omega
        have gk : decide (0 < k) = true := by simp; omega
        have e1 : q = (decide (0 < m) && (nx != ny)) := by rw [gm]; exact hq.symm
        have e2 : nx = (decide (0 < k) && nx) := by rw [gk]; rfl
        have sA : wc.drew.cell? ⟨b, 1, none⟩ = some (.slice B m d) ∧ wc.drew.cell? ⟨b4, 1, none⟩ = some (.slice C k f) ∧ wc.drew.cell? ⟨bx, ox, none⟩ = some (.bool nx) ∧ wc.drew.cell? ⟨b2, o2, none⟩ = some (.bool ny) := ⟨hQ.ab, hS.ab, hxc, hyc⟩
        have hQd : BigR wc.drew b 0 false B m d qs := hQ.below (bdrew1 wc)
        have hSd : BigR wc.drew b4 0 false C k f rs := hS.below (bdrew1 wc)
        have hQ1 := hQd.putNeg (fun a ha => (hBne a ha).1) q
        have hS1 := hSd.away ⟨b, 0, none⟩ (.bool q) (by simpa using h1) (fun a ha => (hCne a ha).1)
        have hQ2 := hQd.away ⟨b4, 0, none⟩ (.bool nx) (by simpa using h1.symm) (fun a ha => (hBne a ha).2)
        have hS2 := hSd.putNeg (fun a ha => (hCne a ha).2) nx
        have hQ12 := hQ1.away ⟨b4, 0, none⟩ (.bool nx) (by simpa using h1.symm) (fun a ha => (hBne a ha).2)
        have hS12 := hS1.putNeg (fun a ha => (hCne a ha).2) nx
        have hQ21 := hQ2.putNeg (fun a ha => (hBne a ha).1) q
        have hS21 := hS2.away ⟨b, 0, none⟩ (.bool q) (by simpa using h1) (fun a ha => (hCne a ha).1)
        have sB : (wc.drew.setCell ⟨b, 0, none⟩ (.bool q)).cell? ⟨b, 1, none⟩ = some (.slice B m d) ∧ (wc.drew.setCell ⟨b, 0, none⟩ (.bool q)).cell? ⟨b4, 1, none⟩ = some (.slice C k f) ∧ (wc.drew.setCell ⟨b, 0, none⟩ (.bool q)).cell? ⟨bx, ox, none⟩ = some (.bool nx) ∧ (wc.drew.setCell ⟨b, 0, none⟩ (.bool q)).cell? ⟨b2, o2, none⟩ = some (.bool ny) := ⟨hQ1.ab, hS1.ab, cell_setCell_ne sA.2.2.1 (by simpa using h2), cell_setCell_ne sA.2.2.2 (by simpa using h3)⟩
        have sC : (wc.drew.setCell ⟨b4, 0, none⟩ (.bool nx)).cell? ⟨b, 1, none⟩ = some (.slice B m d) ∧ (wc.drew.setCell ⟨b4, 0, none⟩ (.bool nx)).cell? ⟨b4, 1, none⟩ = some (.slice C k f) ∧ (wc.drew.setCell ⟨b4, 0, none⟩ (.bool nx)).cell? ⟨bx, ox, none⟩ = some (.bool nx) ∧ (wc.drew.setCell ⟨b4, 0, none⟩ (.bool nx)).cell? ⟨b2, o2, none⟩ = some (.bool ny) := ⟨hQ2.ab, hS2.ab, cell_setCell_ne sA.2.2.1 (by simpa using h4), cell_setCell_ne sA.2.2.2 (by simpa using h5)⟩
        have sD : ((wc.drew.setCell ⟨b, 0, none⟩ (.bool q)).setCell ⟨b4, 0, none⟩ (.bool nx)).cell? ⟨b, 1, none⟩ = some (.slice B m d) ∧ ((wc.drew.setCell ⟨b, 0, none⟩ (.bool q)).setCell ⟨b4, 0, none⟩ (.bool nx)).cell? ⟨b4, 1, none⟩ = some (.slice C k f) ∧ ((wc.drew.setCell ⟨b, 0, none⟩ (.bool q)).setCell ⟨b4, 0, none⟩ (.bool nx)).cell? ⟨bx, ox, none⟩ = some (.bool nx) ∧ ((wc.drew.setCell ⟨b, 0, none⟩ (.bool q)).setCell ⟨b4, 0, none⟩ (.bool nx)).cell? ⟨b2, o2, none⟩ = some (.bool ny) := ⟨hQ12.ab, hS12.ab, cell_setCell_ne sB.2.2.1 (by simpa using h4), cell_setCell_ne sB.2.2.2 (by simpa using h5)⟩
        have sE : ((wc.drew.setCell ⟨b4, 0, none⟩ (.bool nx)).setCell ⟨b, 0, none⟩ (.bool q)).cell? ⟨b, 1, none⟩ = some (.slice B m d) ∧ ((wc.drew.setCell ⟨b4, 0, none⟩ (.bool nx)).setCell ⟨b, 0, none⟩ (.bool q)).cell? ⟨b4, 1, none⟩ = some (.slice C k f) ∧ ((wc.drew.setCell ⟨b4, 0, none⟩ (.bool nx)).setCell ⟨b, 0, none⟩ (.bool q)).cell? ⟨bx, ox, none⟩ = some (.bool nx) ∧ ((wc.drew.setCell ⟨b4, 0, none⟩ (.bool nx)).setCell ⟨b, 0, none⟩ (.bool q)).cell? ⟨b2, o2, none⟩ = some (.bool ny) := ⟨hQ21.ab, hS21.ab, cell_setCell_ne sC.2.2.1 (by simpa using h2), cell_setCell_ne sC.2.2.2 (by simpa using h3)⟩
        have kA := hQd.sg
        have kB := hQd.own.free 0
        have kC := hSd.sg
        have kD := hSd.own.free 0
        have kE := hS1.sg
        have kF := hS1.own.free 0
        have kG := hQ2.sg
        have kH := hQ2.own.free 0
        have R12 := Lib.hid (And.intro hQ12 hS12)
        have R21 := Lib.hid (And.intro hQ21 hS21)
        have U := Lib.hid hU.drew
        have E1 := Lib.hid e1
        have E2 := Lib.hid e2
        have kE' : (wc.setCell ⟨b, 0, none⟩ (.bool q)).drew.cell? ⟨b4, 0, none⟩ = _ := kE
        have kF' : (wc.setCell ⟨b, 0, none⟩ (.bool q)).drew.frozen? ⟨b4, 0, none⟩ = _ := kF
        have kG' : (wc.setCell ⟨b4, 0, none⟩ (.bool nx)).drew.cell? ⟨b, 0, none⟩ = _ := kG
        have kH' : (wc.setCell ⟨b4, 0, none⟩ (.bool nx)).drew.frozen? ⟨b, 0, none⟩ = _ := kH
        have gm' : (0 < m) = True := by simp; omega
        have gk' : (0 < k) = True := by simp; omega
        clear hQ hS hQd hSd hQ1 hS1 hQ2 hS2 hQ12 hS12 hQ21 hS21 hU hxc hyc gm gk e1 e2 hBne hCne
        go_upto_region 2 with (fail)
        obtain ⟨a1, a2, a3, a4⟩ := sA
        obtain ⟨a5, a6, a7, a8⟩ := sB
        obtain ⟨a9, a10, a11, a12⟩ := sC
        clear sD sE
        go_big_region
        all_goals
          go_wp2_with fail
          go_ret2
          first
          | exact FIN.out _ _ _ ((U.out.set ⟨b, 0, none⟩ (.inl rfl) _).set ⟨b4, 0, none⟩ (.inr rfl) _) R12.out.1 R12.out.2 E1.out E2.out
          | exact FIN.out _ _ _ ((U.out.set ⟨b4, 0, none⟩ (.inr rfl) _).set ⟨b, 0, none⟩ (.inl rfl) _) R21.out.1 R21.out.2 E1.out E2.out
end Go.Proofs.YtpfihjkhgfoijaaGreatDoor

/- Trees of impl.Val, and how memory holds them; Appends to rows of the call's own: bytes; contracts of spec.cut, spec.Of, spec.IntVal; Contracts of spec.Of, spec.Num, spec.IntVal, spec.BoolVal, spec.TextVal, spec.Fl; Contracts of spec.IntVal, spec.BoolVal, spec.TextVal, spec.Fl; Contracts of spec.BoolVal, spec.TextVal, spec.Fl. -/
import Derived.Test.YtpfihjkhgfoijaaGreatDoorQ11
import Derived.Maps.AppendAt
import Derived.Laws.AppendOwnNone
import Derived.StillTailTactics
set_option linter.unusedVariables false
set_option linter.unusedSimpArgs false
set_option maxRecDepth 100000
namespace Go.Proofs.YtpfihjkhgfoijaaGreatDoor
open Go.RowKit

structure VT where
  kind : Int
  neg : Bool
  mag : List Nat
  bits : Nat
  text : ByteArray
  kids : List VT
instance : Inhabited VT := ⟨⟨0, false, [], 0, ⟨#[]⟩, []⟩⟩

/-- a set of blocks -/
abbrev BS := Nat → Prop
def blks (lo up : Nat) : BS := fun k => lo ≤ k ∧ k < up
/-- bytes in a block of S -/
structure ByteS (S : BS) (w : World) (A : Option Addr) (n c : Nat) (bs : List Nat) : Prop where
  r : ByteR w A n c bs
  b : n = 0 ∨ ∃ a, A = some a ∧ S a.block
theorem ByteS.agree {S : BS} {w W : World} {A : Option Addr} {n c : Nat} {bs : List Nat} (h : ByteS S w A n c bs) (hW : ∀ k, S k → W.heap[k]? = w.heap[k]?) : ByteS S W A n c bs :=
  ⟨⟨h.r.len, h.r.le, h.r.rng, by
    rcases h.r.cells with h0 | ⟨g, o, e, hc⟩
    · exact .inl h0
    · by_cases hn : n = 0
      · exact .inl hn
      · obtain ⟨a, ea, h1⟩ := h.b.resolve_left hn
        rw [e] at ea; cases ea
        exact .inr ⟨g, o, e, fun i hi => (World.cell?_of_block (hW g h1)).trans (hc i hi)⟩⟩, h.b⟩
theorem ByteS.mono {S S' : BS} {w : World} {A : Option Addr} {n c : Nat} {bs : List Nat} (h : ByteS S w A n c bs) (h1 : ∀ k, S k → S' k) : ByteS S' w A n c bs :=
  ⟨h.r, h.b.imp id fun ⟨a, e, k1⟩ => ⟨a, e, h1 _ k1⟩⟩
theorem ByteS.nil (S : BS) (w : World) : ByteS S w none 0 0 [] := ⟨⟨rfl, Nat.le_refl _, by simp, .inl rfl⟩, .inl rfl⟩
theorem cell_lt {w : World} {a : Addr} {v : Value} (h : w.cell? a = some v) : a.block < w.heap.size := World.block_lt_of_cell? w a h
/-- what rests upon blocks from N on lies in them -/
theorem ByteR.bound {N : Nat} {w : World} {A : Option Addr} {n c : Nat} {bs : List Nat} (h : Sits N (fun W => ByteR W A n c bs) w) : ByteS (blks N w.heap.size) w A n c bs := by
  refine ⟨h.out, ?_⟩
  by_cases hn : n = 0
  · exact .inl hn
  · right
    rcases h.out.cells with h0 | ⟨g, o, e, hc⟩
    · exact absurd h0 hn
    · have h1 := hc 0 (by omega)
      have hlt := cell_lt h1
      refine ⟨_, e, ?_, hlt⟩
      apply Classical.byContradiction
      intro hg
      have hg' : g < N := by simpa using hg
      have hW := h (w.setCell ⟨g, o + 0, none⟩ (.bool true)) (by simp [World.setCell]) (fun k h1 h2 => by
        have : g ≠ k := by omega
        simp only [World.setCell, Array.getElem?_modify, if_neg this])
      rcases hW.cells with h0 | ⟨g', o', e', hc'⟩
      · exact hn h0
      · rw [e] at e'; cases e'
        have h2 := hc' 0 (by omega)
        rw [cell_setCell_at h1] at h2
        simp at h2
/-- the slice K, m reads as the trees ts, each by P; its row is a block of S -/
def KidC (P : VT → Array Value → Prop) (S : BS) (w : World) (K : Option Addr) (m : Nat) (ts : List VT) : Prop :=
  ts.length = m ∧ (m = 0 ∨ ∃ g, K = some ⟨g, 0, none⟩ ∧ S g ∧ ∀ i, i < m → ∃ cs : Array Value, cs.size = 6 ∧ (∀ j, j < 6 → w.cell? ⟨g, i * 6 + j, none⟩ = cs[j]?) ∧ P (ts.getD i default) cs)
/-- the head of a tree -/
def VCh (P : VT → Array Value → Prop) (S : BS) (w : World) (t : VT) (cs : Array Value) : Prop :=
  ∃ A a c K m d, cs = #[.int .i64 t.kind, .bool t.neg, .slice A a c, .int .u64 (t.bits : Int), .string t.text, .slice K m d] ∧ ByteS S w A a c t.mag ∧ (A = none → a = 0 ∧ c = 0) ∧ m ≤ d ∧ KidC P S w K m t.kids
/-- the cells cs read as the tree t, of at most n levels of kids, all in blocks of S -/
def VC : Nat → BS → World → VT → Array Value → Prop
  | 0, S, w => VCh (fun _ _ => False) S w
  | n + 1, S, w => VCh (VC n S w) S w
def VCk : Nat → BS → World → VT → Array Value → Prop
  | 0, _, _ => fun _ _ => False
  | n + 1, S, w => VC n S w
theorem VC.head {n : Nat} {S : BS} {w : World} {t : VT} {cs : Array Value} (h : VC n S w t cs) : VCh (VCk n S w) S w t cs := by cases n <;> exact h
theorem VC.ofHead {n : Nat} {S : BS} {w : World} {t : VT} {cs : Array Value} (h : VCh (VCk n S w) S w t cs) : VC n S w t cs := by cases n <;> exact h
theorem KidC.agree {P Q : VT → Array Value → Prop} {S : BS} {w W : World} {K : Option Addr} {m : Nat} {ts : List VT} (h : KidC P S w K m ts) (hW : ∀ k, S k → W.heap[k]? = w.heap[k]?) (hPQ : ∀ t cs, P t cs → Q t cs) : KidC Q S W K m ts := by
  obtain ⟨hl, hk⟩ := h
  refine ⟨hl, ?_⟩
  rcases hk with h0 | ⟨g, eK, g1, hk⟩
  · exact .inl h0
  · refine .inr ⟨g, eK, g1, fun i hi => ?_⟩
    obtain ⟨cs', hs, hc, hP⟩ := hk i hi
    exact ⟨cs', hs, fun j hj => (World.cell?_of_block (hW g g1)).trans (hc j hj), hPQ _ _ hP⟩
theorem VCh.agree {P Q : VT → Array Value → Prop} {S : BS} {w W : World} {t : VT} {cs : Array Value} (h : VCh P S w t cs) (hW : ∀ k, S k → W.heap[k]? = w.heap[k]?) (hPQ : ∀ t cs, P t cs → Q t cs) : VCh Q S W t cs := by
  obtain ⟨A, a, c, K, m, d, e, hm, hA, hd, hk⟩ := h
  exact ⟨A, a, c, K, m, d, e, hm.agree hW, hA, hd, hk.agree hW hPQ⟩
theorem VC.agree {n : Nat} {S : BS} {w W : World} {t : VT} {cs : Array Value} (h : VC n S w t cs) (hW : ∀ k, S k → W.heap[k]? = w.heap[k]?) : VC n S W t cs := by
  induction n generalizing t cs with
  | zero => exact VCh.agree h hW fun _ _ h => h
  | succ n ih => exact VCh.agree h hW fun _ _ h => ih h
theorem VC.below {n N : Nat} {S : BS} {w w' : World} {t : VT} {cs : Array Value} (h : VC n S w t cs) (hb : Below N w w') (hN : ∀ k, S k → k < N) : VC n S w' t cs := h.agree fun k h1 => hb.block k (hN k h1)
theorem VC.grown {n g : Nat} {S : BS} {w w' : World} {t : VT} {cs : Array Value} (h : VC n S w t cs) (hb : w.grownBy w' (some g)) (hu : ∀ k, S k → k < w.heap.size) (hg : ¬ S g) : VC n S w' t cs :=
  h.agree fun k h1 => hb.block k (hu k h1) (by intro e; cases e; exact hg h1)
theorem VC.grownN {n : Nat} {S : BS} {w w' : World} {t : VT} {cs : Array Value} (h : VC n S w t cs) (hb : w.grownBy w' none) (hu : ∀ k, S k → k < w.heap.size) : VC n S w' t cs := h.agree fun k h1 => hb.block k (hu k h1) (by simp)
theorem KidC.mono {P Q : VT → Array Value → Prop} {S S' : BS} {w : World} {K : Option Addr} {m : Nat} {ts : List VT} (h : KidC P S w K m ts) (h1 : ∀ k, S k → S' k) (hPQ : ∀ t cs, P t cs → Q t cs) : KidC Q S' w K m ts := by
  obtain ⟨hl, hk⟩ := h
  refine ⟨hl, ?_⟩
  rcases hk with h0 | ⟨g, eK, g1, hk⟩
  · exact .inl h0
  · refine .inr ⟨g, eK, h1 _ g1, fun i hi => ?_⟩
    obtain ⟨cs', hs, hc, hP⟩ := hk i hi
    exact ⟨cs', hs, hc, hPQ _ _ hP⟩
theorem VCh.mono {P Q : VT → Array Value → Prop} {S S' : BS} {w : World} {t : VT} {cs : Array Value} (h : VCh P S w t cs) (h1 : ∀ k, S k → S' k) (hPQ : ∀ t cs, P t cs → Q t cs) : VCh Q S' w t cs := by
  obtain ⟨A, a, c, K, m, d, e, hm, hA, hd, hk⟩ := h
  exact ⟨A, a, c, K, m, d, e, hm.mono h1, hA, hd, hk.mono h1 hPQ⟩
theorem VC.mono {n : Nat} {S S' : BS} {w : World} {t : VT} {cs : Array Value} (h : VC n S w t cs) (h1 : ∀ k, S k → S' k) : VC n S' w t cs := by
  induction n generalizing t cs with
  | zero => exact VCh.mono h h1 fun _ _ h => h
  | succ n ih => exact VCh.mono h h1 fun _ _ h => ih h
theorem VC.succ {n : Nat} {S : BS} {w : World} {t : VT} {cs : Array Value} (h : VC n S w t cs) : VC (n + 1) S w t cs := by
  induction n generalizing t cs with
  | zero => exact VCh.mono h (fun _ h => h) fun _ _ h => h.elim
  | succ n ih => exact VCh.mono h (fun _ h => h) fun _ _ h => ih h
theorem VC.size {n : Nat} {S : BS} {w : World} {t : VT} {cs : Array Value} (h : VC n S w t cs) : cs.size = 6 := by
  obtain ⟨A, a, c, K, m, d, rfl, _⟩ := h.head
  rfl
theorem VC.kids0 {S : BS} {w : World} {t : VT} {cs : Array Value} (h : VC 0 S w t cs) : t.kids = [] := by
  obtain ⟨A, a, c, K, m, d, rfl, _, _, _, hl, h0 | ⟨g, _, _, h1⟩⟩ := h.head
  · exact List.eq_nil_of_length_eq_zero (hl.trans h0)
  · cases m with
    | zero => exact List.eq_nil_of_length_eq_zero hl
    | succ m => obtain ⟨_, _, _, h⟩ := h1 0 (by omega); exact h.elim

/-! ### what Clean makes -/
/-- a tree of at most n levels that Clean may make -/
def VT.ok : Nat → VT → Prop
  | n, t => (∀ b ∈ t.mag, b < 256) ∧ t.bits < 18446744073709551616 ∧
      ((t.kind = 0 ∧ t.neg = false ∧ t.mag = [] ∧ t.bits = 0 ∧ t.text = ⟨#[]⟩ ∧ t.kids = []) ∨
       (t.kind = 1 ∧ t.neg = false ∧ t.mag = [] ∧ t.bits ≤ 1 ∧ t.text = ⟨#[]⟩ ∧ t.kids = []) ∨
       (t.kind = 2 ∧ Cut t.mag ∧ t.mag.length ≤ 40 ∧ (t.neg = true → t.mag ≠ []) ∧ t.bits = 0 ∧ t.text = ⟨#[]⟩ ∧ t.kids = []) ∨
       (t.kind = 3 ∧ t.neg = false ∧ t.mag = [] ∧ t.text = ⟨#[]⟩ ∧ t.kids = []) ∨
       ((t.kind = 4 ∨ t.kind = 5) ∧ t.neg = false ∧ t.mag = [] ∧ t.bits = 0 ∧ t.text.size ≤ 60 ∧ t.kids = []) ∨
       (6 ≤ t.kind ∧ t.kind ≤ 9 ∧ t.neg = false ∧ t.mag = [] ∧ t.bits = 0 ∧ t.text = ⟨#[]⟩ ∧ t.kids.length ≤ (if t.kind = 9 then 8 else 16) ∧ (t.kind = 8 → t.kids.length % 2 = 0) ∧
         match n with
         | 0 => False
         | n + 1 => ∀ k ∈ t.kids, VT.ok n k))
/-- a tree that can be a key: a scalar, or a tuple of such -/
def VT.key : Nat → VT → Prop
  | n, t => (0 ≤ t.kind ∧ t.kind < 6) ∨ (t.kind = 7 ∧
      match n with
      | 0 => False
      | n + 1 => ∀ k ∈ t.kids, VT.key n k)
theorem VT.ok_lt {n : Nat} {t : VT} (h : VT.ok n t) (hk : t.kind < 6) : t.text.size ≤ 60 ∧ t.kids = [] ∧ 0 ≤ t.kind := by
  unfold VT.ok at h
  obtain ⟨_, _, h⟩ := h
  rcases h with ⟨h1, _, _, _, h2, h3⟩ | ⟨h1, _, _, _, h2, h3⟩ | ⟨h1, _, _, _, _, h2, h3⟩ | ⟨h1, _, _, h2, h3⟩ | ⟨h1, _, _, _, h2, h3⟩ | ⟨h1, _⟩
  · exact ⟨by rw [h2]; decide, h3, by omega⟩
  · exact ⟨by rw [h2]; decide, h3, by omega⟩
  · exact ⟨by rw [h2]; decide, h3, by omega⟩
  · exact ⟨by rw [h2]; decide, h3, by omega⟩
  · exact ⟨h2, h3, by omega⟩
  · omega
theorem VT.ok_ge {n : Nat} {t : VT} (h : VT.ok n t) (hk : 6 ≤ t.kind) : t.kind ≤ 9 ∧ t.kids.length ≤ 16 ∧ ∃ n', n = n' + 1 ∧ ∀ k ∈ t.kids, VT.ok n' k := by
  unfold VT.ok at h
  obtain ⟨_, _, h⟩ := h
  rcases h with ⟨h1, _⟩ | ⟨h1, _⟩ | ⟨h1, _⟩ | ⟨h1, _⟩ | ⟨h1, _⟩ | ⟨h1, h2, _, _, _, _, h3, _, h4⟩
  · omega
  · omega
  · omega
  · omega
  · omega
  · cases n with
    | zero => exact h4.elim
    | succ n => exact ⟨h2, by split at h3 <;> omega, n, rfl, h4⟩
end Go.Proofs.YtpfihjkhgfoijaaGreatDoor
namespace Go.Proofs.YtpfihjkhgfoijaaGreatDoor
open Go.RowKit

/-- bytes of a slice that came in: its address is whatever -/
structure ByteA (w : World) (A : Option Addr) (n c : Nat) (bs : List Nat) : Prop where
  len : bs.length = n
  le : n ≤ c
  rng : ∀ b ∈ bs, b < 256
  cells : (A = none ∧ n = 0 ∧ c = 0) ∨ ∃ a, A = some a ∧ ∀ i, i < n → w.cell? (a.add i) = some (.int .u8 (bs.getD i 0 : Nat))
theorem ByteA.below {w w' : World} {A : Option Addr} {n c : Nat} {bs : List Nat} (h : ByteA w A n c bs) (hb : Below w.heap.size w w') : ByteA w' A n c bs :=
  ⟨h.len, h.le, h.rng, by
    rcases h.cells with h1 | ⟨a, e, h1⟩
    · exact .inl h1
    · exact .inr ⟨a, e, fun i hi => below_cell hb (h1 i hi)⟩⟩
theorem add_off (g o i : Nat) : (⟨g, o, none⟩ : Addr).add i = ⟨g, o + i, none⟩ := by unfold Addr.add; split <;> simp_all
theorem add_add' (a : Addr) (i j : Nat) : (a.add i).add j = a.add (i + j) := by
  unfold Addr.add
  by_cases hi : i = 0 <;> by_cases hj : j = 0 <;> simp_all <;> omega

def bvs (bs : List Nat) : List Value := bs.map fun (x : Nat) => Value.int .u8 (x : Int)
theorem i5 : (Tryz.prog.info? 5).map (fun i => (i.zero, i.size, i.bytes)) = some (some (.int .u8 0), 1, 1) := info5
/-- append of bytes that lie anywhere to a row of the call's own -/
theorem app5 {w : World} {base : Nat} {v : Value} {n : Nat} {xs : List Value} (hown : w.ownsRow base 5 1 v n xs) (a : Addr) (m c : Nat) (bs : List Nat) (hl : bs.length = m)
    (hc : ∀ i, i < m → w.cell? (a.add i) = some (.int .u8 (bs.getD i 0 : Nat))) (hn : n + m ≤ 100000) (hbase : base ≤ w.heap.size) (ty : TypeId) :
    ∃ v' w', (Builtin.append_ #[32, 32] ty #[v, .slice (some a) m c]).run Tryz.prog w = .ok v' w' ∧ w'.ownsRow base 5 1 v' (n + m) (xs ++ bvs bs) ∧ w.grownBy w' v.ownBlock ∧ (v'.ownBlock = v.ownBlock ∨ v'.ownBlock = some w.heap.size) := by
  obtain ⟨i, hi, hz0, hz1, hz2⟩ := info_parts i5
  obtain ⟨v', w', h1, h2, h3, _, h5⟩ := run_append_own_at (P := Tryz.prog) w base 32 ty 5 i (.int .u8 0) 1 1 Tryz.underlying32 hi hz0 hz1 hz2 rfl (by omega) v n xs hown a m c (bvs bs) (by simp [bvs, hl]) (fun j u hu => by
      have hj : j < bs.length := by
        have := (List.getElem?_eq_some_iff.1 hu).1
        simpa [bvs] using this
      rw [hc j (by omega)]
      simp only [bvs, List.getElem?_map, List.getElem?_eq_getElem hj, Option.map_some] at hu
      rw [← hu, List.getD_eq_getElem?_getD, List.getElem?_eq_getElem hj]; rfl) (by
      intro u hu
      obtain ⟨x, _, rfl⟩ := List.mem_map.1 hu
      rfl) (by simp only [maxLen]; omega) (by omega) hbase
  exact ⟨v', w', h1, h2, h3, h5⟩
theorem own_bytes {w : World} {base : Nat} {v : Value} {n : Nat} {bs : List Nat} (h : w.ownsRow base 5 1 v n (bvs bs)) (hr : ∀ b ∈ bs, b < 256) :
    ∃ B c, v = .slice B n c ∧ Sits base (fun W => ByteR W B n c bs) w := by
  have hl : bs.length = n := by have := h.1; simpa [bvs] using this
  rcases h.2 with ⟨rfl, rfl⟩ | ⟨g, cap, cur, rfl, hb, hg, hnc, hcm, hcs, ht⟩
  · exact ⟨none, 0, rfl, fun W _ _ => ⟨hl, Nat.le_refl _, hr, .inl rfl⟩⟩
  · refine ⟨some ⟨g, 0, none⟩, cap, rfl, fun W _ hk => ⟨hl, hnc, hr, .inr ⟨g, 0, rfl, fun i hi => ?_⟩⟩⟩
    have hgl : g < w.heap.size := (Array.getElem?_eq_some_iff.1 hg).1
    have hW := (hk g hb hgl).trans hg
    rw [cell_of_row W g (0 + i) cur 5 (0, 0) hW, Nat.zero_add]
    have h1 : (cur.toList.take (n * 1))[i]? = (bvs bs)[i]? := by rw [ht]
    rw [List.getElem?_take, if_pos (by omega)] at h1
    rw [← Array.getElem?_toList, h1]
    simp [bvs, List.getD_eq_getElem?_getD, List.getElem?_eq_getElem (show i < bs.length by omega)]
theorem wpl_append {ops : Array Oper} {rest : List Oper} {o : Oper} {a : Act} {w : World} {Q : Exit → Act → World → Prop} (hgd : o.guard = none) (s x : Operand) (t : TypeId)
    (ho : o.op = .call { callee := .builtin .append, args := #[s, x], argTypes := #[t, t] }) (v xv v' : Value) (w' : World) (hs : a.eval s = v) (hx : a.eval x = xv)
    (hr : (Builtin.append_ #[t, t] o.type #[v, xv]).run Tryz.prog w = .ok v' w') (h : wpList Tryz.prog ops Q rest (a.put o.dst v') w') : wpList Tryz.prog ops Q (o :: rest) a w := by
  refine wpList_plain hgd fun K hK => ?_
  unfold Oper.wp execOp
  simp only [ho, resolve, invoke, builtin, Sem.run_bind, Sem.run_pure, Result.andThen_ok, List.map_toArray, List.map_cons, List.map_nil, hs, hx, hr]
  exact hK _ _ h
theorem cut_step {bs : List Nat} {i : Nat} (h : i < bs.length) (h0 : bs.getD i 0 = 0) : (bs.drop i).dropWhile (· == 0) = (bs.drop (i + 1)).dropWhile (· == 0) := by
  rw [drop_step bs i h, List.dropWhile_cons_of_pos (by simpa using h0)]
theorem cut_stop {bs : List Nat} {i : Nat} (h : i < bs.length) (h0 : bs.getD i 0 ≠ 0) : (bs.drop i).dropWhile (· == 0) = bs.drop i := by
  rw [drop_step bs i h, List.dropWhile_cons_of_neg (by simpa using h0)]
/-- without leading zeros -/
def cutL (bs : List Nat) : List Nat := bs.dropWhile (· == 0)
theorem cutL_cut (bs : List Nat) : Cut (cutL bs) := by
  unfold Cut cutL
  induction bs with
  | nil => exact .inl rfl
  | cons b bs ih =>
    by_cases hb : b = 0
    · rw [List.dropWhile_cons_of_pos (by simpa using hb)]; exact ih
    · rw [List.dropWhile_cons_of_neg (by simpa using hb)]; exact .inr (by simpa using hb)
theorem cutL_bval (bs : List Nat) : bval (cutL bs) = bval bs := by
  unfold cutL
  induction bs with
  | nil => rfl
  | cons b bs ih =>
    by_cases hb : b = 0
    · rw [List.dropWhile_cons_of_pos (by simpa using hb), ih, bval_cons, hb]; omega
    · rw [List.dropWhile_cons_of_neg (by simpa using hb)]
theorem cutL_mem {bs : List Nat} {b : Nat} (h : b ∈ cutL bs) : b ∈ bs := (List.dropWhile_sublist _).subset h
theorem cutL_len (bs : List Nat) : (cutL bs).length ≤ bs.length := (List.dropWhile_sublist _).length_le
set_option maxHeartbeats 1000000 in
theorem c84 (A : Option Addr) (n c : Nat) (bs : List Nat) (w : World) (h : ByteA w A n c bs) (hn : n ≤ 5000) :
    Calls Tryz.prog 84 #[.slice A n c] w fun e w' => ∃ B m d, e = .returned (.slice B m d) ∧ Sits w.heap.size (fun W => ByteR W B m d (cutL bs)) w' ∧ Below w.heap.size w w' := by
  have hl := Lib.hid h.len
  have hle := h.le
  have hr := Lib.hid h.rng
  have hcs := Lib.hid h.cells
  clear h
  go_enter Tryz.func84, Tryz.ntmps84
  go_wp2_with fail
  go_loop [3] (fun vi => ∃ i : Nat, i ≤ n ∧ vi = .int .i64 (i : Int) ∧ Hid ((bs.drop i).dropWhile (· == 0) = cutL bs)) (fun vi => n - (intOf vi).toNat)
  case atStart => exact ⟨0, by omega, rfl, rfl⟩
  case round =>
    obtain ⟨i, hi, rfl, hcut⟩ := hrel
    by_cases hlt : i < n
    · obtain ⟨a, rfl, hc⟩ := hcs.out.resolve_left (by rintro ⟨_, h, _⟩; omega)
      have hci := hc i hlt
      have HC := Lib.hid hc
      clear hc
      have q1 : (i : Int) < (n : Int) := by omega
      by_cases hz : bs.getD i 0 = 0
      · have hst := Lib.hid (cut_step (by rw [hl.out]; exact hlt) hz)
        rw [hz] at hci
        clear hz
        go_wp2_with fail
        go_round
        case rel => exact ⟨i + 1, by omega, by go_num, by show _ = _; rw [← hst.out, hcut.out]⟩
        case measure => simp [intOf]; omega
      · have hst := Lib.hid (cut_stop (by rw [hl.out]; exact hlt) hz)
        have q4 : (((bs.getD i 0 : Nat) : Int) == 0) = false := by rw [beq_eq_false_iff_ne]; omega
        generalize hx : bs.getD i 0 = X at *
        clear hx
        have hdl : (bs.drop i).length = n - i := by rw [List.length_drop, hl.out]
        have hb1 : Below w.heap.size w (w.alloc (.cells #[] 5)) := below_alloc' (Below.refl _ _) _
        obtain ⟨v', w', hrun, hown, hgr, hob⟩ := app5 (World.ownsRow_made (base := w.heap.size) (e := 5) (size := 1) w #[] 0 (Nat.le_refl _) (by simp [maxLen]) rfl) (a.add i) (n - i) (c - i) (bs.drop i) hdl
          (fun j hj => by rw [add_add', List.getD_eq_getElem?_getD, List.getElem?_drop, ← List.getD_eq_getElem?_getD]; exact below_cell hb1 (HC.out _ (by omega))) (by omega) (by rw [alloc_size]; omega) 32
        rw [List.nil_append, Nat.zero_add] at hown
        obtain ⟨B, d, rfl, hS⟩ := own_bytes hown (fun b hb => hr.out b (List.mem_of_mem_drop hb))
        have hB : Below w.heap.size w w' := below_grown' hb1 (g := w.heap.size) hgr (Nat.le_refl _)
        have he : bs.drop i = cutL bs := by rw [← hcut.out, hst.out]
        rw [he] at hS
        have HS := Lib.hid hS
        have HR := Lib.hid hrun
        clear hrun hown he hdl hst
        go_wp2_with (at_builtin; refine wpl_append rfl (.tmp 17) (.tmp 20) 32 rfl _ _ _ _ rfl rfl HR.out ?_)
        go_ret
        exact ⟨_, _, _, rfl, HS.out, hB⟩
    · have e : i = n := by omega
      subst e
      have hnil : cutL bs = [] := by rw [← hcut.out, List.drop_of_length_le (by rw [hl.out]; exact Nat.le_refl _)]; rfl
      have HN := Lib.hid hnil
      clear hnil
      have hb1 : Below w.heap.size w (w.alloc (.cells #[] 5)) := below_alloc' (Below.refl _ _) _
      have q1 : (i : Int) ≤ (c : Int) := by omega
      cases A with
      | none =>
        obtain ⟨hn0, hc0⟩ : i = 0 ∧ c = 0 := by
          rcases hcs.out with ⟨_, h⟩ | ⟨a, h, _⟩
          · exact h
          · cases h
        subst hn0
        subst hc0
        go_wp2_with fail
        go_ret
        exact ⟨_, _, _, rfl, fun W _ _ => by rw [HN.out]; exact ⟨rfl, Nat.le_refl _, by simp, .inl rfl⟩, hb1⟩
      | some a =>
        go_wp2_with fail
        all_goals
          go_ret
          exact ⟨_, _, _, rfl, fun W _ _ => by rw [HN.out]; exact ⟨rfl, Nat.le_refl _, by simp, .inl rfl⟩, hb1⟩
end Go.Proofs.YtpfihjkhgfoijaaGreatDoor
namespace Go.Proofs.YtpfihjkhgfoijaaGreatDoor
open Go.RowKit

theorem set2 {w : World} {g e : Nat} {x y : Value} (x' y' : Value) (h : RowB w g #[x, y] e) : RowB ((w.setCell ⟨g, 0, none⟩ x').setCell ⟨g, 1, none⟩ y') g #[x', y'] e :=
  (h.set 0 x' #[x', y] rfl).set 1 y' #[x', y'] rfl
theorem facts2 {w : World} {g e : Nat} {x y : Value} (x' : Value) (h : RowB w g #[x, y] e) : w.frozen? ⟨g, 0, none⟩ = false ∧ w.cell? ⟨g, 0, none⟩ = some x ∧ (w.setCell ⟨g, 0, none⟩ x').frozen? ⟨g, 1, none⟩ = false ∧ (w.setCell ⟨g, 0, none⟩ x').cell? ⟨g, 1, none⟩ = some y := by
  have h1 := h.set 0 x' #[x', y] rfl
  exact ⟨h.free 0, h.cell 0 _ rfl, h1.free 1, h1.cell 1 _ rfl⟩
theorem set2_grown (w : World) (g : Nat) (x' y' : Value) : w.grownBy ((w.setCell ⟨g, 0, none⟩ x').setCell ⟨g, 1, none⟩ y') (some g) := grown_set (grown_set (grown_refl _ _) _ _) _ _
theorem i92 : (Tryz.prog.info? 92).map (·.size) = some 2 := by kernel_rfl
set_option maxHeartbeats 1000000 in
theorem c39 (neg : Bool) (A : Option Addr) (n c : Nat) (bs : List Nat) (w : World) (h : ByteA w A n c bs) (hn : n ≤ 5000) :
    Calls Tryz.prog 39 #[.bool neg, .slice A n c] w fun e w' => ∃ B m d, e = .returned (.agg #[.bool (neg && decide (0 < (cutL bs).length)), .slice B m d]) ∧ Sits w.heap.size (fun W => ByteR W B m d (cutL bs)) w' ∧ Below w.heap.size w w' := by
  have b1 : Below w.heap.size w (w.alloc (.cells #[.bool false, .slice none 0 0] 92)) := below_alloc' (Below.refl _ _) _
  have r1 := RowB.new w #[.bool false, .slice none 0 0] 92
  have H := Lib.hid (c84 A n c bs _ (h.below b1) hn)
  have hsz := alloc_size w (.cells #[.bool false, .slice none 0 0] 92)
  clear h
  go_enter Tryz.func39, Tryz.ntmps39
  go_wp2_with fail
  refine H.out.mono ?_
  rintro e w2 ⟨B, m, d, rfl, hS, hB⟩
  have b2 := below_trans' b1 hB
  have r2 := r1.below hB
  have hl : (cutL bs).length = m := hS.out.len
  have HL := Lib.hid hl
  have HS := Lib.hid hS
  clear hl H hS
  have hm : ((m : Int) > 0) = (0 < m) := by simp
  have key : ∀ b : Bool, b = (neg && decide (0 < (cutL bs).length)) → ∀ W, W = (w2.setCell ⟨w.heap.size, 0, none⟩ (.bool b)).setCell ⟨w.heap.size, 1, none⟩ (.slice B m d) → RowB W w.heap.size #[.bool b, .slice B m d] 92 ∧ Sits w.heap.size (fun W => ByteR W B m d (cutL bs)) W ∧ Below w.heap.size w W := by
    rintro b rfl W rfl
    exact ⟨set2 _ _ r2, (HS.out.grown (set2_grown _ _ _ _) (by omega)).mono (by omega), below_grown' b2 (set2_grown _ _ _ _) (Nat.le_refl _)⟩
  cases neg
  · obtain ⟨f0, k0, f1, k1⟩ := facts2 (.bool false) r2
    go_wp2_with fail
    obtain ⟨h1, h2, h3⟩ := key false rfl _ rfl
    refine bodyPost_ret (ret_row h1 rfl _ _ rfl Tryz.underlying92 rfl i92) rfl ?_
    exact ⟨_, _, _, rfl, h2, h3⟩
  · by_cases h0 : 0 < m
    · obtain ⟨f0, k0, f1, k1⟩ := facts2 (.bool true) r2
      go_wp2_with fail
      obtain ⟨h1, h2, h3⟩ := key true (by rw [HL.out]; simp [h0]) _ rfl
      refine bodyPost_ret (ret_row h1 rfl _ _ rfl Tryz.underlying92 rfl i92) rfl ?_
      exact ⟨_, _, _, by rw [HL.out]; simp [h0], h2, h3⟩
    · obtain ⟨f0, k0, f1, k1⟩ := facts2 (.bool false) r2
      obtain rfl : m = 0 := by omega
      go_wp2_with fail
      obtain ⟨h1, h2, h3⟩ := key false (by rw [HL.out]; simp [h0]) _ rfl
      refine bodyPost_ret (ret_row h1 rfl _ _ rfl Tryz.underlying92 rfl i92) rfl ?_
      exact ⟨_, _, _, by rw [HL.out]; simp [h0], h2, h3⟩
theorem step_append {ops : Array Oper} {o : Oper} {a : Act} {w : World} {K : Act → World → Prop} {Q : Exit → Act → World → Prop} {E : Prop} (hgd : o.guard = none) (s x : Operand) (t : TypeId)
    (ho : o.op = .call { callee := .builtin .append, args := #[s, x], argTypes := #[t, t] }) (v xv v' : Value) (w' : World) (hs : a.eval s = v) (hx : a.eval x = xv)
    (hr : (Builtin.append_ #[t, t] o.type #[v, xv]).run Tryz.prog w = .ok v' w') (h : K (a.put o.dst v') w') :
    if Region.wanted o (yielded ops a.tmps) = true then Oper.wp Tryz.prog o a w K Q else E := by
  have hw : Region.wanted o (yielded ops a.tmps) = true := by simp [Region.wanted, hgd]
  rw [if_pos hw]
  unfold Oper.wp execOp
  simp only [ho, resolve, invoke, builtin, Sem.run_bind, Sem.run_pure, Result.andThen_ok, List.map_toArray, List.map_cons, List.map_nil, hs, hx, hr]
  exact h
theorem below_drew1 (w : World) : Below w.heap.size w w.drew := below_drew' (Below.refl _ _)
theorem ByteR.empty (w : World) (B : Option Addr) (d : Nat) : ByteR w B 0 d [] := ⟨rfl, by omega, by simp, .inl rfl⟩
/-- a copy of bytes: 'append([]byte{}, m...)', the empty row being the block made last -/
theorem copy5 (w : World) (A : Option Addr) (n c : Nat) (bs : List Nat) (h : ByteR w A n c bs) (hA : A = none → n = 0 ∧ c = 0) (hn : n ≤ 5000) (ty : TypeId) :
    ∃ B m d w', (Builtin.append_ #[32, 32] ty #[.slice (some ⟨w.heap.size, 0, none⟩) 0 0, .slice A n c]).run Tryz.prog (w.alloc (.cells #[] 5)) = .ok (.slice B m d) w' ∧ Sits w.heap.size (fun W => ByteR W B m d bs) w' ∧ Below w.heap.size w w' := by
  have hb1 : Below w.heap.size w (w.alloc (.cells #[] 5)) := below_alloc' (Below.refl _ _) _
  have hown := World.ownsRow_made (base := w.heap.size) (e := 5) (size := 1) w #[] 0 (Nat.le_refl _) (by simp [maxLen]) rfl
  cases A with
  | none =>
    obtain ⟨rfl, rfl⟩ := hA rfl
    obtain rfl : bs = [] := List.eq_nil_of_length_eq_zero h.len
    obtain ⟨i, hi, hz0, hz1, hz2⟩ := info_parts i5
    exact ⟨_, _, _, _, run_append_owned_none (w := w.alloc (.cells #[] 5)) w.heap.size 32 ty 5 i 1 Tryz.underlying32 hi _ 0 [] hown, fun W _ _ => ByteR.empty W _ _, hb1⟩
  | some a =>
    have hc : ∀ i, i < n → (w.alloc (.cells #[] 5)).cell? (a.add i) = some (.int .u8 (bs.getD i 0 : Nat)) := fun i hi => by
      rcases h.cells with h1 | ⟨g, o, e, h1⟩
      · omega
      · cases e; rw [add_off]; exact below_cell hb1 (h1 i hi)
    obtain ⟨v', w', hrun, hown, hgr, hob⟩ := app5 hown a n c bs h.len hc (by omega) (by rw [alloc_size]; omega) ty
    rw [List.nil_append, Nat.zero_add] at hown
    obtain ⟨B, d, rfl, hS⟩ := own_bytes hown h.rng
    exact ⟨B, n, d, w', hrun, hS, below_grown' hb1 (g := w.heap.size) hgr (Nat.le_refl _)⟩
set_option maxHeartbeats 1000000 in
theorem c79 (k : Int) (neg : Bool) (A : Option Addr) (n c : Nat) (u : Int) (t : ByteArray) (K : Option Addr) (m d : Nat) (bs : List Nat) (w : World) (h : ByteA w A n c bs) (hn : n ≤ 5000) :
    Calls Tryz.prog 79 #[.agg #[.int .i64 k, .bool neg, .slice A n c, .int .u64 u, .string t, .slice K m d]] w fun e w' => ∃ B m d, e = .returned (.agg #[.bool (neg && decide (0 < (cutL bs).length)), .slice B m d]) ∧ Sits w.heap.size (fun W => ByteR W B m d (cutL bs)) w' ∧ Below w.heap.size w w' := by
  obtain ⟨w1, hw1, b1, r0, r1, hsz⟩ : ∃ w1, ((w.alloc (.cells #[.int .i64 k, .bool neg, .slice A n c, .int .u64 u, .string t, .slice K m d] 36)).alloc (.cells #[.bool false, .slice none 0 0] 92)) = w1 ∧ Below w.heap.size w w1 ∧
      RowB w1 w.heap.size #[.int .i64 k, .bool neg, .slice A n c, .int .u64 u, .string t, .slice K m d] 36 ∧ RowB w1 (w.heap.size + 1) #[.bool false, .slice none 0 0] 92 ∧ w1.heap.size = w.heap.size + 1 + 1 :=
    ⟨_, rfl, below_alloc' (below_alloc' (Below.refl _ _) _) _, (RowB.new w _ _).alloc _, by
      have := RowB.new (w.alloc (.cells #[.int .i64 k, .bool neg, .slice A n c, .int .u64 u, .string t, .slice K m d] 36)) #[.bool false, .slice none 0 0] 92
      rw [alloc_size] at this; exact this, by rw [alloc_size, alloc_size]⟩
  have H := Lib.hid (c39 neg A n c bs w1 (h.below b1) hn)
  have k1 := r0.cell 1 _ rfl
  have k2 := r0.cell 2 _ rfl
  clear h
  go_enter Tryz.func79, Tryz.ntmps79
  go_wp2_with fail
  clear hw1
  refine H.out.mono ?_
  rintro e w2 ⟨B, q, d', rfl, hS, hB⟩
  have b2 := below_trans' b1 hB
  have r2 := r1.below hB
  have HS := Lib.hid hS
  clear hS
  generalize hng : (neg && decide (0 < (cutL bs).length)) = ng at *
  have HNG := Lib.hid hng
  clear hng
  obtain ⟨f0, g0, f1, g1⟩ := facts2 (.bool ng) r2
  have hr := Lib.hid (set2 (.bool ng) (.slice B q d') r2)
  go_wp2_with fail
  refine bodyPost_ret (ret_row hr.out rfl _ _ rfl Tryz.underlying92 rfl i92) rfl ?_
  exact ⟨_, _, _, by first | rfl | rw [HNG.out], (HS.out.grown (set2_grown _ _ _ _) (by omega)).mono (by omega), below_grown' b2 (set2_grown _ _ _ _) (by omega)⟩
end Go.Proofs.YtpfihjkhgfoijaaGreatDoor
namespace Go.Proofs.YtpfihjkhgfoijaaGreatDoor
open Go.RowKit

set_option maxHeartbeats 1000000 in
theorem c38 (neg : Bool) (A : Option Addr) (n c : Nat) (bs : List Nat) (w : World) (h : ByteR w A n c bs) (hA : A = none → n = 0 ∧ c = 0) (hn : n ≤ 5000) :
    Calls Tryz.prog 38 #[.agg #[.bool neg, .slice A n c]] w fun e w' => ∃ B m d, e = .returned (.agg #[.int .i64 2, .bool neg, .slice B m d, .int .u64 0, .string ⟨#[]⟩, .slice none 0 0]) ∧ Sits w.heap.size (fun W => ByteR W B m d bs) w' ∧ Below w.heap.size w w' := by
  obtain ⟨w1, hw1, b1, r0, r1, hsz⟩ : ∃ w1, ((w.alloc (.cells #[.bool neg, .slice A n c] 92)).alloc (.cells #[.int .i64 0, .bool false, .slice none 0 0, .int .u64 0, .string ⟨#[]⟩, .slice none 0 0] 36)) = w1 ∧ Below w.heap.size w w1 ∧
      RowB w1 w.heap.size #[.bool neg, .slice A n c] 92 ∧ RowB w1 (w.heap.size + 1) #[.int .i64 0, .bool false, .slice none 0 0, .int .u64 0, .string ⟨#[]⟩, .slice none 0 0] 36 ∧ w1.heap.size = w.heap.size + 1 + 1 :=
    ⟨_, rfl, below_alloc' (below_alloc' (Below.refl _ _) _) _, (RowB.new w _ _).alloc _, by
      have := RowB.new (w.alloc (.cells #[.bool neg, .slice A n c] 92)) #[.int .i64 0, .bool false, .slice none 0 0, .int .u64 0, .string ⟨#[]⟩, .slice none 0 0] 36
      rw [alloc_size] at this; exact this, by rw [alloc_size, alloc_size]⟩
  have ha := copy5 w1.drew A n c bs (h.below (below_trans' b1 (below_drew1 _))) hA hn
  rw [show w1.drew.heap.size = w.heap.size + 1 + 1 from hsz] at ha
  have HA := Lib.hid ha
  clear ha
  have hsd : w1.drew.heap.size = w.heap.size + 1 + 1 := hsz
  have k0 := r0.cell 0 _ rfl
  have k1 := r0.cell 1 _ rfl
  clear h
  go_enter Tryz.func38, Tryz.ntmps38
  go_wp2_with fail
  clear hw1
  go_region_law (first | (obtain ⟨B, m, d, w2, hrun, hS, hB⟩ := HA.out 32; rw [← hsd] at hB; have r2 := Lib.hid (r1.drew.below hB); have e0 := below_cell (w := w1.drew) hB k0; have e1 := below_cell (w := w1.drew) hB k1; obtain ⟨f0, g0, f1, g1, f2, g2, f3, g3, f4, g4, f5, g5⟩ := facts36 r2.out (.int .i64 2) (.bool neg) (.slice B m d) (.int .u64 0) (.string ⟨#[]⟩); have HS := Lib.hid hS; clear hS; refine step_append rfl (.tmp 5) (.tmp 7) 32 rfl _ _ _ _ rfl rfl hrun ?_))
  all_goals
    have b2 := below_trans' (below_trans' b1 (below_drew1 _)) hB
    go_wp2_with fail
    refine bodyPost_ret (ret_row (set36 _ _ _ _ _ _ r2.out) rfl _ _ rfl Tryz.underlying36 rfl i36) rfl ?_
    exact ⟨_, _, _, rfl, (HS.out.grown (set36_grown _ _ _ _ _ _ _ _) (by omega)).mono (by omega), below_grown' b2 (set36_grown _ _ _ _ _ _ _ _) (by omega)⟩
end Go.Proofs.YtpfihjkhgfoijaaGreatDoor
namespace Go.Proofs.YtpfihjkhgfoijaaGreatDoor
open Go.RowKit

def zero36 : Array Value := #[.int .i64 0, .bool false, .slice none 0 0, .int .u64 0, .string ⟨#[]⟩, .slice none 0 0]
set_option maxHeartbeats 1000000 in
theorem c37 (b : Bool) (w : World) : Calls Tryz.prog 37 #[.bool b] w fun e w' => e = .returned (.agg #[.int .i64 1, .bool false, .slice none 0 0, .int .u64 (if b then 1 else 0), .string ⟨#[]⟩, .slice none 0 0]) ∧ Below w.heap.size w w' := by
  cases b
  all_goals
    go_enter Tryz.func37, Tryz.ntmps37
    go_wp2_with fail
    refine bodyPost_ret (ret_row (RowB.new w _ _) rfl _ _ rfl Tryz.underlying36 rfl i36) rfl ?_
    exact ⟨rfl, below_alloc' (Below.refl _ _) _⟩
set_option maxHeartbeats 1000000 in
theorem c20 (s : ByteArray) (w : World) : Calls Tryz.prog 20 #[.string s] w fun e w' => e = .returned (.agg #[.int .i64 4, .bool false, .slice none 0 0, .int .u64 0, .string s, .slice none 0 0]) ∧ Below w.heap.size w w' := by
  go_enter Tryz.func20, Tryz.ntmps20
  go_wp2_with fail
  refine bodyPost_ret (ret_row (RowB.new w _ _) rfl _ _ rfl Tryz.underlying36 rfl i36) rfl ?_
  exact ⟨rfl, below_alloc' (Below.refl _ _) _⟩
theorem r109 (u : Nat) (w : World) : (callFunc 109 #[.int .u64 (u : Int)]).run Tryz.prog w = .ok (.value (.float .f64 u)) w := by
  rw [run_callFunc_extern Tryz.func109 (by kernel_rfl) (by kernel_rfl) (by kernel_rfl) (e := Extern.MathFloatBits.float64frombits) (by kernel_rfl)]
  rfl
theorem r102 (u : Nat) (w : World) : (callFunc 102 #[.float .f64 u]).run Tryz.prog w = .ok (.value (.int .u64 (u : Int))) w := by
  rw [run_callFunc_extern Tryz.func102 (by kernel_rfl) (by kernel_rfl) (by kernel_rfl) (e := Extern.MathFloatBits.float64bits) (by kernel_rfl)]
  rfl
set_option maxHeartbeats 1000000 in
theorem c82 (k : Int) (neg : Bool) (A : Option Addr) (n c : Nat) (u : Nat) (t : ByteArray) (K : Option Addr) (m d : Nat) (w : World) (hu : u < 18446744073709551616) :
    Calls Tryz.prog 82 #[.agg #[.int .i64 k, .bool neg, .slice A n c, .int .u64 u, .string t, .slice K m d]] w fun e w' => e = .returned (.float .f64 u) ∧ Below w.heap.size w w' := by
  have hr := fun W => r109 u W
  go_enter Tryz.func82, Tryz.ntmps82
  go_wp2_with fail
  go_ret
  exact ⟨rfl, below_alloc' (Below.refl _ _) _⟩
end Go.Proofs.YtpfihjkhgfoijaaGreatDoor

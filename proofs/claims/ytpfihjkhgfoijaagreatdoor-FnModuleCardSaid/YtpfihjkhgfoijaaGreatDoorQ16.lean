/- How starlark's values stand for trees; Rows of starlark's values under construction; Contracts of small doors of starlark: the types' names, hashes of scalars, threeway, comparisons of scalars; Contracts of starlark's ints as keys: bigInt, signum64, Hash, Cmp; Contract of starlark's Int.Cmp. -/
import Derived.Test.YtpfihjkhgfoijaaGreatDoorQ12
import Derived.Test.YtpfihjkhgfoijaaGreatDoorQ13
import Derived.Test.YtpfihjkhgfoijaaGreatDoorQ09
import Derived.Outline
import Derived.Test.YtpfihjkhgfoijaaGreatDoorQ14
import Derived.Test.YtpfihjkhgfoijaaGreatDoorQ05
import Derived.Test.YtpfihjkhgfoijaaGreatDoorQ01
import Derived.Test.YtpfihjkhgfoijaaGreatDoorQ15
set_option linter.unusedVariables false
set_option linter.unusedSimpArgs false
set_option maxRecDepth 100000
namespace Go.Proofs.YtpfihjkhgfoijaaGreatDoor
open Go.RowKit

/-- the slice K, m reads as starlark's values of the trees ts (each by P) -/
def ElR (P : VT → Value → Prop) (w : World) (K : Option Addr) (m : Nat) (ts : List VT) : Prop :=
  ts.length = m ∧ (m = 0 ∨ ∃ g, K = some ⟨g, 0, none⟩ ∧ ∀ i, i < m → ∃ v, w.cell? ⟨g, i, none⟩ = some v ∧ P (ts.getD i default) v)
abbrev noneV : Value := .iface 121 (.int .u8 0)
/-- the value v stands for the tree t; its parts do by P -/
inductive SVh (P : VT → Value → Prop) (w : World) (t : VT) : Value → Prop
  | none (h : t.kind = 0) : SVh P w t (.iface 121 (.int .u8 0))
  | bool (h : t.kind = 1) : SVh P w t (.iface 77 (.bool (t.bits == 1)))
  | int (x : Value) (h : t.kind = 2) (hx : IntV w (bz t.neg t.mag) x) : SVh P w t (.iface 126 x)
  | float (h : t.kind = 3) : SVh P w t (.iface 129 (.float .f64 t.bits))
  | string (h : t.kind = 4) : SVh P w t (.iface 131 (.string t.text))
  | bytes (h : t.kind = 5) : SVh P w t (.iface 132 (.string t.text))
  | list (b : Nat) (K : Option Addr) (m d : Nat) (h : t.kind = 6) (hc : BlkF w b 3 (fun i => if i = 0 then .slice K m d else if i = 1 then .bool false else .int .u32 0)) (hb : ∀ g, K = some g → g.block ≠ b) (hd : m ≤ d) (hk : ElR P w K m t.kids) : SVh P w t (.iface 112 (.pointer (some ⟨b, 0, none⟩)))
  | tuple (K : Option Addr) (m d : Nat) (h : t.kind = 7) (hd : m ≤ d) (hk : ElR P w K m t.kids) : SVh P w t (.iface 114 (.slice K m d))
  | dict (b : Nat) (ini : Bool) (L : List (Nat × Value × Value)) (h : t.kind = 8) (hL : HtR w b ini 0 L) (hl : t.kids.length = 2 * L.length) (hk : ∀ j k, L[j]? = some k → P (t.kids.getD (2 * j) default) k.2.1 ∧ P (t.kids.getD (2 * j + 1) default) k.2.2) : SVh P w t (.iface 115 (.pointer (some ⟨b, 0, none⟩)))
  | set (b : Nat) (ini : Bool) (L : List (Nat × Value × Value)) (h : t.kind = 9) (hL : HtR w b ini 0 L) (hl : t.kids.length = L.length) (hk : ∀ j k, L[j]? = some k → P (t.kids.getD j default) k.2.1) : SVh P w t (.iface 118 (.pointer (some ⟨b, 0, none⟩)))
/-- the value v stands for the tree t, of at most n levels -/
def SVp : Nat → World → VT → Value → Prop
  | 0, w => SVh (fun _ _ => False) w
  | n + 1, w => SVh (SVp n w) w
def SVk : Nat → World → VT → Value → Prop
  | 0, _ => fun _ _ => False
  | n + 1, w => SVp n w
theorem SVp.head {n : Nat} {w : World} {t : VT} {v : Value} (h : SVp n w t v) : SVh (SVk n w) w t v := by cases n <;> exact h
theorem SVp.ofHead {n : Nat} {w : World} {t : VT} {v : Value} (h : SVh (SVk n w) w t v) : SVp n w t v := by cases n <;> exact h
theorem ElR.below {P Q : VT → Value → Prop} {w w' : World} {K : Option Addr} {m : Nat} {ts : List VT} (h : ElR P w K m ts) (hb : Below w.heap.size w w') (hPQ : ∀ t v, P t v → Q t v) : ElR Q w' K m ts := by
  obtain ⟨hl, h0 | ⟨g, e, hk⟩⟩ := h
  · exact ⟨hl, .inl h0⟩
  · exact ⟨hl, .inr ⟨g, e, fun i hi => by obtain ⟨v, h1, h2⟩ := hk i hi; exact ⟨v, below_cell hb h1, hPQ _ _ h2⟩⟩⟩
theorem SVh.below {P Q : VT → Value → Prop} {w w' : World} {t : VT} {v : Value} (h : SVh P w t v) (hb : Below w.heap.size w w') (hPQ : ∀ t v, P t v → Q t v) : SVh Q w' t v := by
  cases h with
  | none h => exact .none h
  | bool h => exact .bool h
  | int x h hx => exact .int x h (hx.below hb)
  | float h => exact .float h
  | string h => exact .string h
  | bytes h => exact .bytes h
  | list b K m d h hc hg hd hk => exact .list b K m d h (hc.below (by omega) hb) hg hd (hk.below hb hPQ)
  | tuple K m d h hd hk => exact .tuple K m d h hd (hk.below hb hPQ)
  | dict b ini L h hL hl hk => exact .dict b ini L h (hL.below hb) hl fun j k e => ⟨hPQ _ _ (hk j k e).1, hPQ _ _ (hk j k e).2⟩
  | set b ini L h hL hl hk => exact .set b ini L h (hL.below hb) hl fun j k e => hPQ _ _ (hk j k e)
theorem SVp.below {n : Nat} {w w' : World} {t : VT} {v : Value} (h : SVp n w t v) (hb : Below w.heap.size w w') : SVp n w' t v := by
  induction n generalizing t v with
  | zero => exact SVh.below h hb fun _ _ h => h
  | succ n ih => exact SVh.below h hb fun _ _ h => ih h
theorem SVh.shape {P : VT → Value → Prop} {w : World} {t : VT} {v : Value} (h : SVh P w t v) : ∃ T x, v = .iface T x := by
  cases h <;> exact ⟨_, _, rfl⟩
theorem SVp.shape {n : Nat} {w : World} {t : VT} {v : Value} (h : SVp n w t v) : ∃ T x, v = .iface T x := h.head.shape
/-- a value with no parts stands for its tree at any level -/
theorem SVh.flat {P Q : VT → Value → Prop} {w : World} {t : VT} {v : Value} (h : SVh P w t v) (hk : t.kind < 6) : SVh Q w t v := by
  cases h with
  | none h => exact .none h
  | bool h => exact .bool h
  | int x h hx => exact .int x h hx
  | float h => exact .float h
  | string h => exact .string h
  | bytes h => exact .bytes h
  | list b K m d h hc hg hd hk => omega
  | tuple K m d h hd hk => omega
  | dict b ini L h hL hl hk => omega
  | set b ini L h hL hl hk => omega
theorem SVp.kind {n : Nat} {w : World} {t : VT} {v : Value} (h : SVp n w t v) : 0 ≤ t.kind ∧ t.kind ≤ 9 := by
  cases h.head <;> omega
/-- the blocks from N on that hold a value also do when older ones change -/
theorem SVp.sits_below {n N : Nat} {w w' : World} {t : VT} {v : Value} (h : Sits N (fun W => SVp n W t v) w) (hb : Below w.heap.size w w') : Sits N (fun W => SVp n W t v) w' := h.below hb
end Go.Proofs.YtpfihjkhgfoijaaGreatDoor
namespace Go.Proofs.YtpfihjkhgfoijaaGreatDoor
open Go.RowKit

/-- P holds of w and rests upon the blocks of S only -/
def Rest (S : BS) (P : World → Prop) (w : World) : Prop := ∀ W, w.heap.size ≤ W.heap.size → (∀ k, S k → W.heap[k]? = w.heap[k]?) → P W
theorem Rest.out {S : BS} {P : World → Prop} {w : World} (h : Rest S P w) : P w := h w (Nat.le_refl _) fun _ _ => rfl
theorem Rest.below {S : BS} {P : World → Prop} {w w' : World} (h : Rest S P w) (hb : Below w.heap.size w w') (hS : ∀ k, S k → k < w.heap.size) : Rest S P w' :=
  fun W h1 h2 => h W (Nat.le_trans hb.size h1) fun k hk => (h2 k hk).trans (hb.block k (hS k hk))
theorem Rest.grown {S : BS} {P : World → Prop} {w w' : World} {o : Option Nat} (h : Rest S P w) (hb : w.grownBy w' o) (hS : ∀ k, S k → k < w.heap.size) (ho : ∀ g, o = some g → ¬ S g) : Rest S P w' :=
  fun W h1 h2 => h W (Nat.le_trans hb.size h1) fun k hk => (h2 k hk).trans (hb.block k (hS k hk) (by intro e; exact ho k e.symm hk))
theorem Rest.mono {S T : BS} {P : World → Prop} {w : World} (h : Rest S P w) (hT : ∀ k, S k → T k) : Rest T P w := fun W h1 h2 => h W h1 fun k hk => h2 k (hT k hk)
theorem Sits.rest {N : Nat} {P : World → Prop} {w : World} (h : Sits N P w) : Rest (blks N w.heap.size) P w := fun W h1 h2 => h W h1 fun k h3 h4 => h2 k ⟨h3, h4⟩
theorem Rest.sits {S : BS} {N : Nat} {P : World → Prop} {w : World} (h : Rest S P w) (hS : ∀ k, S k → N ≤ k ∧ k < w.heap.size) : Sits N P w := fun W h1 h2 => h W h1 fun k hk => h2 k (hS k hk).1 (hS k hk).2
/-- what Below keeps rests on all blocks -/
theorem SVp.rest {n : Nat} {w : World} {t : VT} {v : Value} (h : SVp n w t v) (S : BS) (hS : ∀ k, k < w.heap.size → S k) (hos : True) : ∀ W, Below w.heap.size w W → SVp n W t v := fun W hW => h.below hW

theorem info71 : (Tryz.prog.info? 71).map (fun i => (i.zero, i.size, i.bytes)) = some (some .nilIface, 1, 16) := by kernel_rfl
/-- append of values that lie anywhere to a row of the call's own -/
theorem app71 {w : World} {base : Nat} {v : Value} {n : Nat} {xs : List Value} (hown : w.ownsRow base 71 1 v n xs) (a : Addr) (m c : Nat) (news : List Value) (hl : news.length = m)
    (hc : ∀ (j : Nat) u, news[j]? = some u → w.cell? (a.add j) = some u) (h1 : ∀ u ∈ news, u.oneCell' = true) (hn : n + m ≤ 1000) (hbase : base ≤ w.heap.size) (ty : TypeId) :
    ∃ v' w', (Builtin.append_ #[109, 109] ty #[v, .slice (some a) m c]).run Tryz.prog w = .ok v' w' ∧ w'.ownsRow base 71 1 v' (n + m) (xs ++ news) ∧ w.grownBy w' v.ownBlock ∧ (v'.ownBlock = v.ownBlock ∨ v'.ownBlock = some w.heap.size) := by
  obtain ⟨i, hi, hz0, hz1, hz2⟩ := info_parts info71
  obtain ⟨v', w', k1, k2, k3, _, k5⟩ := run_append_own_at (P := Tryz.prog) w base 109 ty 71 i .nilIface 1 16 Tryz.underlying109 hi hz0 hz1 hz2 rfl (by omega) v n xs hown a m c news (by simpa using hl) hc h1 (by simp only [maxLen]; omega) (by omega) hbase
  exact ⟨v', w', k1, k2, k3, k5⟩
/-- the slice value v, of m values that stand for the trees ts, in a row of the call's own (blocks from base on); the values lie in blocks of R -/
structure VRow (n base : Nat) (R : BS) (w : World) (v : Value) (m : Nat) (ts : List VT) : Prop where mk ::
  out : ∃ xs : List Value, w.ownsRow base 71 1 v m xs ∧ xs.length = m ∧ ts.length = m ∧
    ∀ i, i < m → ∃ S : BS, (∀ g, v.ownBlock = some g → ¬ S g) ∧ (∀ k, S k → k < w.heap.size ∧ R k) ∧ Rest S (fun W => SVp n W (ts.getD i default) (xs.getD i .nilIface)) w
theorem VRow.nil (n base : Nat) (R : BS) (w : World) : VRow n base R w (.slice none 0 0) 0 [] :=
  ⟨[], World.ownsRow_nil w base 71 1, rfl, rfl, fun i hi => by omega⟩
theorem VRow.made (n base : Nat) (R : BS) (w : World) (cur : Array Value) (cap : Nat) (hb : base ≤ w.heap.size) (hm : cap ≤ 1000) (hs : cur.size = cap) : VRow n base R (w.alloc (.cells cur 71)) (.slice (some ⟨w.heap.size, 0, none⟩) 0 cap) 0 [] :=
  ⟨[], World.ownsRow_made (base := base) (e := 71) (size := 1) w cur cap hb (by simp only [maxLen]; omega) (by omega), rfl, rfl, fun i hi => by omega⟩
theorem VRow.len {R : BS} {n base m : Nat} {w : World} {v : Value} {ts : List VT} (h : VRow n base R w v m ts) : ts.length = m := by
  obtain ⟨_, _, _, h, _⟩ := h.out; exact h
theorem VRow.block {R : BS} {n base m : Nat} {w : World} {v : Value} {ts : List VT} (h : VRow n base R w v m ts) (g : Nat) (hg : v.ownBlock = some g) : base ≤ g ∧ g < w.heap.size := by
  obtain ⟨_, h, _⟩ := h.out; exact h.lt g hg
theorem VRow.below {R : BS} {n base m : Nat} {w w' : World} {v : Value} {ts : List VT} (h : VRow n base R w v m ts) (hb : Below w.heap.size w w') : VRow n base R w' v m ts := by
  obtain ⟨xs, ho, h1, h2, hk⟩ := h.out
  refine ⟨xs, ho.kept (grown_of_below' hb none) (by cases v.ownBlock <;> simp), h1, h2, fun i hi => ?_⟩
  obtain ⟨S, k2, k3, k4⟩ := hk i hi
  exact ⟨S, k2, fun k hk => ⟨Nat.lt_of_lt_of_le (k3 k hk).1 hb.size, (k3 k hk).2⟩, k4.below hb fun k hk => (k3 k hk).1⟩
theorem VRow.grown {R : BS} {n base m g : Nat} {w w' : World} {v : Value} {ts : List VT} (h : VRow n base R w v m ts) (hb : w.grownBy w' (some g)) (hg : g < base) (hR : ¬ R g) : VRow n base R w' v m ts := by
  have hbl := h.block
  obtain ⟨xs, ho, h1, h2, hk⟩ := h.out
  refine ⟨xs, ho.kept hb ?_, h1, h2, fun i hi => ?_⟩
  · cases hv : v.ownBlock with
    | none => simp
    | some x => right; have := (hbl x hv).1; simp; omega
  · obtain ⟨S, k2, k3, k4⟩ := hk i hi
    exact ⟨S, k2, fun k hk => ⟨Nat.lt_of_lt_of_le (k3 k hk).1 hb.size, (k3 k hk).2⟩, k4.grown hb (fun k hk => (k3 k hk).1) fun x e h => by cases e; exact hR (k3 g h).2⟩
theorem VRow.drew {R : BS} {n base m : Nat} {w : World} {v : Value} {ts : List VT} (h : VRow n base R w v m ts) : VRow n base R w.drew v m ts := h.below (below_drew1 w)
theorem VRow.shape {R : BS} {n base m : Nat} {w : World} {v : Value} {ts : List VT} (h : VRow n base R w v m ts) : ∃ K d, v = .slice K m d ∧ m ≤ d ∧ d ≤ maxLen ∧ (K = none ∨ ∃ g, K = some ⟨g, 0, none⟩ ∧ v.ownBlock = some g) := by
  obtain ⟨xs, ⟨_, ho⟩, _⟩ := h.out
  rcases ho with ⟨rfl, rfl⟩ | ⟨g, cap, cur, rfl, _, _, h1, h2, _⟩
  · exact ⟨none, 0, rfl, by omega, by simp [maxLen], .inl rfl⟩
  · exact ⟨_, cap, rfl, h1, h2, .inr ⟨g, rfl, rfl⟩⟩
/-- what is under construction, read -/
theorem VRow.get {R : BS} {n base m : Nat} {w : World} {K : Option Addr} {d : Nat} {ts : List VT} (h : VRow n base R w (.slice K m d) m ts) : ElR (SVp n w) w K m ts := by
  obtain ⟨xs, ho, h1, h2, hk⟩ := h.out
  rcases ho.2 with ⟨e, rfl⟩ | ⟨g, cap, cur, e, hb, hg, _, _, hcs, ht⟩
  · cases e; exact ⟨h2, .inl rfl⟩
  · cases e
    refine ⟨h2, .inr ⟨g, rfl, fun i hi => ?_⟩⟩
    obtain ⟨S, k2, k3, k4⟩ := hk i hi
    refine ⟨xs.getD i .nilIface, ?_, k4.out⟩
    rw [cell_of_row w g i cur 71 (0, 0) hg, ← Array.getElem?_toList]
    have h3 : (cur.toList.take (m * 1))[i]? = xs[i]? := by rw [ht]
    rw [List.getElem?_take, if_pos (by omega)] at h3
    rw [h3, List.getD_eq_getElem?_getD, List.getElem?_eq_getElem (by omega)]; rfl
theorem VRow.sits {R : BS} {n base m : Nat} {w : World} {K : Option Addr} {d : Nat} {ts : List VT} (h : VRow n base R w (.slice K m d) m ts) (hR : ∀ k, R k → base ≤ k) : Sits base (fun W => ElR (SVp n W) W K m ts) w := by
  obtain ⟨xs, ho, h1, h2, hk⟩ := h.out
  rcases ho.2 with ⟨e, rfl⟩ | ⟨g, cap, cur, e, hb, hg, _, _, hcs, ht⟩
  · cases e; exact fun W _ _ => ⟨h2, .inl rfl⟩
  · cases e
    intro W hs hW
    refine ⟨h2, .inr ⟨g, rfl, fun i hi => ?_⟩⟩
    obtain ⟨S, k2, k3, k4⟩ := hk i hi
    refine ⟨xs.getD i .nilIface, ?_, k4 W hs fun k hk => hW k (hR k (k3 k hk).2) (k3 k hk).1⟩
    have hgl : g < w.heap.size := (Array.getElem?_eq_some_iff.1 hg).1
    rw [cell_of_row W g i cur 71 (0, 0) ((hW g hb hgl).trans hg), ← Array.getElem?_toList]
    have h3 : (cur.toList.take (m * 1))[i]? = xs[i]? := by rw [ht]
    rw [List.getElem?_take, if_pos (by omega)] at h3
    rw [h3, List.getD_eq_getElem?_getD, List.getElem?_eq_getElem (by omega)]; rfl
/-- append of one value, whose cell is the block made last -/
theorem app71v {R : BS} {n base m : Nat} {w : World} {v : Value} {ts : List VT} (h : VRow n base R w v m ts) (t : VT) (x : Value) (S : BS) (hS : ∀ k, S k → k < w.heap.size ∧ R k) (hI : Rest S (fun W => SVp n W t x) w)
    (hg : ∀ g, v.ownBlock = some g → ¬ S g) (hm : m ≤ 500) (hbase : base ≤ w.heap.size) (ty : TypeId) :
    ∃ v' w', (Builtin.append_ #[109, 109] ty #[v, .slice (some ⟨w.heap.size, 0, none⟩) 1 1]).run Tryz.prog (w.alloc (.cells #[x] 71)) = .ok v' w' ∧ VRow n base R w' v' (m + 1) (ts ++ [t]) ∧ (w.alloc (.cells #[x] 71)).grownBy w' v.ownBlock := by
  have hbl := h.block
  obtain ⟨xs, ho, h1, h2, hk⟩ := h.out
  have hb1 : Below w.heap.size w (w.alloc (.cells #[x] 71)) := below_alloc' (Below.refl _ _) _
  obtain ⟨T, y, rfl⟩ := hI.out.shape
  obtain ⟨v', w', hr, hown, hgr, hob⟩ := app71 (ho.alloc (.cells #[.iface T y] 71)) ⟨w.heap.size, 0, none⟩ 1 1 [.iface T y] rfl (fun j u hu => by rw [add_at]; exact (RowB.new w #[.iface T y] 71).cell j u (by simpa using hu)) (by simp [Value.oneCell']) (by omega) (by rw [alloc_size]; omega) ty
  refine ⟨v', w', hr, ⟨xs ++ [.iface T y], hown, by simp [h1], by simp [h2], fun i hi => ?_⟩, hgr⟩
  have hown' : ∀ g, v'.ownBlock = some g → v.ownBlock = some g ∨ g = w.heap.size + 1 := by
    intro g hg'
    rcases hob with e | e
    · exact .inl (by rw [← e]; exact hg')
    · rw [e, alloc_size] at hg'; cases hg'; exact .inr rfl
  have hszw : w.heap.size ≤ w'.heap.size := Nat.le_trans (by rw [alloc_size]; omega) hgr.size
  have new : ∀ (t : VT) (c : Value) (S : BS), (∀ k, S k → k < w.heap.size ∧ R k) → Rest S (fun W => SVp n W t c) w → (∀ g, v.ownBlock = some g → ¬ S g) →
      ∃ S : BS, (∀ g, v'.ownBlock = some g → ¬ S g) ∧ (∀ k, S k → k < w'.heap.size ∧ R k) ∧ Rest S (fun W => SVp n W t c) w' := by
    intro t c S hS hI hg
    have hI' := hI.below hb1 fun k hk => (hS k hk).1
    refine ⟨S, fun g hg' => ?_, fun k hk => ⟨Nat.lt_of_lt_of_le (hS k hk).1 hszw, (hS k hk).2⟩, hI'.grown hgr (fun k hk => by rw [alloc_size]; have := (hS k hk).1; omega) hg⟩
    rcases hown' g hg' with e | e
    · exact hg g e
    · intro hc; have := (hS g hc).1; omega
  by_cases him : i < m
  · obtain ⟨S', k2, k3, k4⟩ := hk i him
    have e1 : (ts ++ [t]).getD i default = ts.getD i default := by rw [List.getD_eq_getElem?_getD, List.getD_eq_getElem?_getD, List.getElem?_append_left (by omega)]
    have e2 : (xs ++ [Value.iface T y]).getD i .nilIface = xs.getD i .nilIface := by rw [List.getD_eq_getElem?_getD, List.getD_eq_getElem?_getD, List.getElem?_append_left (by omega)]
    rw [e1, e2]
    exact new _ _ S' k3 k4 k2
  · have e : i = m := by omega
    subst e
    have e1 : (ts ++ [t]).getD i default = t := by rw [List.getD_eq_getElem?_getD, List.getElem?_append_right (by omega)]; simp [h2]
    have e2 : (xs ++ [Value.iface T y]).getD i .nilIface = .iface T y := by rw [List.getD_eq_getElem?_getD, List.getElem?_append_right (by omega)]; simp [h1]
    rw [e1, e2]
    exact new _ _ S hS hI hg
end Go.Proofs.YtpfihjkhgfoijaaGreatDoor
namespace Go.Proofs.YtpfihjkhgfoijaaGreatDoor
open Go.RowKit

theorem c302 (v : Value) (w : World) : Calls Tryz.prog 302 #[v] w fun e w' => e = .returned (.string ⟨#[98, 111, 111, 108]⟩) ∧ Below w.heap.size w w' := by
  go_enter Tryz.func302, Tryz.ntmps302
  go_wp2_with fail
  go_ret
  exact ⟨rfl, Below.refl _ _⟩
theorem c319 (v : Value) (w : World) : Calls Tryz.prog 319 #[v] w fun e w' => e = .returned (.string ⟨#[116, 117, 112, 108, 101]⟩) ∧ Below w.heap.size w w' := by
  go_enter Tryz.func319, Tryz.ntmps319
  go_wp2_with fail
  go_ret
  exact ⟨rfl, Below.refl _ _⟩
theorem c349 (v : Value) (w : World) : Calls Tryz.prog 349 #[v] w fun e w' => e = .returned (.string ⟨#[78, 111, 110, 101, 84, 121, 112, 101]⟩) ∧ Below w.heap.size w w' := by
  go_enter Tryz.func349, Tryz.ntmps349
  go_wp2_with fail
  go_ret
  exact ⟨rfl, Below.refl _ _⟩
theorem c356 (i : Int) (p : Option Addr) (w : World) : Calls Tryz.prog 356 #[.agg #[.int .i64 i, .pointer p]] w fun e w' => e = .returned (.string ⟨#[105, 110, 116]⟩) ∧ Below w.heap.size w w' := by
  go_enter Tryz.func356, Tryz.ntmps356
  go_wp2_with fail
  go_ret
  exact ⟨rfl, below_alloc' (Below.refl _ _) _⟩
theorem c365 (v : Value) (w : World) : Calls Tryz.prog 365 #[v] w fun e w' => e = .returned (.string ⟨#[102, 108, 111, 97, 116]⟩) ∧ Below w.heap.size w w' := by
  go_enter Tryz.func365, Tryz.ntmps365
  go_wp2_with fail
  go_ret
  exact ⟨rfl, Below.refl _ _⟩
theorem c377 (v : Value) (w : World) : Calls Tryz.prog 377 #[v] w fun e w' => e = .returned (.string ⟨#[115, 116, 114, 105, 110, 103]⟩) ∧ Below w.heap.size w w' := by
  go_enter Tryz.func377, Tryz.ntmps377
  go_wp2_with fail
  go_ret
  exact ⟨rfl, Below.refl _ _⟩
theorem c388 (v : Value) (w : World) : Calls Tryz.prog 388 #[v] w fun e w' => e = .returned (.string ⟨#[98, 121, 116, 101, 115]⟩) ∧ Below w.heap.size w w' := by
  go_enter Tryz.func388, Tryz.ntmps388
  go_wp2_with fail
  go_ret
  exact ⟨rfl, Below.refl _ _⟩
/-- what is asked of a hash -/
def HashP (w : World) (e : Ending) (w' : World) : Prop := ∃ hh : Nat, hh < 4294967296 ∧ e = .returned (.tuple #[.int .u32 hh, .nilIface]) ∧ Below w.heap.size w w'
theorem c346 (v : Value) (w : World) : Calls Tryz.prog 346 #[v] w (HashP w) := by
  go_enter Tryz.func346, Tryz.ntmps346
  go_wp2_with fail
  go_ret2
  exact ⟨0, by omega, rfl, Below.refl _ _⟩
theorem c303 (b : Bool) (w : World) : Calls Tryz.prog 303 #[.bool b] w fun e w' => e = .returned (.int .i64 (if b then 1 else 0)) ∧ w = w' := by
  cases b
  all_goals
    go_enter Tryz.func303, Tryz.ntmps303
    go_wp2_with fail
    go_ret
    exact ⟨rfl, rfl⟩
theorem c299 (b : Bool) (w : World) : Calls Tryz.prog 299 #[.bool b] w (HashP w) := by
  cases b
  all_goals
    have H := Lib.hid (fun b W => c303 b W)
    go_enter Tryz.func299, Tryz.ntmps299
    go_wp2_with fail
    refine (H.out _ _).mono ?_
    rintro e w1 ⟨rfl, rfl⟩
    go_wp2_with fail
    go_ret2
    first | exact ⟨0, by omega, rfl, Below.refl _ _⟩ | exact ⟨1, by omega, rfl, Below.refl _ _⟩
theorem u32_rng (z : Int) : 0 ≤ IntKind.u32.wrap z ∧ IntKind.u32.wrap z < 4294967296 := by rw [IntKind.wrap_u32]; omega
theorem c381 (t : ByteArray) (ht : t.size ≤ 1000) (w : World) : Calls Tryz.prog 381 #[.string t] w fun e w' => ∃ z : Int, 0 ≤ z ∧ z < 4294967296 ∧ e = .returned (.int .u32 z) ∧ w = w' := by
  go_enter Tryz.func381, Tryz.ntmps381
  go_wp2_with fail
  go_loop [3, 4] (fun v3 v4 => ∃ (z : Int) (i : Nat), 0 ≤ z ∧ z < 4294967296 ∧ i ≤ t.size ∧ v3 = .int .u32 z ∧ v4 = .int .i64 (i : Int)) (fun _ v4 => t.size - (intOf v4).toNat)
  case atStart => exact ⟨2166136261, 0, by omega, by omega, by omega, rfl, rfl⟩
  case round =>
    obtain ⟨z, i, hz, hz2, hi, rfl, rfl⟩ := hrel
    by_cases hlt : i < t.size
    · have q1 : (i : Int) < (t.size : Int) := by omega
      go_wp2_with fail
      go_round
      case rel => exact ⟨_, i + 1, (u32_rng _).1, (u32_rng _).2, by omega, rfl, by go_num⟩
      case measure => simp [intOf]; omega
    · have q1 : ¬ (i : Int) < (t.size : Int) := by omega
      go_wp2_with fail
      go_ret
      exact ⟨z, hz, hz2, rfl, rfl⟩
theorem c379 (t : ByteArray) (ht : t.size ≤ 1000) (w : World) : Calls Tryz.prog 379 #[.string t] w fun e w' => ∃ z : Int, 0 ≤ z ∧ z < 4294967296 ∧ e = .returned (.int .u32 z) ∧ w = w' := by
  have H := Lib.hid (fun W => c381 t ht W)
  go_enter Tryz.func379, Tryz.ntmps379
  go_wp2_with fail
  refine (H.out _).mono ?_
  rintro e w1 ⟨z, hz, hz2, rfl, rfl⟩
  go_wp2_with fail
  go_ret
  exact ⟨z, hz, hz2, rfl, rfl⟩
theorem c374 (t : ByteArray) (ht : t.size ≤ 1000) (w : World) : Calls Tryz.prog 374 #[.string t] w fun e w' => ∃ z : Int, 0 ≤ z ∧ z < 4294967296 ∧ e = .returned (.tuple #[.int .u32 z, .nilIface]) ∧ w = w' := by
  have H := Lib.hid (fun W => c379 t ht W)
  go_enter Tryz.func374, Tryz.ntmps374
  go_wp2_with fail
  refine (H.out _).mono ?_
  rintro e w1 ⟨z, hz, hz2, rfl, rfl⟩
  go_wp2_with fail
  go_ret2
  exact ⟨z, hz, hz2, rfl, rfl⟩
theorem c374h (t : ByteArray) (ht : t.size ≤ 1000) (w : World) : Calls Tryz.prog 374 #[.string t] w (HashP w) := by
  refine (c374 t ht w).mono ?_
  rintro e w1 ⟨z, hz, hz2, rfl, rfl⟩
  exact ⟨z.toNat, by omega, by rw [Int.toNat_of_nonneg hz], Below.refl _ _⟩
theorem c385 (t : ByteArray) (ht : t.size ≤ 1000) (w : World) : Calls Tryz.prog 385 #[.string t] w (HashP w) := by
  have H := Lib.hid (fun W => c374 t ht W)
  go_enter Tryz.func385, Tryz.ntmps385
  go_wp2_with fail
  refine (H.out _).mono ?_
  rintro e w1 ⟨z, hz, hz2, rfl, rfl⟩
  go_wp2_with fail
  go_ret2
  exact ⟨z.toNat, by omega, by rw [Int.toNat_of_nonneg hz]; rfl, Below.refl _ _⟩
theorem c181 (r : Int) (w : World) : Calls Tryz.prog 181 #[.int .i8 37, .int .i64 r] w fun e w' => e = .returned (.bool (r == 0)) ∧ w = w' := by
  go_enter Tryz.func181, Tryz.ntmps181
  go_wp2_with fail
  go_ret
  exact ⟨rfl, rfl⟩
theorem compareBytes_eq : ∀ (a b : List UInt8), Lib.compareBytes a b = 0 → a = b
  | [], [], _ => rfl
  | [], _ :: _, h => by simp [Lib.compareBytes] at h
  | _ :: _, [], h => by simp [Lib.compareBytes] at h
  | a :: us, b :: bs, h => by
    unfold Lib.compareBytes at h
    by_cases h1 : a < b
    · rw [if_pos h1] at h; omega
    · rw [if_neg h1] at h
      by_cases h2 : b < a
      · rw [if_pos h2] at h; omega
      · rw [if_neg h2] at h
        rw [compareBytes_eq us bs h]
        have : a = b := UInt8.le_antisymm (UInt8.not_lt.1 h2) (UInt8.not_lt.1 h1)
        rw [this]
theorem cmp_bytes_eq {a b : ByteArray} (h : Lib.compareBytes a.data.toList b.data.toList = 0) : a = b := by
  have := compareBytes_eq _ _ h
  cases a; cases b
  simp at this
  rw [this]
/-- what is asked of a comparison for equality: where it says yes, P holds -/
def CmpP (P : Prop) (w : World) (e : Ending) (w' : World) : Prop := ∃ r : Bool, e = .returned (.tuple #[.bool r, .nilIface]) ∧ (r = true → P) ∧ Below w.heap.size w w'
theorem c297 (b c : Bool) (D : Value) (w : World) : Calls Tryz.prog 297 #[.bool b, .int .i8 37, .iface 77 (.bool c), D] w (CmpP (b = c) w) := by
  have H := Lib.hid (fun b W => c303 b W)
  have H1 := Lib.hid (fun r W => c181 r W)
  have ta := as77_77f (.bool c)
  cases b <;> cases c
  all_goals
    go_enter Tryz.func297, Tryz.ntmps297
    go_wp2_with fail
    refine (H.out _ _).mono ?_
    rintro e w1 ⟨rfl, rfl⟩
    go_wp2_with fail
    refine (H.out _ _).mono ?_
    rintro e w1 ⟨rfl, rfl⟩
    go_wp2_with fail
    refine (H1.out _ _).mono ?_
    rintro e w1 ⟨rfl, rfl⟩
    go_wp2_with fail
    go_ret2
    exact ⟨_, rfl, (fun h => by first | trivial | rfl | exact absurd h (by decide)), Below.refl _ _⟩
theorem c372 (a b : ByteArray) (D : Value) (w : World) : Calls Tryz.prog 372 #[.string a, .int .i8 37, .iface 131 (.string b), D] w (CmpP (a = b) w) := by
  have ta := as131_131f (.string b)
  have H := Lib.hid (fun W => Tryz.strings_Compare a b W)
  have H1 := Lib.hid (fun r W => c181 r W)
  go_enter Tryz.func372, Tryz.ntmps372
  go_wp2_with fail
  refine (H.out _).mono ?_
  rintro e w1 ⟨rfl, rfl⟩
  go_wp2_with fail
  refine (H1.out _ _).mono ?_
  rintro e w1 ⟨rfl, rfl⟩
  go_wp2_with fail
  go_ret2
  exact ⟨_, rfl, (fun h => cmp_bytes_eq (by simpa using h)), Below.refl _ _⟩
theorem c383 (a b : ByteArray) (D : Value) (w : World) : Calls Tryz.prog 383 #[.string a, .int .i8 37, .iface 132 (.string b), D] w (CmpP (a = b) w) := by
  have ta := as132_132f (.string b)
  have H := Lib.hid (fun W => Tryz.strings_Compare a b W)
  have H1 := Lib.hid (fun r W => c181 r W)
  go_enter Tryz.func383, Tryz.ntmps383
  go_wp2_with fail
  refine (H.out _).mono ?_
  rintro e w1 ⟨rfl, rfl⟩
  go_wp2_with fail
  refine (H1.out _ _).mono ?_
  rintro e w1 ⟨rfl, rfl⟩
  go_wp2_with fail
  go_ret2
  exact ⟨_, rfl, (fun h => cmp_bytes_eq (by simpa using h)), Below.refl _ _⟩
theorem c366 (u v : Nat) (w : World) : Calls Tryz.prog 366 #[.float .f64 u, .float .f64 v] w fun e w' => ∃ r : Int, e = .returned (.int .i64 r) ∧ (r = 0 → fEq u v = true) ∧ w = w' := by
  obtain ⟨P, hP⟩ : ∃ P : Prop, P = (fEq u v = true) := ⟨_, rfl⟩
  have HP : Hid (((Ieee.double.order u v == some .eq) || (!(Ieee.double.order u u == some .eq) && !(Ieee.double.order v v == some .eq))) = true → P) := fun h => by
    rw [hP]; exact h
  rw [← hP]
  clear hP
  generalize hbu : (Ieee.double.order u u == some .eq) = bu at *
  generalize hbv : (Ieee.double.order v v == some .eq) = bv at *
  generalize hbe : (Ieee.double.order u v == some .eq) = be at *
  generalize hbl : (Ieee.double.order u v == some .lt) = bl at *
  generalize hbg : (Ieee.double.order u v == some .gt) = bg at *
  have he1 : (FloatKind.f64.format.order u v == some .eq) = be := hbe
  have he2 : (FloatKind.f64.format.order u v == some .lt) = bl := hbl
  have he3 : Op.floatEq .f64 u v = be := hbe
  have he4 : (FloatKind.f64.format.order u v == some .gt) = bg := hbg
  have he5 : Op.floatEq .f64 u u = bu := hbu
  have he6 : Op.floatEq .f64 v v = bv := hbv
  have he7 : (FloatKind.f64.format.order u u == some .eq) = bu := hbu
  have he8 : (FloatKind.f64.format.order v v == some .eq) = bv := hbv
  clear hbu hbv hbe hbl hbg
  cases bu <;> cases bv <;> cases be <;> cases bl <;> cases bg
  all_goals
    go_enter Tryz.func366, Tryz.ntmps366
    go_wp2_with fail
    go_ret
    exact ⟨_, rfl, (fun h => by first | exact HP.out rfl | exact absurd h (by decide)), rfl⟩
theorem c360 (u v : Nat) (D : Value) (w : World) : Calls Tryz.prog 360 #[.float .f64 u, .iface 129 (.float .f64 v), D] w fun e w' => ∃ r : Int, e = .returned (.tuple #[.int .i64 r, .nilIface]) ∧ (r = 0 → fEq u v = true) ∧ w = w' := by
  have H := Lib.hid (c366 u v w)
  have ta := as129_129f (.float .f64 v)
  go_enter Tryz.func360, Tryz.ntmps360
  go_wp2_with fail
  refine H.out.mono ?_
  rintro e w1 ⟨r, rfl, h0, rfl⟩
  go_wp2_with fail
  go_ret2
  exact ⟨r, rfl, h0, rfl⟩
end Go.Proofs.YtpfihjkhgfoijaaGreatDoor
namespace Go.Proofs.YtpfihjkhgfoijaaGreatDoor
open Go.RowKit

theorem NatR.inj {w : World} {A : Option Addr} {n c c' : Nat} {xs ys : List Nat} (h : NatR w A n c xs) (k : NatR w A n c' ys) : xs = ys := by
  by_cases h0 : n = 0
  · subst h0
    rw [List.eq_nil_of_length_eq_zero h.len, List.eq_nil_of_length_eq_zero k.len]
  · obtain ⟨g, us, e, hb, _⟩ := h.pos (by omega)
    obtain ⟨g', vs, e', kb, _⟩ := k.pos (by omega)
    rw [e] at e'; cases e'
    refine List.ext_getElem (h.len.trans k.len.symm) fun i h1 h2 => ?_
    have a1 := hb.cell (i := i) (by rw [List.length_append]; omega)
    have a2 := kb.cell (i := i) (by rw [List.length_append]; omega)
    rw [a1] at a2
    simp only [Option.some.injEq, Value.int.injEq, true_and, List.getD_eq_getElem?_getD, List.getElem?_append_left h1, List.getElem?_append_left h2, List.getElem?_eq_getElem h1, List.getElem?_eq_getElem h2, Option.getD_some] at a2
    omega
/-- v is starlark's Int of the number z, of at most N words -/
def IntN (N : Nat) (w : World) (z : Int) (v : Value) : Prop :=
  (isSm z = true ∧ v = .agg #[.int .i64 z, .pointer none]) ∨
  (isSm z = false ∧ ∃ b neg A n c xs, v = .agg #[.int .i64 0, .pointer (some ⟨b, 0, none⟩)] ∧ BigR w b 0 neg A n c xs ∧ zv neg xs = z ∧ n ≤ N)
theorem IntV.toN {w : World} {z : Int} {v : Value} (h : IntV w z v) {N : Nat} (hN : 8 ≤ N) : IntN N w z v := by
  rcases h with h | ⟨h, b, neg, A, n, c, xs, e, hB, hz, hn⟩
  · exact .inl h
  · exact .inr ⟨h, b, neg, A, n, c, xs, e, hB, hz, by omega⟩
/-- a pointer to a number z -/
def PtrZ (N : Nat) (z : Int) (w : World) (e : Ending) (w' : World) : Prop :=
  ∃ b neg A n c xs, e = .returned (.pointer (some ⟨b, 0, none⟩)) ∧ BigR w' b 0 neg A n c xs ∧ zv neg xs = z ∧ n ≤ N ∧ Below w.heap.size w w'
theorem isSm_rng' {z : Int} (h : isSm z = true) : -2147483648 ≤ z ∧ z < 2147483648 := by
  unfold isSm at h
  simpa using h
set_option maxHeartbeats 1000000 in
theorem c357 (N : Nat) (hN : 8 ≤ N) (v : Value) (z : Int) (w : World) (h : IntN N w z v) : Calls Tryz.prog 357 #[v] w (PtrZ N z w) := by
  rcases h with ⟨hs, rfl⟩ | ⟨hs, b, neg, A, n, c, xs, rfl, hB, hz, hn⟩
  · have hr := isSm_rng' hs
    obtain ⟨w1, hw1, b1, r1⟩ : ∃ w1, (w.alloc (.cells #[.int .i64 z, .pointer none] 126)) = w1 ∧ Below w.heap.size w w1 ∧ RowB w1 w.heap.size #[.int .i64 z, .pointer none] 126 :=
      ⟨_, rfl, below_alloc' (Below.refl _ _) _, RowB.new w _ _⟩
    have k0 := r1.cell 0 _ rfl
    have k1 := r1.cell 1 _ rfl
    have H := Lib.hid (fun W => c121 z W (by omega) (by omega))
    have HZ := Lib.hid (smw_zv z)
    clear hs
    go_enter Tryz.func357, Tryz.ntmps357
    go_wp2_with fail
    clear hw1
    refine (c119 z none w1).mono ?_
    rintro e w2 ⟨rfl, hB⟩
    have b2 := below_trans' b1 hB
    clear k0 k1
    go_wp2_with fail
    refine (H.out _).mono ?_
    rintro e w3 ⟨B, A, n, rfl, hS, hB3⟩
    have b3 := below_trans' b2 hB3
    have HR := Lib.hid hS.out
    clear hS
    go_wp2_with fail
    go_ret
    have hlen := HR.out.nat.len
    exact ⟨B, _, A, n, n, smw z, rfl, HR.out, HZ.out, by rw [← hlen]; unfold smw; split <;> simp; omega, b3⟩
  · obtain ⟨w1, hw1, b1, r1⟩ : ∃ w1, (w.alloc (.cells #[.int .i64 0, .pointer (some ⟨b, 0, none⟩)] 126)) = w1 ∧ Below w.heap.size w w1 ∧ RowB w1 w.heap.size #[.int .i64 0, .pointer (some ⟨b, 0, none⟩)] 126 :=
      ⟨_, rfl, below_alloc' (Below.refl _ _) _, RowB.new w _ _⟩
    have k0 := r1.cell 0 _ rfl
    have k1 := r1.cell 1 _ rfl
    have hB1 := Lib.hid (hB.below b1)
    have hbl := hB.lt
    have HZ := Lib.hid hz
    clear hB hz
    go_enter Tryz.func357, Tryz.ntmps357
    go_wp2_with fail
    clear hw1
    refine (c119 0 _ w1).mono ?_
    rintro e w2 ⟨rfl, hB⟩
    have b2 := below_trans' b1 hB
    have HR := Lib.hid (hB1.out.below hB)
    clear k0 k1
    go_wp2_with fail
    go_ret
    exact ⟨b, neg, A, n, c, xs, rfl, HR.out, HZ.out, hn, b2⟩
theorem c358 (z : Int) (h1 : -9223372036854775808 < z) (h2 : z < 9223372036854775808) (w : World) : Calls Tryz.prog 358 #[.int .i64 z] w fun e w' => ∃ r : Int, e = .returned (.int .i64 r) ∧ (r = 0 → z = 0) ∧ w = w' := by
  rcases (by omega : z = 0 ∨ z < 0 ∨ 0 < z) with h0 | h0 | h0
  · subst h0
    go_enter Tryz.func358, Tryz.ntmps358
    go_wp2_with fail
    go_ret
    exact ⟨_, rfl, (fun _ => by first | trivial | rfl), rfl⟩
  · have HN : Hid (∀ r : Int, r ≠ 0 → r = 0 → z = 0) := fun r h1 h2 => absurd h2 h1
    have e1 : z / 9223372036854775808 = -1 := by omega
    have e2 : IntKind.u64.wrap (-1) = 18446744073709551615 := by rw [IntKind.wrap_u64]; omega
    have e3 : IntKind.u64.wrap (-z) = -z := by rw [IntKind.wrap_u64]; omega
    have e4 : -z / 9223372036854775808 = 0 := by omega
    have e5 : bits .or .u64 18446744073709551615 0 = 18446744073709551615 := by
      have := u64_or_nat 18446744073709551615 0 (by omega) (by omega)
      rw [Nat.or_zero] at this; exact this
    go_enter Tryz.func358, Tryz.ntmps358
    go_wp2_with fail
    go_ret
    exact ⟨_, rfl, HN.out _ (by show ¬ wrap64 18446744073709551615 = 0; unfold wrap64; omega), rfl⟩
  · have HN : Hid (∀ r : Int, r ≠ 0 → r = 0 → z = 0) := fun r h1 h2 => absurd h2 h1
    have e1 : z / 9223372036854775808 = 0 := by omega
    have e3 : IntKind.u64.wrap (-z) = 18446744073709551616 - z := by rw [IntKind.wrap_u64]; omega
    have e4 : (18446744073709551616 - z) / 9223372036854775808 = 1 := by omega
    have e5 : bits .or .u64 0 1 = 1 := by
      have := u64_or_nat 0 1 (by omega) (by omega)
      rw [Nat.zero_or] at this; exact this
    go_enter Tryz.func358, Tryz.ntmps358
    go_wp2_with fail
    go_ret
    exact ⟨_, rfl, HN.out _ (by decide), rfl⟩
theorem c359 (b o : Nat) (neg : Bool) (A : Option Addr) (n c : Nat) (xs : List Nat) (w : World) (h : BigR w b o neg A n c xs) : Calls Tryz.prog 359 #[.pointer (some ⟨b, o, none⟩)] w fun e w' => e = .returned (.slice A n c) ∧ w = w' := by
  have h1 := h.ab
  clear h
  go_enter Tryz.func359, Tryz.ntmps359
  go_wp2_with fail
  go_ret
  exact ⟨rfl, rfl⟩
theorem hash_u32 (z : Int) (w w' : World) (hB : Below w.heap.size w w') : HashP w (.returned (.tuple #[.int .u32 (IntKind.u32.wrap z), .nilIface])) w' :=
  ⟨(IntKind.u32.wrap z).toNat, by have := u32_rng z; omega, by rw [Int.toNat_of_nonneg (u32_rng z).1], hB⟩
set_option maxHeartbeats 1000000 in
theorem c353 (N : Nat) (v : Value) (z : Int) (w : World) (h : IntN N w z v) : Calls Tryz.prog 353 #[v] w (HashP w) := by
  rcases h with ⟨hs, rfl⟩ | ⟨hs, b, neg, A, n, c, xs, rfl, hB, hz, hn⟩
  · obtain ⟨w1, hw1, b1, r1⟩ : ∃ w1, (w.alloc (.cells #[.int .i64 z, .pointer none] 126)) = w1 ∧ Below w.heap.size w w1 ∧ RowB w1 w.heap.size #[.int .i64 z, .pointer none] 126 :=
      ⟨_, rfl, below_alloc' (Below.refl _ _) _, RowB.new w _ _⟩
    have k0 := r1.cell 0 _ rfl
    have k1 := r1.cell 1 _ rfl
    clear hs
    go_enter Tryz.func353, Tryz.ntmps353
    go_wp2_with fail
    clear hw1
    refine (c119 z none w1).mono ?_
    rintro e w2 ⟨rfl, hB⟩
    have b2 := below_trans' b1 hB
    clear k0 k1
    go_wp2_with fail
    go_ret2
    exact hash_u32 _ w w2 b2
  · have hx0 : 0 < n := by
      rcases Nat.eq_zero_or_pos n with h0 | h0
      · exfalso
        have := hB.nat.len
        rw [h0] at this
        rw [List.eq_nil_of_length_eq_zero this] at hz
        have : z = 0 := by rw [← hz]; unfold zv; simp [nv]
        rw [this] at hs
        exact absurd hs (by decide)
      · exact h0
    obtain ⟨w1, hw1, b1, r1⟩ : ∃ w1, (w.alloc (.cells #[.int .i64 0, .pointer (some ⟨b, 0, none⟩)] 126)) = w1 ∧ Below w.heap.size w w1 ∧ RowB w1 w.heap.size #[.int .i64 0, .pointer (some ⟨b, 0, none⟩)] 126 :=
      ⟨_, rfl, below_alloc' (Below.refl _ _) _, RowB.new w _ _⟩
    have k0 := r1.cell 0 _ rfl
    have k1 := r1.cell 1 _ rfl
    have hB1 := Lib.hid (hB.below b1)
    clear hB hz hs
    go_enter Tryz.func353, Tryz.ntmps353
    go_wp2_with fail
    clear hw1
    refine (c119 0 _ w1).mono ?_
    rintro e w2 ⟨rfl, hB⟩
    have b2 := below_trans' b1 hB
    have HR := Lib.hid (hB1.out.below hB)
    have H := Lib.hid (c359 b 0 neg A n c xs w2 HR.out)
    obtain ⟨g, ys, rfl, hblk, _⟩ := HR.out.nat.pos (by omega)
    have hc0 := hblk.cell (i := 0) (by rw [List.length_append, HR.out.nat.len]; omega)
    have q0 : (0 : Int) < (n : Int) := by omega
    clear k0 k1 hB1 hblk
    go_wp2_with fail
    refine H.out.mono ?_
    rintro e w3 ⟨rfl, rfl⟩
    go_wp2_with fail
    go_ret2
    exact hash_u32 _ w w2 b2
theorem c192_same (b o : Nat) (w : World) : Calls Tryz.prog 192 #[.pointer (some ⟨b, o, none⟩), .pointer (some ⟨b, o, none⟩)] w fun e w' => e = .returned (.int .i64 0) ∧ w = w' := by
  obtain ⟨j, hj, _⟩ := info229
  have hp := run_eql_ptr_same (w := w) (⟨b, o, none⟩ : Addr) Tryz.underlying122 hj
  go_enter Tryz.func192, Tryz.ntmps192
  go_wp2_with fail
  go_ret
  exact ⟨rfl, rfl⟩
/-- what Cmp gives -/
def CmpI (P : Prop) (w : World) (e : Ending) (w' : World) : Prop := ∃ r : Int, e = .returned (.tuple #[.int .i64 r, .nilIface]) ∧ (r = 0 → P) ∧ Below w.heap.size w w'
theorem c192z (b b' : Nat) (n1 n2 : Bool) (A B : Option Addr) (n m c d : Nat) (xs ys : List Nat) (w : World) (hx : BigR w b 0 n1 A n c xs) (hy : BigR w b' 0 n2 B m d ys) :
    Calls Tryz.prog 192 #[.pointer (some ⟨b, 0, none⟩), .pointer (some ⟨b', 0, none⟩)] w fun e w' => ∃ r : Int, e = .returned (.int .i64 r) ∧ (r = 0 → zv n1 xs = zv n2 ys) ∧ Below w.heap.size w w' := by
  by_cases hne : b = b'
  · subst hne
    refine (c192_same b 0 w).mono ?_
    rintro e w1 ⟨rfl, rfl⟩
    refine ⟨0, rfl, fun _ => ?_, Below.refl _ _⟩
    have e1 := hx.sg.symm.trans hy.sg
    have e2 := hx.ab.symm.trans hy.ab
    cases e1; cases e2
    rw [hx.nat.inj hy.nat]
  · refine (c192 b 0 b' 0 n1 n2 A B n m c d xs ys w hx hy hne).mono ?_
    rintro e w1 ⟨r, rfl, h0, _, hB⟩
    exact ⟨r, rfl, h0, hB⟩
end Go.Proofs.YtpfihjkhgfoijaaGreatDoor
namespace Go.Proofs.YtpfihjkhgfoijaaGreatDoor
open Go.RowKit

theorem IntN.below {N : Nat} {w w' : World} {z : Int} {v : Value} (h : IntN N w z v) (hb : Below w.heap.size w w') : IntN N w' z v := by
  rcases h with h | ⟨h, b, neg, A, n, c, xs, e, hB, hz, hn⟩
  · exact .inl h
  · exact .inr ⟨h, b, neg, A, n, c, xs, e, hB.below hb, hz, hn⟩
theorem IntN.shape {N : Nat} {w : World} {z : Int} {v : Value} (h : IntN N w z v) : ∃ i p, v = .agg #[.int .i64 i, .pointer p] ∧ (p = none → i = z ∧ isSm z = true) := by
  rcases h with ⟨h, e⟩ | ⟨h, b, neg, A, n, c, xs, e, _⟩
  · exact ⟨z, none, e, fun _ => ⟨rfl, h⟩⟩
  · exact ⟨0, _, e, fun h => by cases h⟩
/-- two boxes of ints, the second one filled after it was made -/
theorem two126 (w : World) (i j : Int) (p q : Option Addr) : ∃ w1 w3, ((w.alloc (.cells #[.int .i64 i, .pointer p] 126)).alloc (.cells #[.int .i64 0, .pointer none] 126)) = w1 ∧ (w1.setCell ⟨w.heap.size + 1, 0, none⟩ (.int .i64 j)).setCell ⟨w.heap.size + 1, 1, none⟩ (.pointer q) = w3 ∧
    w1.frozen? ⟨w.heap.size + 1, 0, none⟩ = false ∧ w1.cell? ⟨w.heap.size + 1, 0, none⟩ = some (.int .i64 0) ∧ (w1.setCell ⟨w.heap.size + 1, 0, none⟩ (.int .i64 j)).frozen? ⟨w.heap.size + 1, 1, none⟩ = false ∧ (w1.setCell ⟨w.heap.size + 1, 0, none⟩ (.int .i64 j)).cell? ⟨w.heap.size + 1, 1, none⟩ = some (.pointer none) ∧
    Below w.heap.size w w3 ∧ w3.cell? ⟨w.heap.size, 0, none⟩ = some (.int .i64 i) ∧ w3.cell? ⟨w.heap.size, 1, none⟩ = some (.pointer p) ∧ w3.cell? ⟨w.heap.size + 1, 0, none⟩ = some (.int .i64 j) ∧ w3.cell? ⟨w.heap.size + 1, 1, none⟩ = some (.pointer q) := by
  have r0 := (RowB.new w #[.int .i64 i, .pointer p] 126).alloc (.cells #[.int .i64 0, .pointer none] 126)
  have r1 := RowB.new (w.alloc (.cells #[.int .i64 i, .pointer p] 126)) #[.int .i64 0, .pointer none] 126
  rw [alloc_size] at r1
  have r2 := r1.set 0 (.int .i64 j) #[.int .i64 j, .pointer none] rfl
  have r3 := r2.set 1 (.pointer q) #[.int .i64 j, .pointer q] rfl
  have r4 := (r0.setNe ⟨w.heap.size + 1, 0, none⟩ (.int .i64 j) (by simp)).setNe ⟨w.heap.size + 1, 1, none⟩ (.pointer q) (by simp)
  exact ⟨_, _, rfl, rfl, r1.free 0, r1.cell 0 _ rfl, r2.free 1, r2.cell 1 _ rfl,
    below_set' (below_set' (below_alloc' (below_alloc' (Below.refl _ _) _) _) (by simp) _) (by simp) _, r4.cell 0 _ rfl, r4.cell 1 _ rfl, r3.cell 0 _ rfl, r3.cell 1 _ rfl⟩
set_option maxHeartbeats 4000000 in
theorem c351 (N : Nat) (hN : 8 ≤ N) (v v' : Value) (z z' : Int) (D : Value) (w : World) (h : IntN N w z v) (h' : IntN N w z' v') : Calls Tryz.prog 351 #[v, .iface 126 v', D] w (CmpI (z = z') w) := by
  have H1 : Hid (∀ W, Below w.heap.size w W → Calls Tryz.prog 357 #[v] W (PtrZ N z W)) := fun W hW => c357 N hN v z W (h.below hW)
  have H2 : Hid (∀ W, Below w.heap.size w W → Calls Tryz.prog 357 #[v'] W (PtrZ N z' W)) := fun W hW => c357 N hN v' z' W (h'.below hW)
  obtain ⟨i, p, rfl, hp⟩ := h.shape
  obtain ⟨j, q, rfl, hq⟩ := h'.shape
  clear h h'
  have ta := as126_126f (.agg #[.int .i64 j, .pointer q])
  obtain ⟨w1, w3, hw1, hw3, f0, k0, f1, k1, b3, x0, x1, y0, y1⟩ := two126 w i j p q
  by_cases hpq : p = none ∧ q = none
  · obtain ⟨rfl, rfl⟩ := hpq
    obtain ⟨rfl, hs⟩ := hp rfl
    obtain ⟨rfl, hs'⟩ := hq rfl
    have hr := isSm_rng' hs
    have hr' := isSm_rng' hs'
    have HS := Lib.hid (fun W => c358 (i - j) (by omega) (by omega) W)
    have HZ : Hid (∀ r : Int, (r = 0 → i - j = 0) → r = 0 → i = j) := fun r h1 h2 => by have := h1 h2; omega
    clear hp hq hs hs' H1 H2
    go_enter Tryz.func351, Tryz.ntmps351
    go_upto_region 2 with (fail)
    clear f0 k0 f1 k1
    clear hw1 hw3
    go_wp2_with fail
    refine (c119 i none _).mono ?_
    rintro e w4 ⟨rfl, hB4⟩
    have b4 := below_trans' b3 hB4
    replace y0 := below_cell hB4 y0
    replace y1 := below_cell hB4 y1
    clear x0 x1
    go_wp2_with fail
    refine (c119 j none _).mono ?_
    rintro e w5 ⟨rfl, hB5⟩
    have b5 := below_trans' b4 hB5
    clear y0 y1
    go_wp2_with fail
    refine (HS.out _).mono ?_
    rintro e w6 ⟨r, rfl, h0, rfl⟩
    have H0 := Lib.hid (HZ.out r h0)
    clear h0
    go_wp2_with fail
    go_ret2
    exact ⟨r, rfl, H0.out, b5⟩
  · have hbig : (p ≠ none) ∨ (p = none ∧ q ≠ none) := by
      by_cases h1 : p = none
      · exact .inr ⟨h1, fun h2 => hpq ⟨h1, h2⟩⟩
      · exact .inl h1
    clear hp hq hpq
    rcases hbig with hb | ⟨rfl, hb⟩
    · obtain ⟨pa, rfl⟩ := Option.ne_none_iff_exists'.1 hb
      clear hb
      go_enter Tryz.func351, Tryz.ntmps351
      go_upto_region 2 with (fail)
      clear f0 k0 f1 k1
      clear hw1 hw3
      go_wp2_with fail
      refine (c119 _ _ _).mono ?_
      rintro e w4 ⟨rfl, hB4⟩
      have b4 := below_trans' b3 hB4
      replace x0 := below_cell hB4 x0
      replace x1 := below_cell hB4 x1
      replace y0 := below_cell hB4 y0
      replace y1 := below_cell hB4 y1
      go_wp2_with fail
      refine (c119 _ _ _).mono ?_
      rintro e w5 ⟨rfl, hB5⟩
      have b5 := below_trans' b4 hB5
      replace x0 := below_cell hB5 x0
      replace x1 := below_cell hB5 x1
      replace y0 := below_cell hB5 y0
      replace y1 := below_cell hB5 y1
      clear b3 b4 hB4 hB5
      go_upto_region 5 with (fail)
      have hX := trivial
      have hY := trivial
      have hzX := trivial
      have hzY := trivial
      have bb := below_trans' b5 (below_drew1 w5)
      have sA : w5.drew.cell? ⟨w.heap.size, 0, none⟩ = some (.int .i64 i) ∧ w5.drew.cell? ⟨w.heap.size, 1, none⟩ = some (.pointer (some pa)) ∧ w5.drew.cell? ⟨w.heap.size + 1, 0, none⟩ = some (.int .i64 j) ∧ w5.drew.cell? ⟨w.heap.size + 1, 1, none⟩ = some (.pointer q) := ⟨x0, x1, y0, y1⟩
      clear x0 x1 y0 y1
      go_region_held3 (fun W => W.cell? ⟨w.heap.size, 0, none⟩ = some (.int .i64 i) ∧ W.cell? ⟨w.heap.size, 1, none⟩ = some (.pointer (some pa)) ∧ W.cell? ⟨w.heap.size + 1, 0, none⟩ = some (.int .i64 j) ∧ W.cell? ⟨w.heap.size + 1, 1, none⟩ = some (.pointer q))
        (with_reducible exact sA)
        (first
        | (go_at_call 357
           first
           | ((with_reducible refine (H1.out _ bb).mono ?_); rintro e w6 ⟨b1, n1, A1, m1, c1, xs1, rfl, hB1, hz1, hn1, hB6⟩; (first | have hY := BigR.below hY hB6 | skip); have hX := hB1; have hzX := Lib.hid hz1; clear hB1 hz1; have x0 := below_cell hB6 sA.1; have x1 := below_cell hB6 sA.2.1; have y0 := below_cell hB6 sA.2.2.1; have y1 := below_cell hB6 sA.2.2.2; have sA := And.intro x0 (And.intro x1 (And.intro y0 y1)); have bb := below_trans' bb hB6)
           | ((with_reducible refine (H2.out _ bb).mono ?_); rintro e w6 ⟨b1, n1, A1, m1, c1, xs1, rfl, hB1, hz1, hn1, hB6⟩; (first | have hX := BigR.below hX hB6 | skip); have hY := hB1; have hzY := Lib.hid hz1; clear hB1 hz1; have x0 := below_cell hB6 sA.1; have x1 := below_cell hB6 sA.2.1; have y0 := below_cell hB6 sA.2.2.1; have y1 := below_cell hB6 sA.2.2.2; have sA := And.intro x0 (And.intro x1 (And.intro y0 y1)); have bb := below_trans' bb hB6))
        | (go_at_call 192
           refine (c192z _ _ _ _ _ _ _ _ _ _ _ _ _ hX hY).mono ?_
           rintro e w7 ⟨r, rfl, h0, hB7⟩
           rw [hzX.out, hzY.out] at h0
           have H0 := Lib.hid h0
           clear h0
           have sA := And.intro (below_cell hB7 sA.1) (And.intro (below_cell hB7 sA.2.1) (And.intro (below_cell hB7 sA.2.2.1) (below_cell hB7 sA.2.2.2)))
           have bb := below_trans' bb hB7))
      all_goals
        go_wp2_with fail
        go_ret2
        exact ⟨r, rfl, H0.out, bb⟩
    · obtain ⟨pa, rfl⟩ := Option.ne_none_iff_exists'.1 hb
      clear hb
      go_enter Tryz.func351, Tryz.ntmps351
      go_upto_region 2 with (fail)
      clear f0 k0 f1 k1
      clear hw1 hw3
      go_wp2_with fail
      refine (c119 _ _ _).mono ?_
      rintro e w4 ⟨rfl, hB4⟩
      have b4 := below_trans' b3 hB4
      replace x0 := below_cell hB4 x0
      replace x1 := below_cell hB4 x1
      replace y0 := below_cell hB4 y0
      replace y1 := below_cell hB4 y1
      go_wp2_with fail
      refine (c119 _ _ _).mono ?_
      rintro e w5 ⟨rfl, hB5⟩
      have b5 := below_trans' b4 hB5
      replace x0 := below_cell hB5 x0
      replace x1 := below_cell hB5 x1
      replace y0 := below_cell hB5 y0
      replace y1 := below_cell hB5 y1
      clear b3 b4 hB4 hB5
      go_upto_region 5 with (fail)
      have hX := trivial
      have hY := trivial
      have hzX := trivial
      have hzY := trivial
      have bb := below_trans' b5 (below_drew1 w5)
      have sA : w5.drew.cell? ⟨w.heap.size, 0, none⟩ = some (.int .i64 i) ∧ w5.drew.cell? ⟨w.heap.size, 1, none⟩ = some (.pointer none) ∧ w5.drew.cell? ⟨w.heap.size + 1, 0, none⟩ = some (.int .i64 j) ∧ w5.drew.cell? ⟨w.heap.size + 1, 1, none⟩ = some (.pointer (some pa)) := ⟨x0, x1, y0, y1⟩
      clear x0 x1 y0 y1
      go_region_held3 (fun W => W.cell? ⟨w.heap.size, 0, none⟩ = some (.int .i64 i) ∧ W.cell? ⟨w.heap.size, 1, none⟩ = some (.pointer none) ∧ W.cell? ⟨w.heap.size + 1, 0, none⟩ = some (.int .i64 j) ∧ W.cell? ⟨w.heap.size + 1, 1, none⟩ = some (.pointer (some pa)))
        (with_reducible exact sA)
        (first
        | (go_at_call 357
           first
           | ((with_reducible refine (H1.out _ bb).mono ?_); rintro e w6 ⟨b1, n1, A1, m1, c1, xs1, rfl, hB1, hz1, hn1, hB6⟩; (first | have hY := BigR.below hY hB6 | skip); have hX := hB1; have hzX := Lib.hid hz1; clear hB1 hz1; have x0 := below_cell hB6 sA.1; have x1 := below_cell hB6 sA.2.1; have y0 := below_cell hB6 sA.2.2.1; have y1 := below_cell hB6 sA.2.2.2; have sA := And.intro x0 (And.intro x1 (And.intro y0 y1)); have bb := below_trans' bb hB6)
           | ((with_reducible refine (H2.out _ bb).mono ?_); rintro e w6 ⟨b1, n1, A1, m1, c1, xs1, rfl, hB1, hz1, hn1, hB6⟩; (first | have hX := BigR.below hX hB6 | skip); have hY := hB1; have hzY := Lib.hid hz1; clear hB1 hz1; have x0 := below_cell hB6 sA.1; have x1 := below_cell hB6 sA.2.1; have y0 := below_cell hB6 sA.2.2.1; have y1 := below_cell hB6 sA.2.2.2; have sA := And.intro x0 (And.intro x1 (And.intro y0 y1)); have bb := below_trans' bb hB6))
        | (go_at_call 192
           refine (c192z _ _ _ _ _ _ _ _ _ _ _ _ _ hX hY).mono ?_
           rintro e w7 ⟨r, rfl, h0, hB7⟩
           rw [hzX.out, hzY.out] at h0
           have H0 := Lib.hid h0
           clear h0
           have sA := And.intro (below_cell hB7 sA.1) (And.intro (below_cell hB7 sA.2.1) (And.intro (below_cell hB7 sA.2.2.1) (below_cell hB7 sA.2.2.2)))
           have bb := below_trans' bb hB7))
      all_goals
        go_wp2_with fail
        go_ret2
        exact ⟨r, rfl, H0.out, bb⟩
end Go.Proofs.YtpfihjkhgfoijaaGreatDoor

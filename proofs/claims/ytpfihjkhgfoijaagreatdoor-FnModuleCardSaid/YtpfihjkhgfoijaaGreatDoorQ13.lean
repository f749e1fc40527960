/- Kids under construction: a row of the call's own to which trees are appended; Contract of spec.Key; Equality of keys; contract of spec.Find over that of spec.Equal; Kids of a tree at hand; contract of spec.Hashable; Contract of spec.Size: some number. -/
import Derived.Test.YtpfihjkhgfoijaaGreatDoorQ12
set_option linter.unusedVariables false
set_option linter.unusedSimpArgs false
set_option maxRecDepth 100000
namespace Go.Proofs.YtpfihjkhgfoijaaGreatDoor
open Go.RowKit

def flat6 (css : List (Array Value)) : List Value := css.flatMap (·.toList)
theorem flat6_len {css : List (Array Value)} (h : ∀ c ∈ css, c.size = 6) : (flat6 css).length = css.length * 6 := by
  unfold flat6
  induction css with
  | nil => rfl
  | cons c cs ih =>
    have h1 := ih fun x hx => h x (List.mem_cons_of_mem _ hx)
    have h2 := h c List.mem_cons_self
    simp only [List.flatMap_cons, List.length_append, List.length_cons, Array.length_toList, h1, h2]; omega
theorem flat6_get {css : List (Array Value)} (h : ∀ c ∈ css, c.size = 6) (i j : Nat) (hi : i < css.length) (hj : j < 6) : (flat6 css)[i * 6 + j]? = (css.getD i #[])[j]? := by
  induction css generalizing i with
  | nil => simp at hi
  | cons c cs ih =>
    have h2 := h c List.mem_cons_self
    have e : flat6 (c :: cs) = c.toList ++ flat6 cs := by simp [flat6]
    rw [e]
    cases i with
    | zero =>
      rw [List.getElem?_append_left (by simp; omega)]
      simp
    | succ i =>
      rw [List.getElem?_append_right (by simp; omega)]
      have h3 := ih (fun x hx => h x (List.mem_cons_of_mem _ hx)) i (by simpa using hi)
      rw [Array.length_toList, h2, show (i + 1) * 6 + j - 6 = i * 6 + j from by omega, h3]
      simp
theorem flat6_snoc (css : List (Array Value)) (c : Array Value) : flat6 (css ++ [c]) = flat6 css ++ c.toList := by simp [flat6]

/-- the slice value v, of m trees ts of n levels, in a row of the call's own (blocks from base on) -/
structure Kin (n base : Nat) (R : BS) (w : World) (v : Value) (m : Nat) (ts : List VT) : Prop where mk ::
  out : ∃ css : List (Array Value), w.ownsRow base 36 6 v m (flat6 css) ∧ css.length = m ∧ ts.length = m ∧ (∀ c ∈ css, c.size = 6) ∧
    ∀ i, i < m → ∃ S : BS, (∀ g, v.ownBlock = some g → ¬ S g) ∧ (∀ k, S k → k < w.heap.size ∧ R k) ∧ VC n S w (ts.getD i default) (css.getD i #[])
theorem Kin.nil (n base : Nat) (R : BS) (w : World) : Kin n base R w (.slice none 0 0) 0 [] :=
  ⟨[], World.ownsRow_nil w base 36 6, rfl, rfl, by simp, fun i hi => by omega⟩
theorem Kin.len {R : BS} {n base m : Nat} {w : World} {v : Value} {ts : List VT} (h : Kin n base R w v m ts) : ts.length = m := by
  obtain ⟨_, _, _, h, _⟩ := h.out; exact h
theorem Kin.block {R : BS} {n base m : Nat} {w : World} {v : Value} {ts : List VT} (h : Kin n base R w v m ts) (g : Nat) (hg : v.ownBlock = some g) : base ≤ g ∧ g < w.heap.size := by
  obtain ⟨_, h, _⟩ := h.out; exact h.lt g hg
theorem Kin.below {R : BS} {n base m : Nat} {w w' : World} {v : Value} {ts : List VT} (h : Kin n base R w v m ts) (hb : Below w.heap.size w w') : Kin n base R w' v m ts := by
  obtain ⟨css, ho, h1, h2, h3, hk⟩ := h.out
  refine ⟨css, ho.kept (grown_of_below' hb none) (by cases v.ownBlock <;> simp), h1, h2, h3, fun i hi => ?_⟩
  obtain ⟨S, k2, k3, k4⟩ := hk i hi
  exact ⟨S, k2, fun k hk => ⟨Nat.lt_of_lt_of_le (k3 k hk).1 hb.size, (k3 k hk).2⟩, k4.below hb fun k hk => (k3 k hk).1⟩
theorem Kin.grown {R : BS} {n base m g : Nat} {w w' : World} {v : Value} {ts : List VT} (h : Kin n base R w v m ts) (hb : w.grownBy w' (some g)) (hg : g < base) (hR : ¬ R g) : Kin n base R w' v m ts := by
  have hbl := h.block
  obtain ⟨css, ho, h1, h2, h3, hk⟩ := h.out
  refine ⟨css, ho.kept hb ?_, h1, h2, h3, fun i hi => ?_⟩
  · cases hv : v.ownBlock with
    | none => simp
    | some x => right; have := (hbl x hv).1; simp; omega
  · obtain ⟨S, k2, k3, k4⟩ := hk i hi
    exact ⟨S, k2, fun k hk => ⟨Nat.lt_of_lt_of_le (k3 k hk).1 hb.size, (k3 k hk).2⟩, k4.grown hb (fun k hk => (k3 k hk).1) fun h => hR (k3 g h).2⟩
theorem Kin.drew {R : BS} {n base m : Nat} {w : World} {v : Value} {ts : List VT} (h : Kin n base R w v m ts) : Kin n base R w.drew v m ts := h.below (below_drew1 w)
theorem Kin.shape {R : BS} {n base m : Nat} {w : World} {v : Value} {ts : List VT} (h : Kin n base R w v m ts) : ∃ K d, v = .slice K m d ∧ m ≤ d ∧ d ≤ maxLen ∧ (K = none ∨ ∃ g, K = some ⟨g, 0, none⟩ ∧ v.ownBlock = some g) := by
  obtain ⟨css, ⟨_, ho⟩, _⟩ := h.out
  rcases ho with ⟨rfl, rfl⟩ | ⟨g, cap, cur, rfl, _, _, h1, h2, _⟩
  · exact ⟨none, 0, rfl, by omega, by simp [maxLen], .inl rfl⟩
  · exact ⟨_, cap, rfl, h1, h2, .inr ⟨g, rfl, rfl⟩⟩
/-- what is under construction, as kids -/
theorem Kin.get {R : BS} {n base m : Nat} {w : World} {K : Option Addr} {d : Nat} {ts : List VT} (h : Kin n base R w (.slice K m d) m ts) (S' : BS) (hS' : ∀ k, base ≤ k → k < w.heap.size → S' k) (hR : ∀ k, R k → k < w.heap.size → S' k) : KidC (VC n S' w) S' w K m ts := by
  obtain ⟨css, ho, h1, h2, h3, hk⟩ := h.out
  rcases ho.2 with ⟨e, rfl⟩ | ⟨g, cap, cur, e, hb, hg, _, _, hcs, ht⟩
  · cases e; exact ⟨h2, .inl rfl⟩
  · cases e
    refine ⟨h2, .inr ⟨g, rfl, hS' g hb (Array.getElem?_eq_some_iff.1 hg).1, fun i hi => ?_⟩⟩
    obtain ⟨S, k2, k3, k4⟩ := hk i hi
    have hi2 : i < css.length := by omega
    have hmem : css.getD i #[] ∈ css := by
      rw [List.getD_eq_getElem?_getD, List.getElem?_eq_getElem hi2]; exact List.getElem_mem hi2
    refine ⟨css.getD i #[], h3 _ hmem, fun j hj => ?_, k4.mono fun k hk => hR k (k3 k hk).2 (k3 k hk).1⟩
    rw [cell_of_row w g (i * 6 + j) cur 36 (0, 0) hg, ← flat6_get h3 i j hi2 hj, ← ht, List.getElem?_take, if_pos (by omega), Array.getElem?_toList]

theorem info36 : (Tryz.prog.info? 36).map (fun i => (i.zero, i.size, i.bytes)) = some (some (.agg zero36), 6, 88) := by kernel_rfl
theorem VC.one {n : Nat} {S : BS} {w : World} {t : VT} {cs : Array Value} (h : VC n S w t cs) : ∀ u ∈ cs.toList, u.oneCell' = true := by
  obtain ⟨A, a, c, K, m, d, rfl, _⟩ := h.head
  intro u hu
  simp at hu
  rcases hu with rfl | rfl | rfl | rfl | rfl | rfl <;> rfl
/-- append of one tree, whose cells are the block made last -/
theorem app36 {R : BS} {n base m : Nat} {w : World} {v : Value} {ts : List VT} (h : Kin n base R w v m ts) (t : VT) (cs : Array Value) (S : BS) (hS : ∀ k, S k → k < w.heap.size ∧ R k) (hI : VC n S w t cs)
    (hg : ∀ g, v.ownBlock = some g → ¬ S g) (hm : m ≤ 1000) (hbase : base ≤ w.heap.size) (ty : TypeId) :
    ∃ v' w', (Builtin.append_ #[34, 34] ty #[v, .slice (some ⟨w.heap.size, 0, none⟩) 1 1]).run Tryz.prog (w.alloc (.cells cs 36)) = .ok v' w' ∧ Kin n base R w' v' (m + 1) (ts ++ [t]) ∧ (w.alloc (.cells cs 36)).grownBy w' v.ownBlock := by
  have hbl := h.block
  obtain ⟨css, ho, h1, h2, h3, hk⟩ := h.out
  have h6 := hI.size
  have hone := hI.one
  have hb1 : Below w.heap.size w (w.alloc (.cells cs 36)) := below_alloc' (Below.refl _ _) _
  obtain ⟨i, hi', hz0, hz1, hz2⟩ := info_parts info36
  obtain ⟨v', w', hr, hown, hgr, _, hob⟩ := run_append_own_at (P := Tryz.prog) (w.alloc (.cells cs 36)) base 34 ty 36 i (.agg zero36) 6 88 Tryz.underlying34 hi' hz0 hz1 hz2 rfl (by omega) v m (flat6 css)
    (ho.alloc _) ⟨w.heap.size, 0, none⟩ 1 1 cs.toList (by simpa using h6) (fun j u hu => by rw [add_at]; exact (RowB.new w cs 36).cell j u (by simpa using hu)) hone (by simp only [maxLen]; omega) (by omega)
    (by rw [alloc_size]; omega)
  refine ⟨v', w', hr, ⟨css ++ [cs], by rw [flat6_snoc]; exact hown, by simp [h1], by simp [h2], ?_, fun i hi => ?_⟩, hgr⟩
  · intro c hc
    rcases List.mem_append.1 hc with h | h
    · exact h3 c h
    · rw [List.mem_singleton.1 h]; exact h6
  · have hown' : ∀ g, v'.ownBlock = some g → v.ownBlock = some g ∨ g = w.heap.size + 1 := by
      intro g hg'
      rcases hob with e | e
      · exact .inl (by rw [← e]; exact hg')
      · rw [e, alloc_size] at hg'; cases hg'; exact .inr rfl
    have hszw : w.heap.size ≤ w'.heap.size := Nat.le_trans (by rw [alloc_size]; omega) hgr.size
    by_cases him : i < m
    · obtain ⟨S', k2, k3, k4⟩ := hk i him
      have k4' := k4.below hb1 fun k hk => (k3 k hk).1
      have hsz : ∀ k, S' k → k < (w.alloc (.cells cs 36)).heap.size := fun k hk => by rw [alloc_size]; have := (k3 k hk).1; omega
      refine ⟨S', fun g hg' => ?_, fun k hk => ⟨Nat.lt_of_lt_of_le (k3 k hk).1 hszw, (k3 k hk).2⟩, ?_⟩
      · rcases hown' g hg' with e | e
        · exact k2 g e
        · intro hc; have := (k3 g hc).1; omega
      · have e1 : (ts ++ [t]).getD i default = ts.getD i default := by rw [List.getD_eq_getElem?_getD, List.getD_eq_getElem?_getD, List.getElem?_append_left (by omega)]
        have e2 : (css ++ [cs]).getD i #[] = css.getD i #[] := by rw [List.getD_eq_getElem?_getD, List.getD_eq_getElem?_getD, List.getElem?_append_left (by omega)]
        rw [e1, e2]
        cases hv : v.ownBlock with
        | none => rw [hv] at hgr; exact k4'.grownN hgr hsz
        | some g => rw [hv] at hgr; exact k4'.grown hgr hsz (k2 g hv)
    · have e : i = m := by omega
      subst e
      have hI' := hI.below hb1 fun k hk => (hS k hk).1
      have hsz : ∀ k, S k → k < (w.alloc (.cells cs 36)).heap.size := fun k hk => by rw [alloc_size]; have := (hS k hk).1; omega
      refine ⟨S, fun g hg' => ?_, fun k hk => ⟨Nat.lt_of_lt_of_le (hS k hk).1 hszw, (hS k hk).2⟩, ?_⟩
      · rcases hown' g hg' with e | e
        · exact hg g e
        · intro hc; have := (hS g hc).1; omega
      · have e1 : (ts ++ [t]).getD i default = t := by rw [List.getD_eq_getElem?_getD, List.getElem?_append_right (by omega)]; simp [h2]
        have e2 : (css ++ [cs]).getD i #[] = cs := by rw [List.getD_eq_getElem?_getD, List.getElem?_append_right (by omega)]; simp [h1]
        rw [e1, e2]
        cases hv : v.ownBlock with
        | none => rw [hv] at hgr; exact hI'.grownN hgr hsz
        | some g => rw [hv] at hgr; exact hI'.grown hgr hsz (hg g hv)
end Go.Proofs.YtpfihjkhgfoijaaGreatDoor
namespace Go.Proofs.YtpfihjkhgfoijaaGreatDoor
open Go.RowKit

/-- the blocks of S, and those made from N to up -/
def ext (S : BS) (N up : Nat) : BS := fun k => S k ∨ (N ≤ k ∧ k < up)
def KeyC (n : Nat) : Prop := ∀ (w : World) (t : VT) (cs : Array Value) (S : BS), VC n S w t cs → VT.ok n t → (∀ k, S k → k < w.heap.size) →
  Calls Tryz.prog 85 #[.agg cs] w fun e w' => ∃ t' cs', e = .returned (.agg cs') ∧ VT.ok n t' ∧ VT.key n t' ∧ VC n (ext S w.heap.size w'.heap.size) w' t' cs' ∧ Below w.heap.size w w'
theorem RowB.grownO {w w' : World} {g : Nat} {cs : Array Value} {e : TypeId} {o : Option Nat} (h : RowB w g cs e) (hb : w.grownBy w' o) (hne : ∀ x, o = some x → g ≠ x) : RowB w' g cs e :=
  ⟨(hb.block g h.lt (by intro e; exact hne g e.symm rfl)).trans h.out⟩
theorem below_own {w w' w'' : World} {o : Option Nat} (h : Below w.heap.size w w') (hb : w'.grownBy w'' o) (hne : ∀ x, o = some x → w.heap.size ≤ x) : Below w.heap.size w w'' :=
  ⟨hb.os.trans h.os, hb.tape.trans h.tape, hb.output.trans h.output, Nat.le_trans h.size hb.size, fun k hk => (hb.block k (Nat.lt_of_lt_of_le hk h.size) (by intro e; have := hne k e.symm; omega)).trans (h.block k hk)⟩
set_option maxHeartbeats 4000000 in
theorem c85 (n : Nat) (ih : ∀ m, n = m + 1 → KeyC m) : KeyC n := by
  intro w t cs S hI hok hS
  obtain ⟨A, a, c, K, m, d, rfl, hmag, hA, hmd, hkl, hkk⟩ := hI.head
  by_cases hk : t.kind < 6
  · obtain ⟨ht, hkids, hk0⟩ := VT.ok_lt hok hk
    have hm0 : m = 0 := by rw [← hkl, hkids]; rfl
    subst hm0
    obtain ⟨w1, hw1, b1, r0, r1, hsz⟩ : ∃ w1, ((w.alloc (.cells #[.int .i64 t.kind, .bool t.neg, .slice A a c, .int .u64 (t.bits : Int), .string t.text, .slice K 0 d] 36)).alloc (.cells zero36 36)) = w1 ∧ Below w.heap.size w w1 ∧
        RowB w1 w.heap.size #[.int .i64 t.kind, .bool t.neg, .slice A a c, .int .u64 (t.bits : Int), .string t.text, .slice K 0 d] 36 ∧ RowB w1 (w.heap.size + 1) zero36 36 ∧ w1.heap.size = w.heap.size + 1 + 1 :=
      ⟨_, rfl, below_alloc' (below_alloc' (Below.refl _ _) _) _, (RowB.new w _ _).alloc _, by
        have := RowB.new (w.alloc (.cells #[.int .i64 t.kind, .bool t.neg, .slice A a c, .int .u64 (t.bits : Int), .string t.text, .slice K 0 d] 36)) zero36 36
        rw [alloc_size] at this; exact this, by rw [alloc_size, alloc_size]⟩
    have e0 := r0.cell 0 _ rfl
    have e1 := r0.cell 1 _ rfl
    have e2 := r0.cell 2 _ rfl
    have e3 := r0.cell 3 _ rfl
    have e4 := r0.cell 4 _ rfl
    have e5 := r0.cell 5 _ rfl
    have fr4 := r0.free 4
    have hmin : min (t.text.size : Int) 60 = (t.text.size : Int) := by omega
    have hext : t.text.extract 0 t.text.size = t.text := by simp
    have HI := Lib.hid hI
    have HOK := Lib.hid hok
    clear hI hmag hkk hok
    unfold zero36 at hw1 r1
    have r2 := Lib.hid (r1.setNe ⟨w.heap.size, 4, none⟩ (.string t.text) (by simp))
    have e1' := (r0.set 4 (.string t.text) #[.int .i64 t.kind, .bool t.neg, .slice A a c, .int .u64 (t.bits : Int), .string t.text, .slice K 0 d] rfl)
    have k0 := e1'.cell 0 _ rfl
    have k1 := e1'.cell 1 _ rfl
    have k2 := e1'.cell 2 _ rfl
    have k3 := e1'.cell 3 _ rfl
    have k4 := e1'.cell 4 _ rfl
    have k5 := e1'.cell 5 _ rfl
    obtain ⟨f0, g0, f1, g1, f2, g2, f3, g3, f4, g4, f5, g5⟩ := facts36 r2.out (.int .i64 t.kind) (.bool t.neg) (.slice A a c) (.int .u64 (t.bits : Int)) (.string t.text)
    clear e1'
    have G1 := Lib.hid (grown_set (grown_refl w1 (some w.heap.size)) 4 (.string t.text))
    go_enter Tryz.func85, Tryz.ntmps85
    go_wp2_with fail
    refine bodyPost_ret (ret_row (set36 _ _ _ _ _ _ r2.out) rfl _ _ rfl Tryz.underlying36 rfl i36) rfl ?_
    have G2 := below_grown' (g := w.heap.size + 1) (below_grown' b1 G1.out (Nat.le_refl _)) (set36_grown _ _ (.int .i64 t.kind) (.bool t.neg) (.slice A a c) (.int .u64 (t.bits : Int)) (.string t.text) (.slice K 0 d)) (by omega)
    exact ⟨t, _, rfl, HOK.out, (by unfold VT.key; exact .inl ⟨hk0, hk⟩), (HI.out.below G2 hS).mono fun k hk => .inl hk, G2⟩
  · obtain ⟨hk9, hk16, n', rfl, hkids⟩ := VT.ok_ge hok (by omega)
    have hq : ¬ t.kind < 6 := hk
    obtain ⟨w1, hw1, b1, r0, r1, r2, hsz⟩ : ∃ w1, (((w.alloc (.cells #[.int .i64 t.kind, .bool t.neg, .slice A a c, .int .u64 (t.bits : Int), .string t.text, .slice K m d] 36)).alloc (.cells #[.int .i64 0, .bool false, .slice none 0 0, .int .u64 0, .string ⟨#[]⟩, .slice none 0 0] 36)).alloc (.cells #[.int .i64 0, .bool false, .slice none 0 0, .int .u64 0, .string ⟨#[]⟩, .slice none 0 0] 36)) = w1 ∧ Below w.heap.size w w1 ∧
        RowB w1 w.heap.size #[.int .i64 t.kind, .bool t.neg, .slice A a c, .int .u64 (t.bits : Int), .string t.text, .slice K m d] 36 ∧ RowB w1 (w.heap.size + 1) zero36 36 ∧
        RowB w1 (w.heap.size + 1 + 1) zero36 36 ∧ w1.heap.size = w.heap.size + 1 + 1 + 1 :=
      ⟨_, rfl, below_alloc' (below_alloc' (below_alloc' (Below.refl _ _) _) _) _, ((RowB.new w _ _).alloc _).alloc _, by
        have := RowB.new (w.alloc (.cells #[.int .i64 t.kind, .bool t.neg, .slice A a c, .int .u64 (t.bits : Int), .string t.text, .slice K m d] 36)) zero36 36
        rw [alloc_size] at this; exact this.alloc _, by
        have := RowB.new ((w.alloc (.cells #[.int .i64 t.kind, .bool t.neg, .slice A a c, .int .u64 (t.bits : Int), .string t.text, .slice K m d] 36)).alloc (.cells #[.int .i64 0, .bool false, .slice none 0 0, .int .u64 0, .string ⟨#[]⟩, .slice none 0 0] 36)) zero36 36
        rw [alloc_size, alloc_size] at this; exact this, by rw [alloc_size, alloc_size, alloc_size]⟩
    have e0 := r0.cell 0 _ rfl
    have HI := Lib.hid hI
    have HOK := Lib.hid hok
    have HK := Lib.hid hkids
    have HIH := Lib.hid (ih n' rfl)
    have hm16 : m ≤ 16 := by omega
    clear hI hmag hkk hok hkids ih
    unfold zero36 at r1 r2
    have R0 := Lib.hid r0
    have R1 := Lib.hid r1
    have R2 := Lib.hid r2
    clear r0 r1 r2
    obtain ⟨f0, g0, f1, g1, f2, g2, f3, g3, f4, g4, f5, g5⟩ := facts36 R2.out (.int .i64 7) (.bool false) (.slice none 0 0) (.int .u64 0) (.string ⟨#[]⟩)
    go_enter Tryz.func85, Tryz.ntmps85
    go_wp2_with fail
    clear hw1 f0 g0 f1 g1 f2 g2 f3 g3 f4 g4 f5 g5
    go_loopw [4] (fun vi wr => ∃ (i : Nat) (v : Value) (ts : List VT), i ≤ m ∧ vi = .int .i64 (i : Int) ∧ Hid (RowB wr w.heap.size #[.int .i64 t.kind, .bool t.neg, .slice A a c, .int .u64 (t.bits : Int), .string t.text, .slice K m d] 36) ∧
      Hid (RowB wr (w.heap.size + 1) #[.int .i64 0, .bool false, .slice none 0 0, .int .u64 0, .string ⟨#[]⟩, .slice none 0 0] 36) ∧ Hid (RowB wr (w.heap.size + 1 + 1) #[.int .i64 7, .bool false, .slice none 0 0, .int .u64 0, .string ⟨#[]⟩, v] 36) ∧
      Kin n' (w.heap.size + 1 + 1 + 1) (fun k => S k ∨ w.heap.size + 1 + 1 + 1 ≤ k) wr v i ts ∧ Below w.heap.size w wr ∧ w.heap.size + 1 + 1 + 1 ≤ wr.heap.size ∧ (∀ k ∈ ts, VT.ok n' k ∧ VT.key n' k)) (fun vi _ => m - (intOf vi).toNat)
    case atStart => exact ⟨0, _, [], by omega, rfl, R0.out.grown (set36_grown _ _ _ _ _ _ _ _) (by omega), R1.out.grown (set36_grown _ _ _ _ _ _ _ _) (by omega), set36 _ _ _ _ _ _ R2.out, Kin.nil _ _ _ _, below_grown' b1 (set36_grown _ _ _ _ _ _ _ _) (by omega), by have := (set36_grown w1 (w.heap.size + 1 + 1) (.int .i64 7) (.bool false) (.slice none 0 0) (.int .u64 0) (.string ⟨#[]⟩) (.slice none 0 0)).size; exact Nat.le_trans (by omega) this, by simp⟩
    case round =>
      obtain ⟨i, v, ts, hi, rfl, r0, r1, r2, hK, hB, hsize, hts⟩ := hrel
      have e5 := r0.out.cell 5 _ rfl
      by_cases hlt : i < m
      · have hVw := HI.out.below hB hS
        obtain ⟨A1, a1, c1, K1, m1, d1, he, _, _, _, _, hkk⟩ := hVw.head
        have heK : K1 = K ∧ m1 = m := by simp at he; exact ⟨he.2.1.symm, he.2.2.1.symm⟩
        obtain ⟨rfl, rfl⟩ := heK
        obtain ⟨g, rfl, hSg, hkid⟩ := hkk.resolve_left (by omega)
        obtain ⟨cs, h6, hcs, hVk⟩ := hkid i hlt
        obtain ⟨A2, a2, c2, K2, m2, d2, rfl, _⟩ := VC.head (n := n') hVk
        have hkok := HK.out (t.kids.getD i default) (by rw [List.getD_eq_getElem?_getD, List.getElem?_eq_getElem (by rw [hkl]; exact hlt)]; exact List.getElem_mem (by rw [hkl]; exact hlt))
        generalize t.kids.getD i default = kid at *
        have z0 : wr.cell? ⟨g, i * 6, none⟩ = some (.int .i64 kid.kind) := hcs 0 (by omega)
        have z1 : wr.cell? ⟨g, i * 6 + 1, none⟩ = some (.bool kid.neg) := hcs 1 (by omega)
        have z2 : wr.cell? ⟨g, i * 6 + 2, none⟩ = some (.slice A2 a2 c2) := hcs 2 (by omega)
        have z3 : wr.cell? ⟨g, i * 6 + 3, none⟩ = some (.int .u64 (kid.bits : Int)) := hcs 3 (by omega)
        have z4 : wr.cell? ⟨g, i * 6 + 4, none⟩ = some (.string kid.text) := hcs 4 (by omega)
        have z5 : wr.cell? ⟨g, i * 6 + 5, none⟩ = some (.slice K2 m2 d2) := hcs 5 (by omega)
        clear hcs hkid hkk he hVw
        have q1 : (i : Int) < (m1 : Int) := by omega
        obtain ⟨Kv, dv, rfl, hdv1, hdv2, hKv⟩ := hK.shape
        have hSr : ∀ k, S k → k < wr.drew.heap.size := fun k hk => Nat.lt_of_lt_of_le (hS k hk) hB.size
        have HC := Lib.hid (HIH.out wr.drew _ _ S (VC.below (n := n') hVk (below_drew1 wr) hSr) hkok hSr)
        have KD := Lib.hid hK.drew
        have KB : Hid (∀ x, (Value.slice Kv i dv).ownBlock = some x → w.heap.size + 1 + 1 + 1 ≤ x ∧ x < wr.heap.size) := fun x hx => hK.block x hx
        have BD := Lib.hid (below_trans' hB (below_drew1 wr))
        have r0d := Lib.hid r0.out.drew
        have r1d := Lib.hid r1.out.drew
        have r2d := Lib.hid r2.out.drew
        have e25 := r2.out.cell 5 _ rfl
        clear hVk hkok hK
        go_upto_region 8 with (fail)
        go_region_law (first
          | (go_simp; go_at_call 85; refine HC.out.mono ?_; rintro e w2 ⟨t', cs', rfl, hok', hkey', hV', hB2⟩
             obtain ⟨A3, a3, c3, K3, m3, d3, rfl, _⟩ := VC.head (n := n') hV'
             have p5 := (r0d.out.below hB2).cell 5 _ rfl
             have p25 := (r2d.out.below hB2).cell 5 _ rfl
             have p26 := ((r2d.out.below hB2).alloc (.cells #[.int .i64 t'.kind, .bool t'.neg, .slice A3 a3 c3, .int .u64 (t'.bits : Int), .string t'.text, .slice K3 m3 d3] 36)).cell 5 _ rfl
             have HV := Lib.hid hV'; have HO := Lib.hid hok'; have HY := Lib.hid hkey'; clear hV' hok' hkey')
          | (have l2 := hB2.size
             have hdz : wr.drew.heap.size = wr.heap.size := rfl
             obtain ⟨v', w3, hrun, hK3, hg3⟩ := app36 (KD.out.below hB2) t' _ (ext S wr.drew.heap.size w2.heap.size) (fun k hk => hk.elim (fun h => ⟨Nat.lt_of_lt_of_le (hSr k h) l2, .inl h⟩) (fun h => ⟨h.2, .inr (by omega)⟩)) HV.out (fun x hx hc => hc.elim (fun h => by have := hS x h; have := KB.out x hx; omega) (fun h => by have := KB.out x hx; omega)) (by omega) (by omega) 34
             obtain ⟨K4, d4, rfl, hd41, hd42, hK4⟩ := hK3.shape
             have r3 := Lib.hid (((r2d.out.below hB2).alloc (.cells #[.int .i64 t'.kind, .bool t'.neg, .slice A3 a3 c3, .int .u64 (t'.bits : Int), .string t'.text, .slice K3 m3 d3] 36)).grownO hg3 (fun x hx => by have := KB.out x hx; omega))
             have y25 := r3.out.cell 5 _ rfl
             have x25 := r3.out.free 5
             have HK3 := Lib.hid hK3
             clear hK3
             refine step_append rfl (.tmp 26) (.tmp 33) 34 rfl _ _ _ _ rfl rfl hrun ?_))
        all_goals
          go_wp2_with fail
          have l2 := hB2.size
          have hdz : wr.drew.heap.size = wr.heap.size := rfl
          have r03 := ((r0d.out.below hB2).alloc (.cells #[.int .i64 t'.kind, .bool t'.neg, .slice A3 a3 c3, .int .u64 (t'.bits : Int), .string t'.text, .slice K3 m3 d3] 36)).grownO hg3 (fun x hx => by have := KB.out x hx; omega)
          have r13 := ((r1d.out.below hB2).alloc (.cells #[.int .i64 t'.kind, .bool t'.neg, .slice A3 a3 c3, .int .u64 (t'.bits : Int), .string t'.text, .slice K3 m3 d3] 36)).grownO hg3 (fun x hx => by have := KB.out x hx; omega)
          have b3 : Below w.heap.size w w3 := below_own (below_alloc' (below_trans' BD.out hB2) (.cells #[.int .i64 t'.kind, .bool t'.neg, .slice A3 a3 c3, .int .u64 (t'.bits : Int), .string t'.text, .slice K3 m3 d3] 36)) hg3 (fun x hx => by have := KB.out x hx; omega)
          have hg5 := grown_set (grown_refl w3 (some (w.heap.size + 1 + 1))) 5 (.slice K4 (i + 1) d4)
          have l3 := hg3.size
          have l4 := alloc_size w2 (.cells #[.int .i64 t'.kind, .bool t'.neg, .slice A3 a3 c3, .int .u64 (t'.bits : Int), .string t'.text, .slice K3 m3 d3] 36)
          go_roundw
          case rel =>
            refine ⟨i + 1, _, ts ++ [t'], by omega, by go_num, r03.grown hg5 (by omega), r13.grown hg5 (by omega), r3.out.set 5 _ _ rfl, HK3.out.grown hg5 (by omega) (fun h => h.elim (fun h => by have := hS _ h; omega) (fun h => by omega)), below_grown' b3 hg5 (by omega), Nat.le_trans (by omega) hg5.size, ?_⟩
            intro k hk
            rcases List.mem_append.1 hk with h | h
            · exact hts k h
            · rw [List.mem_singleton.1 h]; exact ⟨HO.out, HY.out⟩
          case measure => simp [intOf]; omega
      · have him : i = m := by omega
        subst him
        obtain ⟨Kv, dv, rfl, hdv1, hdv2, hKv⟩ := hK.shape
        have k0 := r2.out.cell 0 _ rfl
        have k1 := r2.out.cell 1 _ rfl
        have k2 := r2.out.cell 2 _ rfl
        have k3 := r2.out.cell 3 _ rfl
        have k4 := r2.out.cell 4 _ rfl
        have k5 := r2.out.cell 5 _ rfl
        obtain ⟨f0, g0, f1, g1, f2, g2, f3, g3, f4, g4, f5, g5⟩ := facts36 r1.out (.int .i64 7) (.bool false) (.slice none 0 0) (.int .u64 0) (.string ⟨#[]⟩)
        have HK := Lib.hid hK
        have KL := Lib.hid hK.len
        clear hK
        go_wp2_with fail
        refine bodyPost_ret (ret_row (set36 _ _ _ _ _ _ r1.out) rfl _ _ rfl Tryz.underlying36 rfl i36) rfl ?_
        have hgr := set36_grown wr (w.heap.size + 1) (.int .i64 7) (.bool false) (.slice none 0 0) (.int .u64 0) (.string ⟨#[]⟩) (.slice Kv i dv)
        have hKf := HK.out.grown hgr (by omega) (fun h => h.elim (fun h => by have := hS _ h; omega) (fun h => by omega))
        refine ⟨⟨7, false, [], 0, ⟨#[]⟩, ts⟩, _, rfl, ?_, ?_, ?_, below_grown' hB hgr (by omega)⟩
        · unfold VT.ok
          refine ⟨by simp, by simp, .inr (.inr (.inr (.inr (.inr ⟨by simp, by simp, rfl, rfl, rfl, rfl, ?_, by simp, fun k hk => (hts k hk).1⟩))))⟩
          show ts.length ≤ _
          rw [KL.out]
          simp; omega
        · unfold VT.key
          exact .inr ⟨rfl, fun k hk => (hts k hk).2⟩
        · refine VC.ofHead ⟨none, 0, 0, Kv, i, dv, rfl, ByteS.nil _ _, fun _ => ⟨rfl, rfl⟩, hdv1, ?_⟩
          exact hKf.get _ (fun k h1 h2 => .inr ⟨by omega, h2⟩) (fun k h1 h2 => h1.elim .inl (fun h => .inr ⟨by omega, h2⟩))
end Go.Proofs.YtpfihjkhgfoijaaGreatDoor
namespace Go.Proofs.YtpfihjkhgfoijaaGreatDoor
open Go.RowKit

/-- two floats are one key -/
def fEq (u v : Nat) : Bool := Op.floatEq .f64 u v || (!Op.floatEq .f64 u u && !Op.floatEq .f64 v v)
/-- a float is worth the integer z -/
def ifEq (z : Int) (u : Nat) : Prop := u / 2 ^ 52 % 2048 ≠ 2047 ∧
  z * 2 ^ 1074 = (if u / 2 ^ 63 % 2 = 1 then -1 else 1) * (((if u / 2 ^ 52 % 2048 = 0 then u % 2 ^ 52 else u % 2 ^ 52 + 2 ^ 52) * 2 ^ (u / 2 ^ 52 % 2048 - 1) : Nat) : Int)
def VT.num (t : VT) : Prop := t.kind = 2 ∨ t.kind = 3
def numEq (a b : VT) : Prop :=
  (a.kind = 2 ∧ b.kind = 2 ∧ bz a.neg a.mag = bz b.neg b.mag) ∨ (a.kind = 2 ∧ b.kind = 3 ∧ ifEq (bz a.neg a.mag) b.bits) ∨
  (a.kind = 3 ∧ b.kind = 2 ∧ ifEq (bz b.neg b.mag) a.bits) ∨ (a.kind = 3 ∧ b.kind = 3 ∧ fEq a.bits b.bits = true)
/-- two keys are one -/
def EqT : Nat → VT → VT → Prop
  | n, a, b => numEq a b ∨ (a.kind = b.kind ∧ ¬ a.num ∧ (a.kind = 1 → a.bits = b.bits) ∧ a.text = b.text ∧ a.kids.length = b.kids.length ∧
      match n with
      | 0 => True
      | n + 1 => ∀ i, i < a.kids.length → EqT n (a.kids.getD i default) (b.kids.getD i default))
/-- what is asked of spec.Equal -/
def EqC (n : Nat) : Prop := ∀ (w : World) (a b : VT) (ca cb : Array Value) (S S' : BS), VC n S w a ca → VC n S' w b cb → VT.ok n a → VT.ok n b → VT.key n a → VT.key n b → (∀ k, S k → k < w.heap.size) → (∀ k, S' k → k < w.heap.size) →
  Calls Tryz.prog 86 #[.agg ca, .agg cb] w fun e w' => ∃ r, e = .returned (.bool r) ∧ (EqT n a b → r = true) ∧ Below w.heap.size w w'

set_option maxHeartbeats 2000000 in
theorem c43 (n : Nat) (hE : EqC n) (K : Option Addr) (m d : Nat) (ts : List VT) (st : Nat) (b : VT) (cb : Array Value) (S S' : BS) (w : World) (hK : KidC (VC n S w) S w K m ts) (hb : VC n S' w b cb)
    (hS : ∀ k, S k → k < w.heap.size) (hS' : ∀ k, S' k → k < w.heap.size) (hst : 0 < st) (hst2 : st ≤ 2) (hm : m ≤ 100)
    (hts : ∀ i, i < m → i % st = 0 → VT.ok n (ts.getD i default) ∧ VT.key n (ts.getD i default)) (hbo : VT.ok n b) (hbk : VT.key n b) :
    Calls Tryz.prog 43 #[.slice K m d, .int .i64 (st : Int), .agg cb] w fun e w' => ∃ r : Int, e = .returned (.int .i64 r) ∧ (r < 0 → ∀ i, i < m → i % st = 0 → ¬ EqT n (ts.getD i default) b) ∧ Below w.heap.size w w' := by
  obtain ⟨A, a, c, K1, m1, d1, rfl, _⟩ := hb.head
  obtain ⟨w1, hw1, b1, r1⟩ : ∃ w1, w.alloc (.cells #[.int .i64 b.kind, .bool b.neg, .slice A a c, .int .u64 (b.bits : Int), .string b.text, .slice K1 m1 d1] 36) = w1 ∧ Below w.heap.size w w1 ∧ RowB w1 w.heap.size #[.int .i64 b.kind, .bool b.neg, .slice A a c, .int .u64 (b.bits : Int), .string b.text, .slice K1 m1 d1] 36 :=
    ⟨_, rfl, below_alloc' (Below.refl _ _) _, RowB.new w _ _⟩
  have HB := Lib.hid hb
  have HBO := Lib.hid (And.intro hbo hbk)
  have HT := Lib.hid hts
  have HK := Lib.hid hK
  have HE := Lib.hid hE
  have R1 := Lib.hid r1
  clear hb hbo hbk hts hK hE r1
  go_enter Tryz.func43, Tryz.ntmps43
  go_wp2_with fail
  try rw [hw1]
  clear hw1
  go_loopw [7] (fun vi wr => ∃ (i : Nat), i % st = 0 ∧ i ≤ m + 1 ∧ vi = .int .i64 (i : Int) ∧ Below w.heap.size w wr ∧ Hid (RowB wr w.heap.size #[.int .i64 b.kind, .bool b.neg, .slice A a c, .int .u64 (b.bits : Int), .string b.text, .slice K1 m1 d1] 36) ∧ (∀ j, j < i → j < m → j % st = 0 → ¬ EqT n (ts.getD j default) b)) (fun vi _ => m + 2 - (intOf vi).toNat)
  case atStart => exact ⟨0, by simp, by omega, rfl, b1, R1.out, by omega⟩
  case round =>
    obtain ⟨i, him, hi, rfl, hB, r1, hno⟩ := hrel
    by_cases hlt : i < m
    · obtain ⟨g, rfl, hSg, hkid⟩ := HK.out.2.resolve_left (by omega)
      obtain ⟨cs, h6, hcs, hVk⟩ := hkid i hlt
      obtain ⟨A2, a2, c2, K2, m2, d2, rfl, _⟩ := hVk.head
      have hko := HT.out i hlt him
      generalize hkd : ts.getD i default = kid at *
      have z0 : wr.cell? ⟨g, i * 6, none⟩ = some (.int .i64 kid.kind) := below_cell hB (hcs 0 (by omega))
      have z1 : wr.cell? ⟨g, i * 6 + 1, none⟩ = some (.bool kid.neg) := below_cell hB (hcs 1 (by omega))
      have z2 : wr.cell? ⟨g, i * 6 + 2, none⟩ = some (.slice A2 a2 c2) := below_cell hB (hcs 2 (by omega))
      have z3 : wr.cell? ⟨g, i * 6 + 3, none⟩ = some (.int .u64 (kid.bits : Int)) := below_cell hB (hcs 3 (by omega))
      have z4 : wr.cell? ⟨g, i * 6 + 4, none⟩ = some (.string kid.text) := below_cell hB (hcs 4 (by omega))
      have z5 : wr.cell? ⟨g, i * 6 + 5, none⟩ = some (.slice K2 m2 d2) := below_cell hB (hcs 5 (by omega))
      have e0 := r1.out.cell 0 _ rfl
      have e1 := r1.out.cell 1 _ rfl
      have e2 := r1.out.cell 2 _ rfl
      have e3 := r1.out.cell 3 _ rfl
      have e4 := r1.out.cell 4 _ rfl
      have e5 := r1.out.cell 5 _ rfl
      have q1 : (i : Int) < (m : Int) := by omega
      have hSr : ∀ k, S k → k < wr.drew.heap.size := fun k hk => Nat.lt_of_lt_of_le (hS k hk) hB.size
      have hSr' : ∀ k, S' k → k < wr.drew.heap.size := fun k hk => Nat.lt_of_lt_of_le (hS' k hk) hB.size
      have HC := Lib.hid (HE.out wr.drew _ _ _ _ S S' ((hVk.below hB hS).below (below_drew1 wr) hSr) ((HB.out.below hB hS').below (below_drew1 wr) hSr') hko.1 HBO.out.1 hko.2 HBO.out.2 hSr hSr')
      have HKD := Lib.hid hkd
      clear hcs hVk hko hkid hkd
      go_upto_region 4 with (fail)
      go_region_law (first | (go_simp; go_at_call 86; refine HC.out.mono ?_; rintro e w2 ⟨r, rfl, hr, hB2⟩))
      all_goals
        have b2 := below_trans' (below_trans' hB (below_drew1 wr)) hB2
        have HR := Lib.hid hr
        clear hr
        have r2 := (r1.out.drew).below hB2
        cases r
        · go_wp2_with fail
          go_roundw
          case rel =>
            refine ⟨i + st, by rw [Nat.add_mod_right]; exact him, by omega, by go_num, b2, r2, fun j hj hjm hjs hEq => ?_⟩
            by_cases hji : j < i
            · exact hno j hji hjm hjs hEq
            · have hje : j = i := by
                have h1 : (j - i) % st = 0 := by
                  rw [show j = i + (j - i) from by omega, Nat.add_mod, him] at hjs
                  simpa using hjs
                have h2 : j - i < st := by omega
                rw [Nat.mod_eq_of_lt h2] at h1
                omega
              subst hje
              rw [HKD.out] at hEq
              have := HR.out hEq
              cases this
          case measure => simp [intOf]; omega
        · go_wp2_with fail
          go_ret
          exact ⟨_, rfl, fun h => absurd h (by omega), b2⟩
    · have q1 : ¬ (i : Int) < (m : Int) := by omega
      go_wp2_with fail
      go_ret
      exact ⟨_, rfl, fun _ j hj hjs => hno j (by omega) hj hjs, hB⟩
end Go.Proofs.YtpfihjkhgfoijaaGreatDoor
namespace Go.Proofs.YtpfihjkhgfoijaaGreatDoor
open Go.RowKit

theorem VC.kids {n : Nat} {S : BS} {w : World} {t : VT} {x0 x1 x2 x3 x4 : Value} {K : Option Addr} {m d : Nat} (h : VC (n + 1) S w t #[x0, x1, x2, x3, x4, .slice K m d]) : KidC (VC n S w) S w K m t.kids := by
  obtain ⟨A1, a1, c1, K1, m1, d1, he, _, _, _, hk⟩ := h.head
  simp at he
  obtain ⟨_, _, _, _, _, h1, h2, _⟩ := he
  subst h1 h2
  exact hk
/-- the i-th kid, in a later world -/
theorem KidC.at {n : Nat} {S : BS} {w : World} {K : Option Addr} {m : Nat} {ts : List VT} (h : KidC (VC n S w) S w K m ts) (hS : ∀ k, S k → k < w.heap.size) (i : Nat) (hi : i < m) {wr : World} (hB : Below w.heap.size w wr) :
    ∃ g A a c K2 m2 d2, K = some ⟨g, 0, none⟩ ∧ S g ∧
      VC n S wr (ts.getD i default) #[.int .i64 (ts.getD i default).kind, .bool (ts.getD i default).neg, .slice A a c, .int .u64 ((ts.getD i default).bits : Int), .string (ts.getD i default).text, .slice K2 m2 d2] ∧
      wr.cell? ⟨g, i * 6, none⟩ = some (.int .i64 (ts.getD i default).kind) ∧ wr.cell? ⟨g, i * 6 + 1, none⟩ = some (.bool (ts.getD i default).neg) ∧ wr.cell? ⟨g, i * 6 + 2, none⟩ = some (.slice A a c) ∧
      wr.cell? ⟨g, i * 6 + 3, none⟩ = some (.int .u64 ((ts.getD i default).bits : Int)) ∧ wr.cell? ⟨g, i * 6 + 4, none⟩ = some (.string (ts.getD i default).text) ∧ wr.cell? ⟨g, i * 6 + 5, none⟩ = some (.slice K2 m2 d2) := by
  obtain ⟨g, rfl, hSg, hkid⟩ := h.2.resolve_left (by omega)
  obtain ⟨cs, h6, hcs, hVk⟩ := hkid i hi
  obtain ⟨A2, a2, c2, K2, m2, d2, rfl, _⟩ := hVk.head
  exact ⟨g, A2, a2, c2, K2, m2, d2, rfl, hSg, hVk.below hB hS, below_cell hB (hcs 0 (by omega)), below_cell hB (hcs 1 (by omega)), below_cell hB (hcs 2 (by omega)), below_cell hB (hcs 3 (by omega)), below_cell hB (hcs 4 (by omega)), below_cell hB (hcs 5 (by omega))⟩

def HashC (n : Nat) : Prop := ∀ (w : World) (t : VT) (cs : Array Value) (S : BS), VC n S w t cs → VT.ok n t → (∀ k, S k → k < w.heap.size) →
  Calls Tryz.prog 42 #[.agg cs] w fun e w' => ∃ r, e = .returned (.bool r) ∧ (r = true → VT.key n t) ∧ Below w.heap.size w w'
set_option maxHeartbeats 4000000 in
theorem c42 (n : Nat) (ih : ∀ m, n = m + 1 → HashC m) : HashC n := by
  intro w t cs S hI hok hS
  obtain ⟨A, a, c, K, m, d, rfl, _, _, hmd, hkl, _⟩ := hI.head
  obtain ⟨w1, hw1, b1, r1⟩ : ∃ w1, w.alloc (.cells #[.int .i64 t.kind, .bool t.neg, .slice A a c, .int .u64 (t.bits : Int), .string t.text, .slice K m d] 36) = w1 ∧ Below w.heap.size w w1 ∧ RowB w1 w.heap.size #[.int .i64 t.kind, .bool t.neg, .slice A a c, .int .u64 (t.bits : Int), .string t.text, .slice K m d] 36 :=
    ⟨_, rfl, below_alloc' (Below.refl _ _) _, RowB.new w _ _⟩
  have e0 := r1.cell 0 _ rfl
  have R1 := Lib.hid r1
  clear r1
  by_cases h7 : t.kind = 7
  · obtain ⟨hk9, hk16, n', rfl, hkids⟩ := VT.ok_ge hok (by omega)
    have hKC := Lib.hid hI.kids
    have HK := Lib.hid hkids
    have HIH := Lib.hid (ih n' rfl)
    have hm16 : m ≤ 16 := by omega
    have q7 : (t.kind == 7) = true := by rw [h7]; rfl
    have H7 := Lib.hid h7
    clear hI hok hkids ih h7
    go_enter Tryz.func42, Tryz.ntmps42
    go_wp2_with fail
    clear hw1
    go_loopw [3] (fun vi wr => ∃ (i : Nat), i ≤ m ∧ vi = .int .i64 (i : Int) ∧ Below w.heap.size w wr ∧ Hid (RowB wr w.heap.size #[.int .i64 t.kind, .bool t.neg, .slice A a c, .int .u64 (t.bits : Int), .string t.text, .slice K m d] 36) ∧ (∀ j, j < i → VT.key n' (t.kids.getD j default))) (fun vi _ => m - (intOf vi).toNat)
    case atStart => exact ⟨0, by omega, rfl, b1, R1.out, by omega⟩
    case round =>
      obtain ⟨i, hi, rfl, hB, r1, hys⟩ := hrel
      have e5 := r1.out.cell 5 _ rfl
      by_cases hlt : i < m
      · obtain ⟨g, A2, a2, c2, K2, m2, d2, rfl, hSg, hVk, z0, z1, z2, z3, z4, z5⟩ := hKC.out.at hS i hlt hB
        have hkok := HK.out (t.kids.getD i default) (by rw [List.getD_eq_getElem?_getD, List.getElem?_eq_getElem (by rw [hkl]; exact hlt)]; exact List.getElem_mem (by rw [hkl]; exact hlt))
        have hSr : ∀ k, S k → k < wr.heap.size := fun k hk => Nat.lt_of_lt_of_le (hS k hk) hB.size
        have HC := Lib.hid (HIH.out wr _ _ S hVk hkok hSr)
        generalize hkd : t.kids.getD i default = kid at *
        have HKD := Lib.hid hkd
        have q1 : (i : Int) < (m : Int) := by omega
        clear hVk hkok hkd
        go_wp2_with fail
        refine HC.out.mono ?_
        rintro e w2 ⟨r, rfl, hr, hB2⟩
        have b2 := below_trans' hB hB2
        have r2 := r1.out.below hB2
        have HR := Lib.hid hr
        clear hr
        cases r
        · go_wp2_with fail
          go_ret
          exact ⟨_, rfl, by simp, b2⟩
        · go_wp2_with fail
          go_roundw
          case rel =>
            refine ⟨i + 1, by omega, by go_num, b2, r2, fun j hj => ?_⟩
            by_cases hji : j < i
            · exact hys j hji
            · have : j = i := by omega
              subst this
              rw [HKD.out]; exact HR.out trivial
          case measure => simp [intOf]; omega
      · have him : i = m := by omega
        subst him
        go_wp2_with fail
        go_ret
        refine ⟨_, rfl, fun _ => ?_, hB⟩
        unfold VT.key
        refine .inr ⟨H7.out, fun k hk => ?_⟩
        obtain ⟨j, hj, rfl⟩ := List.mem_iff_getElem.1 hk
        have := hys j (by omega)
        rwa [List.getD_eq_getElem?_getD, List.getElem?_eq_getElem hj] at this
  · have q7 : (t.kind == 7) = false := by rw [beq_eq_false_iff_ne]; exact h7
    by_cases h6 : t.kind < 6
    · have hkey : VT.key n t := by unfold VT.key; exact .inl ⟨(VT.ok_lt hok h6).2.2, h6⟩
      have HKY := Lib.hid hkey
      clear hI hok ih hkey
      go_enter Tryz.func42, Tryz.ntmps42
      go_wp2_with fail
      go_ret
      exact ⟨_, rfl, fun _ => HKY.out, b1⟩
    · clear hI hok ih
      go_enter Tryz.func42, Tryz.ntmps42
      go_wp2_with fail
      go_ret
      exact .inl ⟨rfl, b1⟩
end Go.Proofs.YtpfihjkhgfoijaaGreatDoor
namespace Go.Proofs.YtpfihjkhgfoijaaGreatDoor
open Go.RowKit

def SizeC (n : Nat) : Prop := ∀ (w : World) (t : VT) (cs : Array Value) (S : BS) (most : Int), VC n S w t cs → VT.ok n t → (∀ k, S k → k < w.heap.size) → 2 * (17 ^ n : Nat) - 1000000 ≤ most → most ≤ 1000 →
  Calls Tryz.prog 19 #[.agg cs, .int .i64 most] w fun e w' => ∃ r : Nat, e = .returned (.int .i64 (r : Int)) ∧ r ≤ 17 ^ n ∧ Below w.heap.size w w'
set_option maxHeartbeats 4000000 in
theorem c19 (n : Nat) (hn3 : n ≤ 3) (ih : ∀ m, n = m + 1 → SizeC m) : SizeC n := by
  intro w t cs S most hI hok hS hmo1 hmo2
  obtain ⟨A, a, c, K, m, d, rfl, _, _, hmd, hkl, _⟩ := hI.head
  obtain ⟨w1, hw1, b1, r1⟩ : ∃ w1, w.alloc (.cells #[.int .i64 t.kind, .bool t.neg, .slice A a c, .int .u64 (t.bits : Int), .string t.text, .slice K m d] 36) = w1 ∧ Below w.heap.size w w1 ∧ RowB w1 w.heap.size #[.int .i64 t.kind, .bool t.neg, .slice A a c, .int .u64 (t.bits : Int), .string t.text, .slice K m d] 36 :=
    ⟨_, rfl, below_alloc' (Below.refl _ _) _, RowB.new w _ _⟩
  have R1 := Lib.hid r1
  clear r1
  by_cases h6 : t.kind < 6
  · have hm0 : m = 0 := by rw [← hkl, (VT.ok_lt hok h6).2.1]; rfl
    subst hm0
    have e5 := R1.out.cell 5 _ rfl
    have hp : 1 ≤ 17 ^ n := Nat.pow_pos (by omega)
    have HP := Lib.hid hp
    clear hI hok ih hp hmo1
    go_enter Tryz.func19, Tryz.ntmps19
    go_wp2_with fail
    clear hw1
    go_loop [5, 6] (fun vn vi => vn = .int .i64 1 ∧ vi = .int .i64 0) (fun _ _ => 0)
    case atStart => exact ⟨rfl, rfl⟩
    case round =>
      obtain ⟨rfl, rfl⟩ := hrel
      go_wp2_with fail
      go_ret
      exact ⟨1, rfl, HP.out, b1⟩
  · obtain ⟨hk9, hk16, n', rfl, hkids⟩ := VT.ok_ge hok (by omega)
    have hKC := Lib.hid hI.kids
    have HK := Lib.hid hkids
    have HIH := Lib.hid (ih n' rfl)
    have hm16 : m ≤ 16 := by omega
    have hpow : 17 ^ (n' + 1) = 17 * 17 ^ n' := by rw [Nat.pow_succ]; omega
    have hp1 : 1 ≤ 17 ^ n' := Nat.pow_pos (by omega)
    have hp2 : 17 ^ n' ≤ 289 := by
      have : 17 ^ n' ≤ 17 ^ 2 := Nat.pow_le_pow_right (by omega) (by omega)
      omega
    rw [hpow] at hmo1
    have HPW := Lib.hid hpow
    have HIP : Hid (∀ (W : World) (t : VT) (cs : Array Value) (S : BS) (mo : Int), VC n' S W t cs → VT.ok n' t → (∀ k, S k → k < W.heap.size) → 2 * (17 ^ n' : Nat) - 1000000 ≤ mo → mo ≤ 1000 →
      Calls Tryz.prog 19 #[.agg cs, .int .i64 mo] W fun e w' => ∃ r : Nat, e = .returned (.int .i64 (r : Int)) ∧ r ≤ 17 ^ n' ∧ Below W.heap.size W w') := HIH.out
    generalize 17 ^ n' = Q at *
    clear hI hok hkids ih HIH hpow
    go_enter Tryz.func19, Tryz.ntmps19
    go_wp2_with fail
    clear hw1
    go_loopw [5, 6] (fun vn vi wr => ∃ (i s : Nat), i ≤ m ∧ s ≤ 1 + i * Q ∧ vn = .int .i64 (s : Int) ∧ vi = .int .i64 (i : Int) ∧ Below w.heap.size w wr ∧ Hid (RowB wr w.heap.size #[.int .i64 t.kind, .bool t.neg, .slice A a c, .int .u64 (t.bits : Int), .string t.text, .slice K m d] 36)) (fun _ vi _ => m - (intOf vi).toNat)
    case atStart => exact ⟨0, 1, by omega, by omega, rfl, rfl, b1, R1.out⟩
    case round =>
      obtain ⟨i, s, hi, hs, rfl, rfl, hB, r1⟩ := hrel
      have hsQ : i * Q ≤ 16 * Q := Nat.mul_le_mul_right _ (by omega)
      have e5 := r1.out.cell 5 _ rfl
      by_cases hlt : i < m
      · have q1 : (i : Int) < (m : Int) := by omega
        by_cases hsm : (s : Int) ≤ most
        · obtain ⟨g, A2, a2, c2, K2, m2, d2, rfl, hSg, hVk, z0, z1, z2, z3, z4, z5⟩ := hKC.out.at hS i hlt hB
          have hkok := HK.out (t.kids.getD i default) (by rw [List.getD_eq_getElem?_getD, List.getElem?_eq_getElem (by rw [hkl]; exact hlt)]; exact List.getElem_mem (by rw [hkl]; exact hlt))
          have hSr : ∀ k, S k → k < wr.heap.size := fun k hk => Nat.lt_of_lt_of_le (hS k hk) hB.size
          have HC := Lib.hid (HIP.out wr _ _ S (most - (s : Int)) hVk hkok hSr (by omega) (by omega))
          generalize t.kids.getD i default = kid at *
          clear hVk hkok
          go_wp2_with fail
          refine HC.out.mono ?_
          rintro e w2 ⟨r, rfl, hr, hB2⟩
          have b2 := below_trans' hB hB2
          have r2 := r1.out.below hB2
          go_wp2_with fail
          go_roundw
          case rel => exact ⟨i + 1, s + r, by omega, by rw [Nat.add_mul]; omega, by go_num, by go_num, b2, r2⟩
          case measure => simp [intOf]; omega
        · go_wp2_with fail
          go_ret
          exact ⟨s, rfl, by rw [HPW.out]; omega, hB⟩
      · have him : i = m := by omega
        subst him
        go_wp2_with fail
        go_ret
        exact ⟨s, rfl, by rw [HPW.out]; omega, hB⟩
end Go.Proofs.YtpfihjkhgfoijaaGreatDoor

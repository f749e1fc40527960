/- impl.dictOf; Names with trees under construction; impl.moduleTold; impl.ModuleOf. -/
import Derived.Test.YtpfihjkhgfoijaaGreatDoorQ29
import Derived.Test.YtpfihjkhgfoijaaGreatDoorQ30
import Derived.Test.YtpfihjkhgfoijaaGreatDoorQ28
set_option linter.unusedVariables false
set_option linter.unusedSimpArgs false
set_option maxRecDepth 100000
namespace Go.Proofs.YtpfihjkhgfoijaaGreatDoor
open Go.RowKit Go.Maps

abbrev NT := ByteArray × VT
/-- the bytes of a name -/
def nmL (x : NT) : List UInt8 := x.1.data.toList
/-- a slice of names with trees: m elements of seven cells each; all in blocks of S -/
def NmR (S : BS) (w : World) (K : Option Addr) (m : Nat) (L : List NT) : Prop :=
  L.length = m ∧ (m = 0 ∨ ∃ g, K = some ⟨g, 0, none⟩ ∧ S g ∧ ∀ i, i < m → ∃ cs : Array Value, w.cell? ⟨g, i * 7, none⟩ = some (.string (L.getD i default).1) ∧ (∀ j, j < 6 → w.cell? ⟨g, i * 7 + 1 + j, none⟩ = cs[j]?) ∧ VC 3 S w (L.getD i default).2 cs)
theorem NmR.agree {S : BS} {w W : World} {K : Option Addr} {m : Nat} {L : List NT} (h : NmR S w K m L) (hW : ∀ k, S k → W.heap[k]? = w.heap[k]?) : NmR S W K m L := by
  obtain ⟨hl, h0 | ⟨g, eK, hg, hk⟩⟩ := h
  · exact ⟨hl, .inl h0⟩
  · refine ⟨hl, .inr ⟨g, eK, hg, fun i hi => ?_⟩⟩
    obtain ⟨cs, h1, h2, h3⟩ := hk i hi
    exact ⟨cs, (World.cell?_of_block (hW g hg)).trans h1, fun j hj => (World.cell?_of_block (hW g hg)).trans (h2 j hj), h3.agree hW⟩
theorem NmR.below {S : BS} {w W : World} {K : Option Addr} {m : Nat} {L : List NT} (h : NmR S w K m L) (hS : ∀ k, S k → k < w.heap.size) (hb : Below w.heap.size w W) : NmR S W K m L := h.agree fun k hk => hb.block k (hS k hk)
theorem NmR.mono {S S' : BS} {w : World} {K : Option Addr} {m : Nat} {L : List NT} (h : NmR S w K m L) (h1 : ∀ k, S k → S' k) : NmR S' w K m L := by
  obtain ⟨hl, h0 | ⟨g, eK, hg, hk⟩⟩ := h
  · exact ⟨hl, .inl h0⟩
  · refine ⟨hl, .inr ⟨g, eK, h1 g hg, fun i hi => ?_⟩⟩
    obtain ⟨cs, k1, k2, k3⟩ := hk i hi
    exact ⟨cs, k1, k2, k3.mono h1⟩
/-- a tree that toldVal gives -/
def GoodT (t : VT) : Prop := VT.ok 3 t ∧ KK 3 t ∧ VT.mak 3 t
/-- a name that toldName gives -/
def NmOk (s : ByteArray) : Prop := s.size ≤ 8 ∧ s.data.toList.head? = some 110
/-- the dictionary D has the first i names of L, with the values vs -/
def DictOK (D : DataW Value) (L : List NT) (vs : Nat → Value) (i : Nat) : Prop :=
  (∀ x, Maps.has D (.string x) = decide (x ∈ (L.take i).map nmL)) ∧ ∀ j, j < i → ∀ zd, D.atKey (.string (nmL (L.getD j default))) zd = .held (vs j)
theorem take_succ_map (L : List NT) (i : Nat) (h : i < L.length) : (L.take (i + 1)).map nmL = (L.take i).map nmL ++ [nmL (L.getD i default)] := by
  rw [List.take_add_one, List.getElem?_eq_getElem h, List.map_append, List.getD_eq_getElem?_getD, List.getElem?_eq_getElem h]; rfl
theorem nm_new {L : List NT} (h : (L.map nmL).Nodup) {i : Nat} (hi : i < L.length) : nmL (L.getD i default) ∉ (L.take i).map nmL := by
  have e : L.map nmL = (L.take (i + 1)).map nmL ++ (L.drop (i + 1)).map nmL := by rw [← List.map_append, List.take_append_drop]
  rw [e, take_succ_map L i hi] at h
  have h1 := (List.nodup_append.1 (List.nodup_append.1 h).1).2.2
  intro hm
  exact h1 _ hm _ (by simp) rfl
theorem nm_ne {L : List NT} (h : (L.map nmL).Nodup) {i j : Nat} (hi : i < L.length) (hj : j < i) : nmL (L.getD j default) ≠ nmL (L.getD i default) := by
  intro e
  apply nm_new h hi
  rw [← e]
  refine List.mem_map.2 ⟨L.getD j default, ?_, rfl⟩
  have : (L.take i)[j]? = some (L.getD j default) := by
    rw [List.getElem?_take_of_lt hj, List.getD_eq_getElem?_getD, List.getElem?_eq_getElem (by omega)]; rfl
  exact List.mem_of_getElem? this
theorem DictOK.start (L : List NT) (vs : Nat → Value) : DictOK (.map []) L vs 0 := ⟨fun x => by simp [Maps.has_eq], fun j hj => by omega⟩
theorem DictOK.step {D : DataW Value} {L : List NT} {vs : Nat → Value} {i : Nat} (h : DictOK D L vs i) (hD : IsMap D) (hnd : (L.map nmL).Nodup) (hi : i < L.length) (v : Value) :
    DictOK (D.put (.string (nmL (L.getD i default))) (.held v)) L (fun j => if j = i then v else vs j) (i + 1) := by
  have hk : WideAt.IsKeyLit (.string (nmL (L.getD i default))) := trivial
  refine ⟨fun x => ?_, fun j hj zd => ?_⟩
  · rw [take_succ_map L i hi]
    by_cases e : x = nmL (L.getD i default)
    · subst e
      rw [Maps.has_put_same hD hk]; simp
    · rw [Maps.has_put_other (by simpa using e), h.1 x, decide_eq_decide, List.mem_append, List.mem_singleton]
      exact ⟨.inl, fun h => h.resolve_right e⟩
  · by_cases e : j = i
    · subst e
      rw [Maps.atKey_put_same hD hk]; show _ = DataW.held (if j = j then v else vs j); rw [if_pos rfl]
    · rw [Maps.atKey_put_other (by have := nm_ne hnd hi (j := j) (by omega); simpa using this), h.2 j (by omega)]; show _ = DataW.held (if j = i then v else vs j); rw [if_neg e]
theorem DictOK.no {D : DataW Value} {L : List NT} {vs : Nat → Value} {i : Nat} (h : DictOK D L vs i) (hnd : (L.map nmL).Nodup) (hi : i < L.length) : Maps.has D (.string (nmL (L.getD i default))) = false := by
  rw [h.1]; exact decide_eq_false (nm_new hnd hi)
def DictP (m : Nat) (L : List NT) (w : World) (e : Ending) (w' : World) : Prop :=
  ∃ B D vs, e = .returned (.tuple #[.map (some B), .bool true]) ∧ w'.ownsMap Tryz.prog 9 Rv B m D ∧ DictOK D L vs m ∧ (∀ j, j < m → SVp 3 w' (L.getD j default).2 (vs j)) ∧ Below w.heap.size w w'
set_option maxHeartbeats 4000000 in
theorem c11 (S : BS) (K : Option Addr) (m d : Nat) (L : List NT) (w : World) (hR : NmR S w K m L) (hS : ∀ k, S k → k < w.heap.size) (hm : m ≤ 5) (hmd : m ≤ d) (hok : ∀ x ∈ L, GoodT x.2 ∧ NmOk x.1) (hnd : (L.map nmL).Nodup)
    (h9 : w.cell? ⟨9, 0, none⟩ = some (.int .i64 40)) (h8 : w.cell? ⟨8, 0, none⟩ = some (.int .i64 10)) : Calls Tryz.prog 11 #[.slice K m d] w (DictP m L w) := by
  have hmm := @run_makeMap Tryz.prog
  have HR := Lib.hid hR
  have HOK := Lib.hid hok
  have HND := Lib.hid hnd
  have hl := hR.1
  have HL := Lib.hid hl
  have HS := Lib.hid hS
  have H9 := Lib.hid h9
  have H8 := Lib.hid h8
  have HM0 := Lib.hid (World.ownsMap_made w Tryz.prog 9 Rv)
  have HB0 : Hid (Below w.heap.size w (w.alloc (.map #[] 0))) := below_alloc' (Below.refl _ _) _
  have HZ0 : Hid ((w.alloc (.map #[] 0)).heap.size = w.heap.size + 1) := alloc_size _ _
  clear hR hS hok hnd hl h9 h8
  go_enter Tryz.func11, Tryz.ntmps11
  go_wp2_with fail
  clear hmm
  go_loopw [12] (fun vi wr => ∃ (i : Nat) (D : DataW Value) (vs : Nat → Value), i ≤ m ∧ vi = .int .i64 (i : Int) ∧ Hid (wr.ownsMap Tryz.prog 9 Rv w.heap.size i D) ∧ Hid (DictOK D L vs i) ∧ Hid (∀ j, j < i → Sits (w.heap.size + 1) (fun W => SVp 3 W (L.getD j default).2 (vs j)) wr) ∧ Hid (Below w.heap.size w wr) ∧ w.heap.size + 1 ≤ wr.heap.size) (fun vi _ => m - (intOf vi).toNat)
  case atStart => exact ⟨0, _, fun _ => .nilIface, by omega, rfl, HM0.out, DictOK.start L _, fun j hj => by omega, HB0.out, by rw [HZ0.out]; exact Nat.le_refl _⟩
  case round =>
    obtain ⟨i, D, vs, hi, rfl, hO, hD, hV, hB, hsz⟩ := hrel
    by_cases hlt : i < m
    · have hiL : i < L.length := by rw [HL.out]; exact hlt
      obtain ⟨g, rfl, hSg, hcell⟩ := HR.out.2.resolve_left (by omega)
      obtain ⟨cs, h1, h2, h3⟩ := hcell i hlt
      obtain ⟨⟨gok, gkk, gmak⟩, gnm⟩ := HOK.out _ (getD_mem' hiL)
      have hno := Lib.hid (hD.out.no HND.out hiL)
      have hstep := Lib.hid (fun v => hD.out.step hO.out.isMap HND.out hiL v)
      generalize ex : L.getD i default = x at h1 h3 gok gkk gmak gnm hno hstep
      obtain ⟨s, t⟩ := x
      obtain ⟨A, a, c, Kt, mt, dt, rfl, _⟩ := h3.head
      have kS := below_cell hB.out h1
      have k0 := below_cell hB.out (h2 0 (by omega))
      have k1 := below_cell hB.out (h2 1 (by omega))
      have k2 := below_cell hB.out (h2 2 (by omega))
      have k3 := below_cell hB.out (h2 3 (by omega))
      have k4 := below_cell hB.out (h2 4 (by omega))
      have k5 := below_cell hB.out (h2 5 (by omega))
      simp only [Nat.add_zero] at k0
      have hbA : Below w.heap.size w (wr.alloc (.cells #[.string s, .int .i64 t.kind, .bool t.neg, .slice A a c, .int .u64 (t.bits : Int), .string t.text, .slice Kt mt dt] 38)) := below_alloc' hB.out _
      have H26 := Lib.hid (ValC_all 3 (by omega) _ t _ S (h3.below hbA HS.out) gok gmak gkk (fun k hk => Nat.lt_of_lt_of_le (HS.out k hk) hbA.size) (below_cell hbA H9.out) (below_cell hbA H8.out))
      have r1 := RowB.new wr #[.string s, .int .i64 t.kind, .bool t.neg, .slice A a c, .int .u64 (t.bits : Int), .string t.text, .slice Kt mt dt] 38
      have HBA := Lib.hid hbA
      have q1 : (i : Int) < (m : Int) := by omega
      have e0 := r1.cell 0 _ rfl
      have e1 := r1.cell 1 _ rfl
      have e2 := r1.cell 2 _ rfl
      have e3 := r1.cell 3 _ rfl
      have e4 := r1.cell 4 _ rfl
      have e5 := r1.cell 5 _ rfl
      have e6 := r1.cell 6 _ rfl
      have R1 := Lib.hid r1
      have HX := Lib.hid ex
      have hs8 : s.size ≤ maxLen := by have : s.size ≤ 8 := gnm.1; simp only [maxLen]; omega
      clear h1 h2 h3 hcell gok gkk gmak gnm hbA r1 ex hSg
      go_wp2_with fail
      refine H26.out.mono ?_
      rintro e w2 ⟨v, rfl, hSv, hB2⟩
      have R2 := Lib.hid (R1.out.below hB2)
      have g0 := R2.out.cell 0 _ rfl
      have HSV := Lib.hid hSv
      have hsz2 := hB2.size
      have hal : (wr.alloc (.cells #[.string s, .int .i64 t.kind, .bool t.neg, .slice A a c, .int .u64 (t.bits : Int), .string t.text, .slice Kt mt dt] 38)).heap.size = wr.heap.size + 1 := alloc_size _ _
      have HBW := Lib.hid (below_trans' HBA.out hB2)
      have hO2 : Hid (w2.ownsMap Tryz.prog 9 Rv w.heap.size i D) := (hO.out.alloc _).kept (grown_of_below' hB2 none) (by simp)
      have HV2 : Hid (∀ j, j < i → Sits (w.heap.size + 1) (fun W => SVp 3 W (L.getD j default).2 (vs j)) w2) := fun j hj => ((hV.out j hj).below (below_alloc' (Below.refl _ _) _)).below hB2
      have H27 := Lib.hid (c27 w.heap.size i D s w2 hO2.out hs8 hno.out)
      have hkey := Go.WideMaps.keyOf_string_mk (P := Tryz.prog) Tryz.underlying9 hs8
      have HSZ : Hid (w.heap.size + 1 ≤ w2.heap.size) := by show _ ≤ _; omega
      have HSZ1 : Hid (w.heap.size + 1 ≤ (wr.alloc (.cells #[.string s, .int .i64 t.kind, .bool t.neg, .slice A a c, .int .u64 (t.bits : Int), .string t.text, .slice Kt mt dt] 38)).heap.size) := by show _ ≤ _; omega
      clear hSv hB2 H26 hal hsz2
      go_wp2_with fail
      refine H27.out.mono ?_
      rintro e w3 ⟨rfl, rfl⟩
      clear H27
      go_wp2_with (at_mapUpdate; refine wpList_mapUpdate_own _ rfl _ _ _ 43 rfl 9 71 law9 Tryz.underlying43 Rv w.heap.size i D rfl hO2.out (by unfold maxLen; omega) _ _ _ rfl rfl hkey (.held v) [] rfl ?_; intro w4 hown4 hgrow4)
      have HO4 := Lib.hid hown4
      have HB4 := Lib.hid (below_grown' HBW.out hgrow4 (Nat.le_refl _))
      have HV4 : Hid (∀ j, j < i + 1 → Sits (w.heap.size + 1) (fun W => SVp 3 W (L.getD j default).2 (if j = i then v else vs j)) w4) := fun j hj => by
        by_cases e : j = i
        · subst e
          simp only [if_true]
          rw [HX.out]
          exact (HSV.out.mono HSZ1.out).grown hgrow4 (Nat.lt_succ_self _)
        · simp only [if_neg e]
          exact (HV2.out j (by omega)).grown hgrow4 (Nat.lt_succ_self _)
      have HSZ4 : Hid (w.heap.size + 1 ≤ w4.heap.size) := Nat.le_trans HSZ.out hgrow4.size
      clear hown4 hgrow4
      go_wp2_with fail
      go_round
      case rel => exact ⟨i + 1, _, fun j => if j = i then v else vs j, by omega, by go_num, HO4.out, hstep.out v, HV4.out, HB4.out, HSZ4.out⟩
      case measure => simp [intOf]; omega
    · obtain rfl : i = m := by omega
      have q1 : ¬ (i : Int) < (i : Int) := by omega
      go_wp2_with fail
      go_ret2
      exact ⟨w.heap.size, D, vs, rfl, hO.out, hD.out, fun j hj => (hV.out j hj).out, hB.out⟩
end Go.Proofs.YtpfihjkhgfoijaaGreatDoor
namespace Go.Proofs.YtpfihjkhgfoijaaGreatDoor
open Go.RowKit

abbrev zero38 : Array Value := #[.string ⟨#[]⟩, .int .i64 0, .bool false, .slice none 0 0, .int .u64 0, .string ⟨#[]⟩, .slice none 0 0]
theorem info38 : (Tryz.prog.info? 38).map (fun i => (i.zero, i.size, i.bytes)) = some (some (.agg zero38), 7, 104) := by kernel_rfl
/-- seven cells that hold a name with its tree -/
def NC (S : BS) (w : World) (x : NT) (c : Array Value) : Prop := ∃ a0 a1 a2 a3 a4 a5, c = #[.string x.1, a0, a1, a2, a3, a4, a5] ∧ VC 3 S w x.2 #[a0, a1, a2, a3, a4, a5]
theorem NC.below {N : Nat} {S : BS} {w w' : World} {x : NT} {c : Array Value} (h : NC S w x c) (hb : Below N w w') (hN : ∀ k, S k → k < N) : NC S w' x c := by
  obtain ⟨a0, a1, a2, a3, a4, a5, e, h⟩ := h
  exact ⟨a0, a1, a2, a3, a4, a5, e, h.below hb hN⟩
theorem NC.grown {g : Nat} {S : BS} {w w' : World} {x : NT} {c : Array Value} (h : NC S w x c) (hb : w.grownBy w' (some g)) (hu : ∀ k, S k → k < w.heap.size) (hg : ¬ S g) : NC S w' x c := by
  obtain ⟨a0, a1, a2, a3, a4, a5, e, h⟩ := h
  exact ⟨a0, a1, a2, a3, a4, a5, e, h.grown hb hu hg⟩
theorem NC.grownN {S : BS} {w w' : World} {x : NT} {c : Array Value} (h : NC S w x c) (hb : w.grownBy w' none) (hu : ∀ k, S k → k < w.heap.size) : NC S w' x c := by
  obtain ⟨a0, a1, a2, a3, a4, a5, e, h⟩ := h
  exact ⟨a0, a1, a2, a3, a4, a5, e, h.grownN hb hu⟩
theorem NC.size {S : BS} {w : World} {x : NT} {c : Array Value} (h : NC S w x c) : c.size = 7 := by
  obtain ⟨a0, a1, a2, a3, a4, a5, rfl, _⟩ := h; rfl
theorem NC.one {S : BS} {w : World} {x : NT} {c : Array Value} (h : NC S w x c) : ∀ u ∈ c.toList, u.oneCell' = true := by
  obtain ⟨a0, a1, a2, a3, a4, a5, rfl, h⟩ := h
  have := h.one
  intro u hu
  simp at hu
  rcases hu with rfl | hu
  · rfl
  · exact this u (by simpa using hu)
theorem flat7_len {css : List (Array Value)} (h : ∀ c ∈ css, c.size = 7) : (flat6 css).length = css.length * 7 := by
  unfold flat6
  induction css with
  | nil => rfl
  | cons c cs ih =>
    have h1 := ih fun x hx => h x (List.mem_cons_of_mem _ hx)
    have h2 := h c List.mem_cons_self
    simp only [List.flatMap_cons, List.length_append, List.length_cons, Array.length_toList, h1, h2]; omega
theorem flat7_get {css : List (Array Value)} (h : ∀ c ∈ css, c.size = 7) (i j : Nat) (hi : i < css.length) (hj : j < 7) : (flat6 css)[i * 7 + j]? = (css.getD i #[])[j]? := by
  induction css generalizing i with
  | nil => simp at hi
  | cons c cs ih =>
    have h2 := h c List.mem_cons_self
    have e : flat6 (c :: cs) = c.toList ++ flat6 cs := by simp [flat6]
    rw [e]
    cases i with
    | zero =>
      rw [List.getElem?_append_left (by simp; omega)]
      simp
    | succ i =>
      rw [List.getElem?_append_right (by simp; omega)]
      have h3 := ih (fun x hx => h x (List.mem_cons_of_mem _ hx)) i (by simpa using hi)
      rw [Array.length_toList, h2, show (i + 1) * 7 + j - 7 = i * 7 + j from by omega, h3]
      simp
/-- the slice value v, of m trees ts of n levels, in a row of the call's own (blocks from base on) -/
structure KinN (base : Nat) (R : BS) (w : World) (v : Value) (m : Nat) (ts : List NT) : Prop where mk ::
  out : ∃ css : List (Array Value), w.ownsRow base 38 7 v m (flat6 css) ∧ css.length = m ∧ ts.length = m ∧ (∀ c ∈ css, c.size = 7) ∧
    ∀ i, i < m → ∃ S : BS, (∀ g, v.ownBlock = some g → ¬ S g) ∧ (∀ k, S k → k < w.heap.size ∧ R k) ∧ NC S w (ts.getD i default) (css.getD i #[])
theorem KinN.nil (base : Nat) (R : BS) (w : World) : KinN base R w (.slice none 0 0) 0 [] :=
  ⟨[], World.ownsRow_nil w base 38 7, rfl, rfl, by simp, fun i hi => by omega⟩
theorem KinN.len {R : BS} {base m : Nat} {w : World} {v : Value} {ts : List NT} (h : KinN base R w v m ts) : ts.length = m := by
  obtain ⟨_, _, _, h, _⟩ := h.out; exact h
theorem KinN.block {R : BS} {base m : Nat} {w : World} {v : Value} {ts : List NT} (h : KinN base R w v m ts) (g : Nat) (hg : v.ownBlock = some g) : base ≤ g ∧ g < w.heap.size := by
  obtain ⟨_, h, _⟩ := h.out; exact h.lt g hg
theorem KinN.below {R : BS} {base m : Nat} {w w' : World} {v : Value} {ts : List NT} (h : KinN base R w v m ts) (hb : Below w.heap.size w w') : KinN base R w' v m ts := by
  obtain ⟨css, ho, h1, h2, h3, hk⟩ := h.out
  refine ⟨css, ho.kept (grown_of_below' hb none) (by cases v.ownBlock <;> simp), h1, h2, h3, fun i hi => ?_⟩
  obtain ⟨S, k2, k3, k4⟩ := hk i hi
  exact ⟨S, k2, fun k hk => ⟨Nat.lt_of_lt_of_le (k3 k hk).1 hb.size, (k3 k hk).2⟩, k4.below hb fun k hk => (k3 k hk).1⟩
theorem KinN.grown {R : BS} {base m g : Nat} {w w' : World} {v : Value} {ts : List NT} (h : KinN base R w v m ts) (hb : w.grownBy w' (some g)) (hg : g < base) (hR : ¬ R g) : KinN base R w' v m ts := by
  have hbl := h.block
  obtain ⟨css, ho, h1, h2, h3, hk⟩ := h.out
  refine ⟨css, ho.kept hb ?_, h1, h2, h3, fun i hi => ?_⟩
  · cases hv : v.ownBlock with
    | none => simp
    | some x => right; have := (hbl x hv).1; simp; omega
  · obtain ⟨S, k2, k3, k4⟩ := hk i hi
    exact ⟨S, k2, fun k hk => ⟨Nat.lt_of_lt_of_le (k3 k hk).1 hb.size, (k3 k hk).2⟩, k4.grown hb (fun k hk => (k3 k hk).1) fun h => hR (k3 g h).2⟩
theorem KinN.drew {R : BS} {base m : Nat} {w : World} {v : Value} {ts : List NT} (h : KinN base R w v m ts) : KinN base R w.drew v m ts := h.below (below_drew1 w)
theorem KinN.shape {R : BS} {base m : Nat} {w : World} {v : Value} {ts : List NT} (h : KinN base R w v m ts) : ∃ K d, v = .slice K m d ∧ m ≤ d ∧ d ≤ maxLen ∧ (K = none ∨ ∃ g, K = some ⟨g, 0, none⟩ ∧ v.ownBlock = some g) := by
  obtain ⟨css, ⟨_, ho⟩, _⟩ := h.out
  rcases ho with ⟨rfl, rfl⟩ | ⟨g, cap, cur, rfl, _, _, h1, h2, _⟩
  · exact ⟨none, 0, rfl, by omega, by simp [maxLen], .inl rfl⟩
  · exact ⟨_, cap, rfl, h1, h2, .inr ⟨g, rfl, rfl⟩⟩
theorem KinN.get {R : BS} {base m : Nat} {w : World} {K : Option Addr} {d : Nat} {ts : List NT} (h : KinN base R w (.slice K m d) m ts) (S' : BS) (hS' : ∀ k, base ≤ k → k < w.heap.size → S' k) (hR : ∀ k, R k → k < w.heap.size → S' k) : NmR S' w K m ts := by
  obtain ⟨css, ho, h1, h2, h3, hk⟩ := h.out
  rcases ho.2 with ⟨e, rfl⟩ | ⟨g, cap, cur, e, hb, hg, _, _, hcs, ht⟩
  · cases e; exact ⟨h2, .inl rfl⟩
  · cases e
    refine ⟨h2, .inr ⟨g, rfl, hS' g hb (Array.getElem?_eq_some_iff.1 hg).1, fun i hi => ?_⟩⟩
    obtain ⟨S, k2, k3, a0, a1, a2, a3, a4, a5, ec, k4⟩ := hk i hi
    have hi2 : i < css.length := by omega
    have hc : ∀ j, j < 7 → w.cell? ⟨g, i * 7 + j, none⟩ = (css.getD i #[])[j]? := fun j hj => by
      rw [cell_of_row w g (i * 7 + j) cur 38 (0, 0) hg, ← flat7_get h3 i j hi2 hj, ← ht, List.getElem?_take, if_pos (by omega), Array.getElem?_toList]
    refine ⟨#[a0, a1, a2, a3, a4, a5], ?_, fun j hj => ?_, k4.mono fun k hk => hR k (k3 k hk).2 (k3 k hk).1⟩
    · have := hc 0 (by omega)
      rw [ec] at this; exact this
    · have := hc (1 + j) (by omega)
      rw [ec, ← Nat.add_assoc] at this
      rw [this]
      match j, hj with
      | 0, _ => rfl
      | 1, _ => rfl
      | 2, _ => rfl
      | 3, _ => rfl
      | 4, _ => rfl
      | 5, _ => rfl
/-- append of one tree, whose cells are the block made last -/
theorem app38 {R : BS} {base m : Nat} {w : World} {v : Value} {ts : List NT} (h : KinN base R w v m ts) (t : NT) (cs : Array Value) (S : BS) (hS : ∀ k, S k → k < w.heap.size ∧ R k) (hI : NC S w t cs)
    (hg : ∀ g, v.ownBlock = some g → ¬ S g) (hm : m ≤ 1000) (hbase : base ≤ w.heap.size) (ty : TypeId) :
    ∃ v' w', (Builtin.append_ #[22, 22] ty #[v, .slice (some ⟨w.heap.size, 0, none⟩) 1 1]).run Tryz.prog (w.alloc (.cells cs 38)) = .ok v' w' ∧ KinN base R w' v' (m + 1) (ts ++ [t]) ∧ (w.alloc (.cells cs 38)).grownBy w' v.ownBlock := by
  have hbl := h.block
  obtain ⟨css, ho, h1, h2, h3, hk⟩ := h.out
  have h6 := hI.size
  have hone := hI.one
  have hb1 : Below w.heap.size w (w.alloc (.cells cs 38)) := below_alloc' (Below.refl _ _) _
  obtain ⟨i, hi', hz0, hz1, hz2⟩ := info_parts info38
  obtain ⟨v', w', hr, hown, hgr, _, hob⟩ := run_append_own_at (P := Tryz.prog) (w.alloc (.cells cs 38)) base 22 ty 38 i (.agg zero38) 7 104 Tryz.underlying22 hi' hz0 hz1 hz2 rfl (by omega) v m (flat6 css)
    (ho.alloc _) ⟨w.heap.size, 0, none⟩ 1 1 cs.toList (by simpa using h6) (fun j u hu => by rw [add_at]; exact (RowB.new w cs 38).cell j u (by simpa using hu)) hone (by simp only [maxLen]; omega) (by omega)
    (by rw [alloc_size]; omega)
  refine ⟨v', w', hr, ⟨css ++ [cs], by rw [flat6_snoc]; exact hown, by simp [h1], by simp [h2], ?_, fun i hi => ?_⟩, hgr⟩
  · intro c hc
    rcases List.mem_append.1 hc with h | h
    · exact h3 c h
    · rw [List.mem_singleton.1 h]; exact h6
  · have hown' : ∀ g, v'.ownBlock = some g → v.ownBlock = some g ∨ g = w.heap.size + 1 := by
      intro g hg'
      rcases hob with e | e
      · exact .inl (by rw [← e]; exact hg')
      · rw [e, alloc_size] at hg'; cases hg'; exact .inr rfl
    have hszw : w.heap.size ≤ w'.heap.size := Nat.le_trans (by rw [alloc_size]; omega) hgr.size
    by_cases him : i < m
    · obtain ⟨S', k2, k3, k4⟩ := hk i him
      have k4' := k4.below hb1 fun k hk => (k3 k hk).1
      have hsz : ∀ k, S' k → k < (w.alloc (.cells cs 38)).heap.size := fun k hk => by rw [alloc_size]; have := (k3 k hk).1; omega
      refine ⟨S', fun g hg' => ?_, fun k hk => ⟨Nat.lt_of_lt_of_le (k3 k hk).1 hszw, (k3 k hk).2⟩, ?_⟩
      · rcases hown' g hg' with e | e
        · exact k2 g e
        · intro hc; have := (k3 g hc).1; omega
      · have e1 : (ts ++ [t]).getD i default = ts.getD i default := by rw [List.getD_eq_getElem?_getD, List.getD_eq_getElem?_getD, List.getElem?_append_left (by omega)]
        have e2 : (css ++ [cs]).getD i #[] = css.getD i #[] := by rw [List.getD_eq_getElem?_getD, List.getD_eq_getElem?_getD, List.getElem?_append_left (by omega)]
        rw [e1, e2]
        cases hv : v.ownBlock with
        | none => rw [hv] at hgr; exact k4'.grownN hgr hsz
        | some g => rw [hv] at hgr; exact k4'.grown hgr hsz (k2 g hv)
    · have e : i = m := by omega
      subst e
      have hI' := hI.below hb1 fun k hk => (hS k hk).1
      have hsz : ∀ k, S k → k < (w.alloc (.cells cs 38)).heap.size := fun k hk => by rw [alloc_size]; have := (hS k hk).1; omega
      refine ⟨S, fun g hg' => ?_, fun k hk => ⟨Nat.lt_of_lt_of_le (hS k hk).1 hszw, (hS k hk).2⟩, ?_⟩
      · rcases hown' g hg' with e | e
        · exact hg g e
        · intro hc; have := (hS g hc).1; omega
      · have e1 : (ts ++ [t]).getD i default = t := by rw [List.getD_eq_getElem?_getD, List.getElem?_append_right (by omega)]; simp [h2]
        have e2 : (css ++ [cs]).getD i #[] = cs := by rw [List.getD_eq_getElem?_getD, List.getElem?_append_right (by omega)]; simp [h1]
        rw [e1, e2]
        cases hv : v.ownBlock with
        | none => rw [hv] at hgr; exact hI'.grownN hgr hsz
        | some g => rw [hv] at hgr; exact hI'.grown hgr hsz (hg g hv)
end Go.Proofs.YtpfihjkhgfoijaaGreatDoor
namespace Go.Proofs.YtpfihjkhgfoijaaGreatDoor
open Go.RowKit Go.Maps

/-- the seven stores of a struct into a result's block -/
def set7W (w : World) (g : Nat) (a0 a1 a2 a3 a4 a5 a6 : Value) : World := (World.setCell (World.setCell (World.setCell (World.setCell (World.setCell (World.setCell (World.setCell w ⟨g, 0, none⟩ a0) ⟨g, 1, none⟩ a1) ⟨g, 2, none⟩ a2) ⟨g, 3, none⟩ a3) ⟨g, 4, none⟩ a4) ⟨g, 5, none⟩ a5) ⟨g, 6, none⟩ a6)
theorem set7 {e : TypeId} {w : World} {g : Nat} {x0 x1 x2 x3 x4 x5 x6 : Value} (a0 a1 a2 a3 a4 a5 a6 : Value) (h : RowB w g #[x0, x1, x2, x3, x4, x5, x6] e) : RowB (set7W w g a0 a1 a2 a3 a4 a5 a6) g #[a0, a1, a2, a3, a4, a5, a6] e := by
  have h1 := h.set 0 a0 #[a0, x1, x2, x3, x4, x5, x6] rfl
  have h2 := h1.set 1 a1 #[a0, a1, x2, x3, x4, x5, x6] rfl
  have h3 := h2.set 2 a2 #[a0, a1, a2, x3, x4, x5, x6] rfl
  have h4 := h3.set 3 a3 #[a0, a1, a2, a3, x4, x5, x6] rfl
  have h5 := h4.set 4 a4 #[a0, a1, a2, a3, a4, x5, x6] rfl
  have h6 := h5.set 5 a5 #[a0, a1, a2, a3, a4, a5, x6] rfl
  exact h6.set 6 a6 _ rfl
theorem set7_grown (w : World) (g : Nat) (a0 a1 a2 a3 a4 a5 a6 : Value) : w.grownBy (set7W w g a0 a1 a2 a3 a4 a5 a6) (some g) :=
  grown_set (grown_set (grown_set (grown_set (grown_set (grown_set (grown_set (grown_refl _ _) _ _) _ _) _ _) _ _) _ _) _ _) _ _
theorem facts7 {e : TypeId} {w : World} {g : Nat} {x0 x1 x2 x3 x4 x5 x6 : Value} (h : RowB w g #[x0, x1, x2, x3, x4, x5, x6] e) (a0 a1 a2 a3 a4 a5 : Value) :
    w.frozen? ⟨g, 0, none⟩ = false ∧ w.cell? ⟨g, 0, none⟩ = some x0 ∧ (World.setCell w ⟨g, 0, none⟩ a0).frozen? ⟨g, 1, none⟩ = false ∧ (World.setCell w ⟨g, 0, none⟩ a0).cell? ⟨g, 1, none⟩ = some x1 ∧ (World.setCell (World.setCell w ⟨g, 0, none⟩ a0) ⟨g, 1, none⟩ a1).frozen? ⟨g, 2, none⟩ = false ∧ (World.setCell (World.setCell w ⟨g, 0, none⟩ a0) ⟨g, 1, none⟩ a1).cell? ⟨g, 2, none⟩ = some x2 ∧ (World.setCell (World.setCell (World.setCell w ⟨g, 0, none⟩ a0) ⟨g, 1, none⟩ a1) ⟨g, 2, none⟩ a2).frozen? ⟨g, 3, none⟩ = false ∧ (World.setCell (World.setCell (World.setCell w ⟨g, 0, none⟩ a0) ⟨g, 1, none⟩ a1) ⟨g, 2, none⟩ a2).cell? ⟨g, 3, none⟩ = some x3 ∧ (World.setCell (World.setCell (World.setCell (World.setCell w ⟨g, 0, none⟩ a0) ⟨g, 1, none⟩ a1) ⟨g, 2, none⟩ a2) ⟨g, 3, none⟩ a3).frozen? ⟨g, 4, none⟩ = false ∧ (World.setCell (World.setCell (World.setCell (World.setCell w ⟨g, 0, none⟩ a0) ⟨g, 1, none⟩ a1) ⟨g, 2, none⟩ a2) ⟨g, 3, none⟩ a3).cell? ⟨g, 4, none⟩ = some x4 ∧ (World.setCell (World.setCell (World.setCell (World.setCell (World.setCell w ⟨g, 0, none⟩ a0) ⟨g, 1, none⟩ a1) ⟨g, 2, none⟩ a2) ⟨g, 3, none⟩ a3) ⟨g, 4, none⟩ a4).frozen? ⟨g, 5, none⟩ = false ∧ (World.setCell (World.setCell (World.setCell (World.setCell (World.setCell w ⟨g, 0, none⟩ a0) ⟨g, 1, none⟩ a1) ⟨g, 2, none⟩ a2) ⟨g, 3, none⟩ a3) ⟨g, 4, none⟩ a4).cell? ⟨g, 5, none⟩ = some x5 ∧ (World.setCell (World.setCell (World.setCell (World.setCell (World.setCell (World.setCell w ⟨g, 0, none⟩ a0) ⟨g, 1, none⟩ a1) ⟨g, 2, none⟩ a2) ⟨g, 3, none⟩ a3) ⟨g, 4, none⟩ a4) ⟨g, 5, none⟩ a5).frozen? ⟨g, 6, none⟩ = false ∧ (World.setCell (World.setCell (World.setCell (World.setCell (World.setCell (World.setCell w ⟨g, 0, none⟩ a0) ⟨g, 1, none⟩ a1) ⟨g, 2, none⟩ a2) ⟨g, 3, none⟩ a3) ⟨g, 4, none⟩ a4) ⟨g, 5, none⟩ a5).cell? ⟨g, 6, none⟩ = some x6 := by
  have h1 := h.set 0 a0 #[a0, x1, x2, x3, x4, x5, x6] rfl
  have h2 := h1.set 1 a1 #[a0, a1, x2, x3, x4, x5, x6] rfl
  have h3 := h2.set 2 a2 #[a0, a1, a2, x3, x4, x5, x6] rfl
  have h4 := h3.set 3 a3 #[a0, a1, a2, a3, x4, x5, x6] rfl
  have h5 := h4.set 4 a4 #[a0, a1, a2, a3, a4, x5, x6] rfl
  have h6 := h5.set 5 a5 #[a0, a1, a2, a3, a4, a5, x6] rfl
  exact ⟨h.free 0, h.cell 0 _ rfl, h1.free 1, h1.cell 1 _ rfl, h2.free 2, h2.cell 2 _ rfl, h3.free 3, h3.cell 3 _ rfl, h4.free 4, h4.cell 4 _ rfl, h5.free 5, h5.cell 5 _ rfl, h6.free 6, h6.cell 6 _ rfl⟩
theorem i27 : (Tryz.prog.info? 27).map (·.size) = some 7 := by kernel_rfl
abbrev missS : ByteArray := ⟨#[77, 105, 115, 115, 105, 110, 103]⟩
theorem enc_name (x : NT) : Go.Proofs.encStr (nmL x) = .string x.1 := by
  obtain ⟨s, t⟩ := x
  show Value.string ⟨s.data.toList.toArray⟩ = .string s
  rw [Array.toArray_toList]
theorem DictOK.miss {D : DataW Value} {L : List NT} {vs : Nat → Value} {m : Nat} (h : DictOK D L vs m) (hL : ∀ x ∈ L, NmOk x.1) (zd : DataW Value) : D.atKey (.string missS.data.toList) zd = zd := by
  apply Maps.atKey_of_not_has
  rw [h.1]
  refine decide_eq_false fun hm => ?_
  obtain ⟨x, hx, e⟩ := List.mem_map.1 hm
  have h1 := (hL x (List.mem_of_mem_take hx)).2
  have e' : x.1.data.toList = missS.data.toList := e
  rw [e'] at h1
  exact absurd h1 (by decide)
/-- what a module tells: the text by q, its names and members those of L -/
def ModP (q : ByteArray) (m : Nat) (L : List NT) (w : World) (e : Ending) (w' : World) : Prop :=
  ∃ gn cap Km dm, e = .returned (.agg #[.string (mtx q), .string ⟨#[109, 111, 100, 117, 108, 101]⟩, .slice (some ⟨gn, 0, none⟩) m cap, .slice Km m dm, .int .i64 0, .bool true, .bool true]) ∧ m ≤ cap ∧ m ≤ dm ∧ w.heap.size ≤ gn ∧
    (∀ i, i < m → w'.cell? ⟨gn, i, none⟩ = some (.string (L.getD i default).1)) ∧ NmR (blks w.heap.size w'.heap.size) w' Km m L ∧ Below w.heap.size w w'
set_option maxHeartbeats 4000000 in
theorem c12 (b B m : Nat) (T : Lib.PrintTabs) (nm : ByteArray) (D : DataW Value) (L : List NT) (vs : Nat → Value) (w : World) (hm : RowB w b #[.string nm, .map (some B)] 49) (hown : w.ownsMap Tryz.prog 9 Rv B m D) (hD : DictOK D L vs m)
    (hv : ∀ j, j < m → SVp 3 w (L.getD j default).2 (vs j)) (hl : L.length = m) (hm5 : m ≤ 5) (hok : ∀ x ∈ L, GoodT x.2 ∧ NmOk x.1) (hks : (strKeys D).mergeSort leB = L.map nmL) (hnm : nm.size ≤ 100) (hT : Lib.PrintTabsAt 3 4 5 6 T w) (hU : Lib.Utf8Tabs 1 2 w) :
    Calls Tryz.prog 12 #[.pointer (some ⟨b, 0, none⟩), .string missS] w (ModP (strOfNums (Lib.quoteZ T nm)) m L w) := by
  have hkl : (strKeys D).length = m := by
    have := congrArg List.length hks
    simp at this; omega
  obtain ⟨w1, hw1, b1, r1, s1⟩ : ∃ w1, w.alloc (.cells #[.string ⟨#[]⟩, .string ⟨#[]⟩, .slice none 0 0, .slice none 0 0, .int .i64 0, .bool false, .bool false] 27) = w1 ∧ Below w.heap.size w w1 ∧ RowB w1 w.heap.size #[.string ⟨#[]⟩, .string ⟨#[]⟩, .slice none 0 0, .slice none 0 0, .int .i64 0, .bool false, .bool false] 27 ∧ w1.heap.size = w.heap.size + 1 :=
    ⟨_, rfl, below_alloc' (Below.refl _ _) _, RowB.new w _ _, alloc_size _ _⟩
  have lb := hm.lt
  have mb1 := hm.below b1
  have H28 := Lib.hid (c28 b _ T nm w1 mb1 hnm (printTabs_below hT b1) (Utf8Tabs_below hU b1))
  generalize strOfNums (Lib.quoteZ T nm) = q at H28 ⊢
  have HM := Lib.hid hm
  have HO := Lib.hid hown
  have HD := Lib.hid hD
  have HV := Lib.hid hv
  have HL := Lib.hid hl
  have HOK := Lib.hid hok
  have HKS := Lib.hid hks
  have HKL := Lib.hid hkl
  have hmi : missS.size ≤ maxLen := by decide
  have HMI := Lib.hid (hD.miss (fun x hx => (hok x hx).2))
  clear hm hown hD hv hl hok hks hkl hT hU
  go_enter Tryz.func12, Tryz.ntmps12
  go_wp2_with fail
  clear hw1
  refine H28.out.mono ?_
  rintro e w2 ⟨rfl, hB2⟩
  have b2 := below_trans' b1 hB2
  have H29 := Lib.hid (c29 (.pointer (some ⟨b, 0, none⟩)) w2)
  have H30 := Lib.hid (c30 b B m D nm w2 (HM.out.below b2) (HO.out.kept (grown_of_below' b2 none) (by simp)) (by omega))
  have r2 := r1.below hB2
  have HB2 := Lib.hid b2
  have hs2 := hB2.size
  clear H28 hB2 r1
  go_wp2_with fail
  refine H29.out.mono ?_
  rintro e w2' ⟨rfl, rfl⟩
  clear H29
  go_wp2_with fail
  refine H30.out.mono ?_
  rintro e w3 ⟨gn, cap, rfl, hO3, hB3⟩
  have hcap : m ≤ cap ∧ gn < w3.heap.size ∧ w2.heap.size ≤ gn := by
    rcases hO3.2 with ⟨h, _⟩ | ⟨g', cap', cur, h', h1, h2, h3, _⟩
    · cases h
    · cases h'
      exact ⟨by rw [← HKL.out]; exact h3, (Array.getElem?_eq_some_iff.1 h2).1, h1⟩
  have hnc : ∀ i, i < m → w3.cell? ⟨gn, i, none⟩ = some (.string (L.getD i default).1) := fun i hi => by
    rw [hO3.cellAt i (by rw [HKL.out]; omega), HKS.out, List.map_map, List.getElem?_map, List.getElem?_eq_getElem (by rw [HL.out]; exact hi)]
    have e : L.getD i default = L[i]'(by rw [HL.out]; exact hi) := by rw [List.getD_eq_getElem?_getD, List.getElem?_eq_getElem]; rfl
    rw [e]
    exact congrArg some (enc_name _)
  have HNC := Lib.hid hnc
  have H31 := Lib.hid (c31 (.pointer (some ⟨b, 0, none⟩)) w3)
  have r3 := r2.below hB3
  have b3 := below_trans' HB2.out hB3
  rw [HKL.out]
  have R3 := Lib.hid r3
  have HB3 := Lib.hid b3
  obtain ⟨hcap1, hgn1, hgn2⟩ := hcap
  have hs3 := hB3.size
  clear H30 hO3 hnc r2 hB3 r3 b3
  go_wp2_with fail
  refine H31.out.mono ?_
  rintro e w3' ⟨rfl, rfl⟩
  clear H31
  obtain ⟨f0, k0, f1, k1, f2, k2, f3, k3, f4, k4, f5, k5, f6, k6⟩ := facts7 R3.out (.string (mtx q)) (.string ⟨#[109, 111, 100, 117, 108, 101]⟩) (.slice (some ⟨gn, 0, none⟩) m cap) (.slice none 0 0) (.int .i64 0) (.bool true)
  obtain ⟨w4, hw4, r4, g4⟩ : ∃ w4, set7W w3 w.heap.size (.string (mtx q)) (.string ⟨#[109, 111, 100, 117, 108, 101]⟩) (.slice (some ⟨gn, 0, none⟩) m cap) (.slice none 0 0) (.int .i64 0) (.bool true) (.bool false) = w4 ∧ RowB w4 w.heap.size #[.string (mtx q), .string ⟨#[109, 111, 100, 117, 108, 101]⟩, .slice (some ⟨gn, 0, none⟩) m cap, .slice none 0 0, .int .i64 0, .bool true, .bool false] 27 ∧ w3.grownBy w4 (some w.heap.size) :=
    ⟨_, rfl, set7 _ _ _ _ _ _ _ R3.out, set7_grown _ _ _ _ _ _ _ _ _⟩
  unfold set7W at hw4
  have n2 := r4.cell 2 _ rfl
  have R4 := Lib.hid r4
  have HB4 : Hid (Below w.heap.size w w4) := below_grown' HB3.out g4 (Nat.le_refl _)
  have hg4 := g4.size
  have HNC4 : Hid (∀ i, i < m → w4.cell? ⟨gn, i, none⟩ = some (.string (L.getD i default).1)) := fun i hi => (World.cell?_of_block (g4.block gn hgn1 (by simp; omega))).trans (HNC.out i hi)
  clear r4 g4
  go_wp2_with fail
  clear hw4 f0 k0 f1 k1 f2 k2 f3 k3 f4 k4 f5 k5 f6 k6
  go_loopw [23] (fun vi wr => ∃ (i : Nat) (v : Value), i ≤ m ∧ vi = .int .i64 (i : Int) ∧ Hid (RowB wr w.heap.size #[.string (mtx q), .string ⟨#[109, 111, 100, 117, 108, 101]⟩, .slice (some ⟨gn, 0, none⟩) m cap, v, .int .i64 0, .bool true, .bool false] 27) ∧ KinN w4.heap.size (fun k => w4.heap.size ≤ k) wr v i (L.take i) ∧ Hid (But2 w.heap.size w.heap.size w4 wr)) (fun vi _ => m - (intOf vi).toNat)
  case atStart => exact ⟨0, _, by omega, rfl, R4.out, by rw [List.take_zero]; exact KinN.nil _ _ _, But2.of_below (Below.refl _ _)⟩
  case round =>
    obtain ⟨i, v, hi, rfl, r, hK, hU⟩ := hrel
    have hBw := HB4.out.trans (hU.out.below (Nat.le_refl _) (Nat.le_refl _) (by omega))
    have hsw := hU.out.size
    by_cases hlt : i < m
    · have hiL : i < L.length := by rw [HL.out]; exact hlt
      have kn : wr.cell? ⟨gn, i, none⟩ = some (.string (L.getD i default).1) := (World.cell?_of_block (hU.out.block gn (by omega) (by omega) (by omega))).trans (HNC4.out i hlt)
      have hDi := HD.out.2 i hlt (.held .nilIface)
      have hSV := (HV.out i hlt).below hBw
      obtain ⟨Tt, y, ey⟩ := hSV.shape
      have hok := HOK.out _ (getD_mem' hiL)
      have htk : Hid (L.take (i + 1) = L.take i ++ [L.getD i default]) := by
        show _ = _
        rw [List.take_add_one, List.getElem?_eq_getElem hiL, List.getD_eq_getElem?_getD, List.getElem?_eq_getElem hiL]; rfl
      generalize L.getD i default = x at kn hDi hSV hok htk
      obtain ⟨s, t⟩ := x
      rw [ey] at hDi hSV
      have hs8 : s.size ≤ 8 := hok.2.1
      have H32 : Hid (Calls Tryz.prog 32 #[.pointer (some ⟨b, 0, none⟩), .string s] wr fun e w' => e = .returned (.tuple #[.iface Tt y, .nilIface]) ∧ wr = w') :=
        (c32 b B m D nm s wr (HM.out.below hBw) (HO.out.kept (grown_of_below' hBw none) (by simp)) (by simp only [maxLen]; omega)).mono fun e w' ⟨v, h1, h2, h3⟩ => by
          have : DataW.held (Value.iface Tt y) = .held v := hDi.symm.trans h2
          cases this
          exact ⟨h1, h3⟩
      have HC := Lib.hid (TellC_all 3 wr.drew t (.iface Tt y) (hSV.below (bdrew1 wr)) hok.1.1)
      obtain ⟨Kv, dv, rfl, hdv1, hdv2, hKv⟩ := hK.shape
      have q1 : (i : Int) < (m : Int) := by omega
      have KD := Lib.hid hK.drew
      have KB : Hid (∀ z, (Value.slice Kv i dv).ownBlock = some z → w4.heap.size ≤ z ∧ z < wr.heap.size) := fun z hz => hK.block z hz
      have UD := Lib.hid hU.out.drew
      have rd := Lib.hid r.out.drew
      have k3 := r.out.cell 3 _ rfl
      clear hDi hSV hok ey hK
      go_wp2_with fail
      refine H32.out.mono ?_
      rintro e w9 ⟨rfl, rfl⟩
      clear H32
      go_upto_region 7 with (fail)
      go_region_law (first
        | (go_simp; go_at_call 33; refine HC.out.mono ?_; rintro e w2 ⟨cs, rfl, hV', hB2⟩
           obtain ⟨A3, a3, c3, K3, m3, d3, rfl, _⟩ := hV'.head
           have p3 := (rd.out.below hB2).cell 3 _ rfl
           have p23 := ((rd.out.below hB2).alloc (.cells #[.string s, .int .i64 t.kind, .bool t.neg, .slice A3 a3 c3, .int .u64 (t.bits : Int), .string t.text, .slice K3 m3 d3] 38)).cell 3 _ rfl
           have HV' := Lib.hid hV'; clear hV')
        | (have l2 := hB2.size
           have hdz : wr.drew.heap.size = wr.heap.size := rfl
           obtain ⟨v', w5, hrun, hK3, hg3⟩ := app38 (KD.out.below hB2) (s, t) _ (blks wr.drew.heap.size w2.heap.size) (fun k hk => ⟨hk.2, by have := hk.1; omega⟩) ⟨_, _, _, _, _, _, rfl, HV'.out⟩ (fun z hz hc => by have := KB.out z hz; have := hc.1; omega) (by omega) (by omega) 22
           obtain ⟨K4, d4, rfl, hd41, hd42, hK4⟩ := hK3.shape
           have r5 := Lib.hid (((rd.out.below hB2).alloc (.cells #[.string s, .int .i64 t.kind, .bool t.neg, .slice A3 a3 c3, .int .u64 (t.bits : Int), .string t.text, .slice K3 m3 d3] 38)).grownO hg3 (fun z hz => by have := KB.out z hz; omega))
           have y3 := r5.out.cell 3 _ rfl
           have z3 := r5.out.free 3
           have HK3 := Lib.hid hK3
           clear hK3
           refine step_append rfl (.tmp 40) (.tmp 45) 22 rfl _ _ _ _ rfl rfl hrun ?_))
      all_goals
        go_wp2_with fail
        have l2 := hB2.size
        have hdz : wr.drew.heap.size = wr.heap.size := rfl
        have b5 : But2 w.heap.size w.heap.size w4 w5 := ((UD.out.comp (But2.of_below (b := w.heap.size) (b4 := w.heap.size) hB2) (.inl rfl) (.inl rfl)).comp (But2.of_below (b := w.heap.size) (b4 := w.heap.size) (below_alloc' (Below.refl _ _) (.cells #[.string s, .int .i64 t.kind, .bool t.neg, .slice A3 a3 c3, .int .u64 (t.bits : Int), .string t.text, .slice K3 m3 d3] 38))) (.inl rfl) (.inl rfl)).own hg3 (fun z hz => (KB.out z hz).1)
        have hg5 := grown_set (grown_refl w5 (some w.heap.size)) 3 (.slice K4 (i + 1) d4)
        go_roundw
        case rel => exact ⟨i + 1, _, by omega, by go_num, r5.out.set 3 _ _ rfl, by rw [htk.out]; exact HK3.out.grown hg5 (by omega) (by omega), b5.set ⟨w.heap.size, 3, none⟩ (.inl rfl) _⟩
        case measure => simp [intOf]; omega
    · obtain rfl : i = m := by omega
      have q1 : ¬ (i : Int) < (i : Int) := by omega
      obtain ⟨Kv, dv, rfl, hdv1, hdv2, hKv⟩ := hK.shape
      have HK := Lib.hid hK
      have H32 : Hid (Calls Tryz.prog 32 #[.pointer (some ⟨b, 0, none⟩), .string missS] wr fun e w' => e = .returned (.tuple #[.nilIface, .nilIface]) ∧ wr = w') :=
        (c32 b B i D nm missS wr (HM.out.below hBw) (HO.out.kept (grown_of_below' hBw none) (by simp)) hmi).mono fun e w' ⟨v, h1, h2, h3⟩ => by
          have : DataW.held Value.nilIface = .held v := (HMI.out _).symm.trans h2
          cases this
          exact ⟨h1, h3⟩
      have H34 := Lib.hid (c34 (.pointer (some ⟨b, 0, none⟩)) wr)
      have HBW := Lib.hid hBw
      clear hK hBw
      go_wp2_with fail
      refine H32.out.mono ?_
      rintro e w9 ⟨rfl, rfl⟩
      clear H32
      go_wp2_with fail
      refine H34.out.mono ?_
      rintro e w5 ⟨⟨p, rfl⟩, hB5⟩
      have r5 := r.out.below hB5
      have f6 := r5.free 6
      have k6 := r5.cell 6 _ rfl
      have r6 := r5.set 6 (.bool true) (#[.string (mtx q), .string ⟨#[109, 111, 100, 117, 108, 101]⟩, .slice (some ⟨gn, 0, none⟩) i cap, .slice Kv i dv, .int .i64 0, .bool true, .bool true]) rfl
      obtain ⟨w6, hw6, r6, g6⟩ : ∃ w6, w5.setCell ⟨w.heap.size, 6, none⟩ (.bool true) = w6 ∧ RowB w6 w.heap.size (#[.string (mtx q), .string ⟨#[109, 111, 100, 117, 108, 101]⟩, .slice (some ⟨gn, 0, none⟩) i cap, .slice Kv i dv, .int .i64 0, .bool true, .bool true]) 27 ∧ w5.grownBy w6 (some w.heap.size) := ⟨_, rfl, r6, grown_set (grown_refl _ _) _ _⟩
      have n0 := r6.cell 0 _ rfl
      have n1 := r6.cell 1 _ rfl
      have n2 := r6.cell 2 _ rfl
      have n3 := r6.cell 3 _ rfl
      have n4 := r6.cell 4 _ rfl
      have n5 := r6.cell 5 _ rfl
      have n6 := r6.cell 6 _ rfl
      obtain ⟨f0, k0, f1, k1, f2, k2, f3, k3, f4, k4, f5, k5, f6, k6⟩ := facts7 r6 (.string (mtx q)) (.string ⟨#[109, 111, 100, 117, 108, 101]⟩) (.slice (some ⟨gn, 0, none⟩) i cap) (.slice Kv i dv) (.int .i64 0) (.bool true)
      have R6 := Lib.hid r6
      have HB5 := Lib.hid hB5
      have G6 := Lib.hid g6
      clear r5 r6 hB5 H34 g6
      go_wp2_with fail
      refine bodyPost_ret (ret_row (set7 _ _ _ _ _ _ _ R6.out) rfl _ _ rfl Tryz.underlying27 rfl i27) rfl ?_
      have g7 := set7_grown w6 w.heap.size (.string (mtx q)) (.string ⟨#[109, 111, 100, 117, 108, 101]⟩) (.slice (some ⟨gn, 0, none⟩) i cap) (.slice Kv i dv) (.int .i64 0) (.bool true) (.bool true)
      show ModP _ _ _ _ _ (set7W w6 w.heap.size (.string (mtx q)) (.string ⟨#[109, 111, 100, 117, 108, 101]⟩) (.slice (some ⟨gn, 0, none⟩) i cap) (.slice Kv i dv) (.int .i64 0) (.bool true) (.bool true))
      generalize (set7W w6 w.heap.size (.string (mtx q)) (.string ⟨#[109, 111, 100, 117, 108, 101]⟩) (.slice (some ⟨gn, 0, none⟩) i cap) (.slice Kv i dv) (.int .i64 0) (.bool true) (.bool true)) = w7 at g7 ⊢
      have hs5 := HB5.out.size
      have hs6 := G6.out.size
      have hs7 := g7.size
      have hb7 : Below w.heap.size w w7 := below_grown' (below_grown' (below_trans' HBW.out HB5.out) G6.out (Nat.le_refl _)) g7 (Nat.le_refl _)
      have hTK : L.take i = L := List.take_of_length_le (by rw [HL.out]; exact Nat.le_refl _)
      have hN := HK.out.get (blks w4.heap.size wr.heap.size) (fun k h1 h2 => ⟨h1, h2⟩) (fun k h1 h2 => ⟨h1, h2⟩)
      rw [hTK] at hN
      have hag : ∀ k, w.heap.size < k → k < wr.heap.size → w7.heap[k]? = wr.heap[k]? := fun k h1 h2 => by
        rw [g7.block k (by omega) (by simp; omega), G6.out.block k (by omega) (by simp; omega)]
        exact HB5.out.block k h2
      refine ⟨gn, cap, Kv, dv, rfl, hcap1, hdv1, by omega, fun j hj => ?_, (hN.agree fun k hk => hag k (by have := hk.1; omega) hk.2).mono fun k hk => ⟨by have := hk.1; omega, by have := hk.2; omega⟩, hb7⟩
      rw [World.cell?_of_block (hag gn (by omega) (by omega)), World.cell?_of_block (hU.out.block gn (by omega) (by omega) (by omega))]
      exact HNC4.out j hj
end Go.Proofs.YtpfihjkhgfoijaaGreatDoor
namespace Go.Proofs.YtpfihjkhgfoijaaGreatDoor
open Go.RowKit Go.Maps

theorem keys_sorted {w : World} {B m : Nat} {D : DataW Value} {L : List NT} {vs : Nat → Value} (hown : w.ownsMap Tryz.prog 9 Rv B m D) (hD : DictOK D L vs m) (hl : L.length = m) (hnd : (L.map nmL).Nodup) (hso : (L.map nmL).Pairwise fun a b => leB a b = true) : (strKeys D).mergeSort leB = L.map nmL := by
  have hC : Collected D (fun _ => false) (L.map nmL) := ⟨hnd, fun x => by rw [hD.1 x, List.take_of_length_le (by omega)]; simp⟩
  have hp := hC.perm hown law9 Tryz.underlying9 (fun _ => rfl)
  rw [← mergeSort_of_perm hp]
  exact List.mergeSort_of_pairwise hso
def ModOfP (q : ByteArray) (m : Nat) (L : List NT) (w : World) (e : Ending) (w' : World) : Prop :=
  ∃ gn cap Km dm, e = .returned (.tuple #[.agg #[.string (mtx q), .string ⟨#[109, 111, 100, 117, 108, 101]⟩, .slice (some ⟨gn, 0, none⟩) m cap, .slice Km m dm, .int .i64 0, .bool true, .bool true], .bool true]) ∧ m ≤ cap ∧ m ≤ dm ∧ w.heap.size ≤ gn ∧
    (∀ i, i < m → w'.cell? ⟨gn, i, none⟩ = some (.string (L.getD i default).1)) ∧ NmR (blks w.heap.size w'.heap.size) w' Km m L ∧ Below w.heap.size w w'
set_option maxHeartbeats 4000000 in
theorem c6 (S : BS) (T : Lib.PrintTabs) (nm : ByteArray) (K : Option Addr) (m d : Nat) (L : List NT) (w : World) (hR : NmR S w K m L) (hS : ∀ k, S k → k < w.heap.size) (hm : m ≤ 5) (hmd : m ≤ d) (hok : ∀ x ∈ L, GoodT x.2 ∧ NmOk x.1) (hnd : (L.map nmL).Nodup) (hso : (L.map nmL).Pairwise fun a b => leB a b = true)
    (h9 : w.cell? ⟨9, 0, none⟩ = some (.int .i64 40)) (h8 : w.cell? ⟨8, 0, none⟩ = some (.int .i64 10)) (hnm : nm.size ≤ 100) (hT : Lib.PrintTabsAt 3 4 5 6 T w) (hU : Lib.Utf8Tabs 1 2 w) :
    Calls Tryz.prog 6 #[.string nm, .slice K m d, .string missS] w (ModOfP (strOfNums (Lib.quoteZ T nm)) m L w) := by
  obtain ⟨w1, hw1, b1, r1, s1⟩ : ∃ w1, w.alloc (.cells #[.string ⟨#[]⟩, .string ⟨#[]⟩, .slice none 0 0, .slice none 0 0, .int .i64 0, .bool false, .bool false] 27) = w1 ∧ Below w.heap.size w w1 ∧ RowB w1 w.heap.size #[.string ⟨#[]⟩, .string ⟨#[]⟩, .slice none 0 0, .slice none 0 0, .int .i64 0, .bool false, .bool false] 27 ∧ w1.heap.size = w.heap.size + 1 :=
    ⟨_, rfl, below_alloc' (Below.refl _ _) _, RowB.new w _ _, alloc_size _ _⟩
  have H11 := Lib.hid (c11 S K m d L w1 (hR.below hS b1) (fun k hk => Nat.lt_of_lt_of_le (hS k hk) b1.size) hm hmd hok hnd (below_cell b1 h9) (below_cell b1 h8))
  have hl := hR.1
  have HL := Lib.hid hl
  have HOK := Lib.hid hok
  have HND := Lib.hid hnd
  have HSO := Lib.hid hso
  have HT := Lib.hid hT
  have HU := Lib.hid hU
  have H12 : Hid (∀ (b B : Nat) (D : DataW Value) (vs : Nat → Value) (W : World), RowB W b #[.string nm, .map (some B)] 49 → W.ownsMap Tryz.prog 9 Rv B m D → DictOK D L vs m → (∀ j, j < m → SVp 3 W (L.getD j default).2 (vs j)) → Lib.PrintTabsAt 3 4 5 6 T W → Lib.Utf8Tabs 1 2 W →
      Calls Tryz.prog 12 #[.pointer (some ⟨b, 0, none⟩), .string missS] W (ModP (strOfNums (Lib.quoteZ T nm)) m L W)) := fun b B D vs W a1 a2 a3 a4 a5 a6 => c12 b B m T nm D L vs W a1 a2 a3 a4 hl hm hok (keys_sorted a2 a3 hl hnd hso) hnm a5 a6
  generalize strOfNums (Lib.quoteZ T nm) = q at H12 ⊢
  clear hR hS hok hnd hso h9 h8 hl hT hU
  go_enter Tryz.func6, Tryz.ntmps6
  go_wp2_with fail
  clear hw1
  refine H11.out.mono ?_
  rintro e w2 ⟨B, D, vs, rfl, hO, hD, hV, hB2⟩
  have b2 := below_trans' b1 hB2
  obtain ⟨w3, hw3, bb3, rb3, hs3⟩ : ∃ w3, w2.alloc (.cells #[.string nm, .map (some B)] 49) = w3 ∧ Below w2.heap.size w2 w3 ∧ RowB w3 w2.heap.size #[.string nm, .map (some B)] 49 ∧ w3.heap.size = w2.heap.size + 1 :=
    ⟨_, rfl, below_alloc' (Below.refl _ _) _, RowB.new w2 _ _, alloc_size _ _⟩
  have b3 := below_trans' b2 bb3
  have H := Lib.hid (H12.out w2.heap.size B D vs w3 rb3 (hO.kept (grown_of_below' bb3 none) (by simp)) hD (fun j hj => (hV j hj).below bb3) (printTabs_below HT.out b3) (Utf8Tabs_below HU.out b3))
  have r3 := (r1.below hB2).below bb3
  have HB3 := Lib.hid b3
  have R3 := Lib.hid r3
  clear hO hD hV hB2 H11 H12 r3 bb3 rb3
  go_wp2_with fail
  clear hw3
  refine H.out.mono ?_
  rintro e w4 ⟨gn, cap, Km, dm, rfl, hc1, hd1, hgn2, hNC, hNm, hB4⟩
  have r4 := R3.out.below hB4
  obtain ⟨f0, k0, f1, k1, f2, k2, f3, k3, f4, k4, f5, k5, f6, k6⟩ := facts7 r4 (.string (mtx q)) (.string ⟨#[109, 111, 100, 117, 108, 101]⟩) (.slice (some ⟨gn, 0, none⟩) m cap) (.slice Km m dm) (.int .i64 0) (.bool true)
  have R4 := Lib.hid r4
  have HNC := Lib.hid hNC
  have HNm := Lib.hid hNm
  have HB4 := Lib.hid (below_trans' HB3.out hB4)
  have hs4 := hB4.size
  have l3 := R3.out.lt
  have hgn : m = 0 ∨ (gn < w4.heap.size) := by
    by_cases h0 : m = 0
    · exact .inl h0
    · exact .inr (cell_lt (hNC 0 (by omega)))
  clear r4 hNC hNm H
  go_wp2_with fail
  refine bodyPost_ret (ret_rowT (set7 _ _ _ _ _ _ _ R4.out) rfl _ _ (.bool true) rfl rfl Tryz.underlying27 rfl i27) rfl ?_
  have g5 := set7_grown w4 w.heap.size (.string (mtx q)) (.string ⟨#[109, 111, 100, 117, 108, 101]⟩) (.slice (some ⟨gn, 0, none⟩) m cap) (.slice Km m dm) (.int .i64 0) (.bool true) (.bool true)
  show ModOfP _ _ _ _ _ (set7W w4 w.heap.size (.string (mtx q)) (.string ⟨#[109, 111, 100, 117, 108, 101]⟩) (.slice (some ⟨gn, 0, none⟩) m cap) (.slice Km m dm) (.int .i64 0) (.bool true) (.bool true))
  generalize (set7W w4 w.heap.size (.string (mtx q)) (.string ⟨#[109, 111, 100, 117, 108, 101]⟩) (.slice (some ⟨gn, 0, none⟩) m cap) (.slice Km m dm) (.int .i64 0) (.bool true) (.bool true)) = w5 at g5 ⊢
  have hs5 := g5.size
  have hb5 := below_grown' HB4.out g5 (Nat.le_refl _)
  have hag : ∀ k, w3.heap.size ≤ k → k < w4.heap.size → w5.heap[k]? = w4.heap[k]? := fun k h1 h2 => g5.block k h2 (by simp; omega)
  refine ⟨gn, cap, Km, dm, rfl, hc1, hd1, by omega, fun i hi => ?_, (HNm.out.agree fun k hk => hag k hk.1 hk.2).mono fun k hk => ⟨by have := hk.1; omega, by have := hk.2; omega⟩, hb5⟩
  rw [World.cell?_of_block (hag gn hgn2 (hgn.resolve_left (by omega)))]
  exact HNC.out i hi
end Go.Proofs.YtpfihjkhgfoijaaGreatDoor

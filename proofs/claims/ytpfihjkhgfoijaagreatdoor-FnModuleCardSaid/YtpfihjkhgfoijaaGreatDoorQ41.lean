/- sort.Slice over names with trees: the contract; Names with trees, sorted: how they lie in memory; laws.toldNamed; laws.FnModule; What came in, opened: from the form's data to memory. -/
import Derived.Test.YtpfihjkhgfoijaaGreatDoorQ40
import Derived.Test.YtpfihjkhgfoijaaGreatDoorQ31
import Derived.Test.YtpfihjkhgfoijaaGreatDoorQ39
import Derived.ProofKit
import Derived.OpenShut
import Derived.SizedLaws
set_option linter.unusedVariables false
set_option linter.unusedSimpArgs false
set_option maxRecDepth 100000
namespace Go.Proofs.YtpfihjkhgfoijaaGreatDoor
open Go.RowKit Go.Lib Go.Sort

theorem enter10 : ∀ args w, (callFunc 10 args).run Tryz.prog w = .ok (.enter 10 args) w := enters_of Tryz.func10 (by kernel_rfl) rfl
theorem swap52 : ∀ args W, (callFunc 52 args).run Tryz.prog W = ((Extern.ReflectliteSwapper.swap false args).run Tryz.prog W).andThen fun v w' => .ok (.value v) w' := fun args W =>
  run_callFunc_extern Tryz.func52 (by kernel_rfl) (by kernel_rfl) (by kernel_rfl) (e := Extern.ReflectliteSwapper.swap false) (by kernel_rfl) args W
theorem cell_grow {w : World} {os : Array Obj} {a : Addr} {v : Value} (h : w.cell? a = some v) : (grow w os).cell? a = some v := by
  have hlt := cell_lt h
  rw [← h]
  unfold World.cell?
  rw [heap_grow_old _ _ hlt]
theorem less10 (B g cap : Nat) (d : Array N7) (w : World) (h5 : d.size ≤ 5) (hB : w.cell? ⟨B, 0, none⟩ = some (.slice (some ⟨g, 0, none⟩) d.size cap)) (hH : HoldsK N7.enc 7 w g 0 d) (hg : g < w.heap.size) (hBg : B ≠ g) :
    LessReadsK Tryz.prog 10 #[.pointer (some ⟨B, 0, none⟩)] N7.enc 7 N7.lt g 0 d.size w := by
  intro m os dk hs i j hi hj
  have hB' : (sortWorldK N7.enc 7 w g 0 m dk os).cell? ⟨B, 0, none⟩ = some (.slice (some ⟨g, 0, none⟩) d.size cap) := by
    unfold sortWorldK
    apply cell_grow
    rw [cell?_putRowK_other N7.enc 7 _ _ _ _ _ hBg]
    exact hB
  have hK : HoldsK N7.enc 7 (sortWorldK N7.enc 7 w g 0 m dk os) g 0 dk := by
    unfold sortWorldK
    refine holdsK_grow N7.enc 7 _ os g 0 dk ?_ (holdsK_putRowK N7.enc 7 _ g 0 d dk (holdsK_ahead N7.enc 7 w m g 0 d hH) hs)
    simp [putRowK, putRow, mapBlock, Sort.ahead]; exact hg
  have e1 := (hK.cell (i := i) (c := 0) (by omega) (by omega)).1
  have e2 := (hK.cell (i := j) (c := 0) (by omega) (by omega)).1
  rw [Nat.zero_add, Nat.add_zero] at e1 e2
  exact c10 B g i j d.size cap dk[i]!.s dk[j]!.s _ hi hj (by omega) hB' e1 e2
def SortP (g : Nat) (d : Array N7) (w : World) (w' : World) : Prop :=
  ∃ d' n os, PermIn 0 d.size d d' ∧ SortedIn N7.lt 0 d.size d' ∧ w' = grow (putRowK N7.enc 7 (Sort.ahead w n) g 0 d') os
theorem c9 (B g cap : Nat) (d : Array N7) (w : World) (h5 : d.size ≤ 5) (hB : w.cell? ⟨B, 0, none⟩ = some (.slice (some ⟨g, 0, none⟩) d.size cap)) (hH : HoldsK N7.enc 7 w g 0 d) (hg : g < w.heap.size) (hBg : B ≠ g) :
    Calls Tryz.prog 9 #[.iface 22 (.slice (some ⟨g, 0, none⟩) d.size cap), .func (.func 10) #[] #[.pointer (some ⟨B, 0, none⟩)]] w fun e w' => e = .returned (.tuple #[]) ∧ SortP g d w w' := by
  refine c9of _ _ _ (by omega) _ _ _ w _ fun sb hsb => ?_
  have hW : (w.alloc (.cells #[.slice (some ⟨g, 0, none⟩) d.size cap] 22)).alloc (.cells #[.pointer (some ⟨14, 22, none⟩), .pointer (some ⟨w.heap.size, 0, none⟩), .int .u64 151] 60) = grow w #[.cells #[.slice (some ⟨g, 0, none⟩) d.size cap] 22, .cells #[.pointer (some ⟨14, 22, none⟩), .pointer (some ⟨w.heap.size, 0, none⟩), .int .u64 151] 60] := by
    rw [alloc_eq_grow, alloc_eq_grow, grow_grow]; rfl
  generalize (#[.cells #[.slice (some ⟨g, 0, none⟩) d.size cap] 22, .cells #[.pointer (some ⟨14, 22, none⟩), .pointer (some ⟨w.heap.size, 0, none⟩), .int .u64 151] 60] : Array Obj) = os0 at hW
  rw [hW]
  by_cases h2 : 2 ≤ d.size
  · obtain ⟨ie, hie, hs⟩ := Option.map_eq_some_iff.1 i38s
    rw [hsb h2, show swF d.size = 52 from by unfold swF; rw [if_neg (by omega), if_neg (by omega)]]
    have hp := Tryz.pdqsort_func_small_cells N7.enc 7 N7.len N7.lt 10 #[.pointer (some ⟨B, 0, none⟩)] 52 _ g 0 0 d.size (Lib.bitLen d.size) d (grow w os0) enter10 ((less10 B g cap d w h5 hB hH hg hBg).grow hg os0)
      (swapSwapsK_of_literal false 52 swap52 38 ie hie N7.enc 7 N7.len (by simp only [Prod.mk.injEq] at hs; exact hs.1) agg38 N7.one g 0 d.size cap) (holdsK_grow N7.enc 7 w _ g 0 d hg hH) (by rw [size_grow]; omega) (by omega) (Nat.le_refl _) (by omega) (by omega)
    refine hp.mono ?_
    rintro e w' ⟨rfl, n, rfl⟩
    have h := insertionSort_holds (lt := N7.lt) N7.swo d 0 d.size (Nat.zero_le _) (Nat.le_refl _)
    exact ⟨rfl, _, n, _, h.1, h.2, by rw [alloc_eq_grow, alloc_eq_grow, grow_grow, grow_grow, ahead_grow, putRowK_grow N7.enc 7 (Sort.ahead w n) _ g _ _ hg]⟩
  · refine (Tryz.pdqsort_func_tiny (.func 10) #[] #[.pointer (some ⟨B, 0, none⟩)] (swF d.size) sb d.size (by omega) (Lib.bitLen d.size) (grow w os0)).mono ?_
    rintro e w' ⟨rfl, rfl⟩
    refine ⟨rfl, d, 0, os0 ++ #[.cells #[.func (.func 10) #[] #[.pointer (some ⟨B, 0, none⟩)], .func (.func (swF d.size)) #[] sb] 69] ++ #[.cells #[.func (.func 10) #[] #[.pointer (some ⟨B, 0, none⟩)], .func (.func (swF d.size)) #[] sb] 69], ⟨rfl, fun _ _ => rfl, List.Perm.refl _⟩, fun i j _ _ _ => by omega, ?_⟩
    rw [show Sort.ahead w 0 = w from rfl, putRowK_self N7.enc 7 w g 0 d hH, alloc_eq_grow, alloc_eq_grow, grow_grow, grow_grow, Array.append_assoc]
theorem c9nil (B : Nat) (w : World) : Calls Tryz.prog 9 #[.iface 22 (.slice none 0 0), .func (.func 10) #[] #[.pointer (some ⟨B, 0, none⟩)]] w fun e w' => e = .returned (.tuple #[]) ∧ Below w.heap.size w w' := by
  refine c9of none 0 0 (by omega) _ _ _ w _ fun sb hsb => ?_
  refine (Tryz.pdqsort_func_tiny (.func 10) #[] #[.pointer (some ⟨B, 0, none⟩)] (swF 0) sb 0 (by omega) _ _).mono ?_
  rintro e w' ⟨rfl, rfl⟩
  exact ⟨rfl, below_alloc' (below_alloc' (below_alloc' (below_alloc' (Below.refl _ _) _) _) _) _⟩
end Go.Proofs.YtpfihjkhgfoijaaGreatDoor
namespace Go.Proofs.YtpfihjkhgfoijaaGreatDoor
open Go.RowKit Go.Lib Go.Sort

def N7.nt (x : N7) : NT := (x.s, x.t)
def N7.cells (x : N7) : Array Value := #[.int .i64 x.k, .bool x.ng, .slice x.A x.a x.c, .int .u64 x.u, .string x.tx, .slice x.K x.m x.d]
/-- what stands beside the row in block g -/
def N7.good (R : BS) (w : World) (g : Nat) (x : N7) : Prop := ∃ S : BS, ¬ S g ∧ (∀ k, S k → k < w.heap.size ∧ R k) ∧ VC 3 S w x.t x.cells
theorem N7.of {S : BS} {w : World} {x : NT} {c : Array Value} (h : NC S w x c) : ∃ y : N7, y.nt = x ∧ c = y.enc.toArray ∧ VC 3 S w y.t y.cells := by
  obtain ⟨a0, a1, a2, a3, a4, a5, rfl, hV⟩ := h
  obtain ⟨A, a, c, K, m, d, e, _⟩ := hV.head
  simp at e
  obtain ⟨rfl, rfl, rfl, rfl, rfl, rfl⟩ := e
  exact ⟨⟨x.1, x.2, x.2.kind, x.2.neg, A, a, c, x.2.bits, x.2.text, K, m, d⟩, rfl, rfl, hV⟩
theorem kin_n7 {base : Nat} {R : BS} {w : World} {g m dd : Nat} {L : List NT} (h : KinN base R w (.slice (some ⟨g, 0, none⟩) m dd) m L) :
    ∃ d : Array N7, d.size = m ∧ HoldsK N7.enc 7 w g 0 d ∧ L = d.toList.map N7.nt ∧ ∀ x ∈ d.toList, x.good R w g := by
  obtain ⟨css, ho, h1, h2, h3, hk⟩ := h.out
  rcases ho.2 with ⟨e, _⟩ | ⟨g', cap, cur, e, hb, hg, _, _, hcs, ht⟩
  · cases e
  · cases e
    have hx : ∀ i, ∃ x : N7, i < m → x.nt = L.getD i default ∧ css.getD i #[] = x.enc.toArray ∧ x.good R w g := fun i => by
      by_cases hi : i < m
      · obtain ⟨S, k2, k3, k4⟩ := hk i hi
        obtain ⟨y, e1, e2, e3⟩ := N7.of k4
        exact ⟨y, fun _ => ⟨e1, e2, S, k2 g rfl, k3, e3⟩⟩
      · exact ⟨default, fun h => absurd h hi⟩
    obtain ⟨f, hf⟩ := Classical.skolem.1 hx
    have hd : ∀ i, i < m → ((Array.range m).map f)[i]! = f i := fun i hi => by simp [hi]
    refine ⟨(Array.range m).map f, by simp, ?_, ?_, ?_⟩
    · intro t ht'
      have htm : t < m * 7 := by simpa using ht'
      have hi : t / 7 < m := by omega
      have e1 : w.cell? ⟨g, 0 + t, none⟩ = (f (t / 7)).enc[t % 7]? := by
        rw [Nat.zero_add, cell_of_row w g t cur 38 (0, 0) hg, ← Array.getElem?_toList]
        have h4 : (cur.toList.take (m * 7))[t]? = (flat6 css)[t]? := by rw [ht]
        rw [List.getElem?_take, if_pos htm] at h4
        rw [h4]
        have h5 := flat7_get h3 (t / 7) (t % 7) (by omega) (by omega)
        rw [show t / 7 * 7 + t % 7 = t from by omega] at h5
        rw [h5, (hf _ hi).2.1]; simp
      refine ⟨?_, by simp [World.frozen?, hg]⟩
      rw [get_flatK _ _ _ _ (by simpa using htm), hd _ hi, e1]
      have : t % 7 < (f (t / 7)).enc.length := by rw [N7.len]; omega
      rw [List.getElem?_eq_getElem this]
      exact congrArg some (getElem!_pos (f (t / 7)).enc (t % 7) this).symm
    · apply List.ext_getElem?
      intro i
      by_cases hi : i < m
      · have := (hf i hi).1
        rw [List.getD_eq_getElem?_getD, List.getElem?_eq_getElem (by omega)] at this
        rw [List.getElem?_eq_getElem (by omega)]
        simp [hi]
        exact this.symm
      · rw [List.getElem?_eq_none (by omega), List.getElem?_eq_none (by simp; omega)]
    · intro x hxm
      simp at hxm
      obtain ⟨i, hi, rfl⟩ := hxm
      exact (hf i hi).2.2
theorem grownBy_sortK {w : World} {g n : Nat} {os : Array Obj} (d : Array N7) : w.grownBy (grow (putRowK N7.enc 7 (Sort.ahead w n) g 0 d) os) (some g) := by
  refine ⟨rfl, rfl, rfl, by simp [putRowK], fun k hk hne => ?_⟩
  rw [heap_grow_old _ _ (by simpa [putRowK] using hk)]
  have : g ≠ k := fun e => hne (by rw [e])
  simp [putRowK, putRow, mapBlock, Sort.ahead, Array.getElem?_modify, this]
/-- behind the sort -/
theorem sort_nm {R : BS} {w w' : World} {g : Nat} {d : Array N7} (hH : HoldsK N7.enc 7 w g 0 d) (hg : g < w.heap.size) (hx : ∀ x ∈ d.toList, x.good R w g) (hs : SortP g d w w') (S : BS) (hSg : S g) (hSR : ∀ k, k < w.heap.size → R k → S k) :
    ∃ L' : List NT, L'.Perm (d.toList.map N7.nt) ∧ (L'.map nmL).Pairwise (fun a b => leB a b = true) ∧ NmR S w' (some ⟨g, 0, none⟩) d.size L' ∧ w.grownBy w' (some g) := by
  obtain ⟨d', n, os, hp, hso, rfl⟩ := hs
  have hsz := hp.1
  have hperm : d'.toList.Perm d.toList := by
    have := hp.2.2
    simp only [Array.toList_extract, List.extract_eq_take_drop, List.drop_zero, Nat.sub_zero] at this
    rwa [List.take_of_length_le (by simp; omega), List.take_of_length_le (by simp)] at this
  have hgr := grownBy_sortK (w := w) (g := g) (n := n) (os := os) d'
  have hK : HoldsK N7.enc 7 (grow (putRowK N7.enc 7 (Sort.ahead w n) g 0 d') os) g 0 d' :=
    holdsK_grow N7.enc 7 _ os g 0 d' (by simp [putRowK, putRow, mapBlock, Sort.ahead]; exact hg) (holdsK_putRowK N7.enc 7 _ g 0 d d' (holdsK_ahead N7.enc 7 w n g 0 d hH) hsz)
  generalize grow (putRowK N7.enc 7 (Sort.ahead w n) g 0 d') os = W at hgr hK
  refine ⟨d'.toList.map N7.nt, hperm.map _, ?_, ⟨by simp [hsz], .inr ⟨g, rfl, hSg, fun i hi => ?_⟩⟩, hgr⟩
  · rw [List.map_map, List.pairwise_map, List.pairwise_iff_getElem]
    intro i j hi hj hij
    have := hso i j (Nat.zero_le _) hij (by simpa [hsz] using hj)
    rw [getElem!_pos d' i (by simpa using hi), getElem!_pos d' j (by simpa using hj)] at this
    unfold N7.lt at this
    rw [bytesLess_eq, decide_eq_false_iff_not, List.not_lt, ByteArray.toList_eq, ByteArray.toList_eq] at this
    exact decide_eq_true this
  · have hi' : i < d'.size := by omega
    have e : (d'.toList.map N7.nt).getD i default = (d'[i]!).nt := by
      rw [List.getD_eq_getElem?_getD, List.getElem?_map, List.getElem?_eq_getElem (by simpa using hi'), getElem!_pos d' i hi']; rfl
    have hm : d'[i]! ∈ d.toList := hperm.mem_iff.1 (by rw [getElem!_pos d' i hi']; simp)
    obtain ⟨S0, k1, k2, k3⟩ := hx _ hm
    rw [e]
    have hc := fun c (h : c < 7) => (hK.cell (i := i) (c := c) hi' h).1
    refine ⟨(d'[i]!).cells, ?_, fun j hj => ?_, (k3.agree fun k hk => hgr.block k (k2 k hk).1 (by intro e; cases e; exact k1 hk)).mono fun k hk => hSR k (k2 k hk).1 (k2 k hk).2⟩
    · have := hc 0 (by omega)
      rw [Nat.zero_add, Nat.add_zero] at this
      exact this
    · have := hc (1 + j) (by omega)
      rw [Nat.zero_add, ← Nat.add_assoc] at this
      rw [this]
      match j, hj with
      | 0, _ => rfl
      | 1, _ => rfl
      | 2, _ => rfl
      | 3, _ => rfl
      | 4, _ => rfl
      | 5, _ => rfl
end Go.Proofs.YtpfihjkhgfoijaaGreatDoor
namespace Go.Proofs.YtpfihjkhgfoijaaGreatDoor
open Go.RowKit

/-- the slice of names with values that came in -/
def NIn (w : World) (A : Option Addr) (n : Nat) : Prop := n = 0 ∨ ∃ x : Addr, A = some x ∧ ∀ i, i < n → ∃ s cs, s.size ≤ 9223372036854775806 ∧ w.cell? (x.add (i * 7)) = some (.string s) ∧ (∀ j, j < 6 → w.cell? (x.add (i * 7 + (1 + j))) = cs[j]?) ∧ IV 3 w cs
def TNP (w : World) (e : Ending) (w' : World) : Prop :=
  ∃ K m d L, e = .returned (.slice K m d) ∧ m ≤ 5 ∧ m ≤ d ∧ NmR (blks w.heap.size w'.heap.size) w' K m L ∧ (∀ x ∈ L, GoodT x.2 ∧ NmOk x.1) ∧ (L.map nmL).Nodup ∧ (L.map nmL).Pairwise (fun a b => leB a b = true) ∧ Below w.heap.size w w'
set_option maxHeartbeats 8000000 in
theorem c5 (A : Option Addr) (n c : Nat) (w : World) (hn : n ≤ c) (hc : c ≤ 140737488355328) (hI : NIn w A n) : Calls Tryz.prog 5 #[.slice A n c] w (TNP w) := by
  obtain ⟨q, hq, hq5, hqn⟩ : ∃ q : Nat, min (n : Int) 5 = (q : Int) ∧ q ≤ 5 ∧ q ≤ n := by
    by_cases h : n ≤ 5
    · exact ⟨n, by omega, h, Nat.le_refl _⟩
    · exact ⟨5, by omega, Nat.le_refl _, by omega⟩
  have HI := Lib.hid hI
  have RB0 := Lib.hid (RowB.new w #[.slice none 0 0] 22)
  have HB0 : Hid (Below w.heap.size w (w.alloc (.cells #[.slice none 0 0] 22))) := below_alloc' (Below.refl _ _) _
  have HZ0 : Hid ((w.alloc (.cells #[.slice none 0 0] 22)).heap.size = w.heap.size + 1) := alloc_size _ _
  have qc : (q : Int) ≤ (c : Int) := by omega
  clear hI
  go_enter Tryz.func5, Tryz.ntmps5
  go_wp2_with fail
  clear hq
  go_loopw [15] (fun vi wr => ∃ (i : Nat) (v : Value) (L : List NT), i ≤ q ∧ vi = .int .i64 (i : Int) ∧ Hid (RowB wr w.heap.size #[v] 22) ∧ KinN (w.heap.size + 1) (fun k => w.heap.size + 1 ≤ k) wr v L.length L ∧ L.length ≤ i ∧ Hid (Below w.heap.size w wr) ∧ w.heap.size + 1 ≤ wr.heap.size ∧ Hid ((L.map nmL).Nodup) ∧ Hid (∀ x ∈ L, GoodT x.2 ∧ NmOk x.1)) (fun vi _ => q - (intOf vi).toNat)
  case atStart => exact ⟨0, _, [], by omega, rfl, RB0.out, KinN.nil _ _ _, by simp, HB0.out, by rw [HZ0.out]; exact Nat.le_refl _, by show List.Nodup _; simp, by intro x hx; cases hx⟩
  case round =>
    obtain ⟨i, v, L, hi, rfl, r, hK, hLi, hB, hsz, hND, hOK⟩ := hrel
    rename World => wo
    by_cases hlt : i < q
    · obtain ⟨x, rfl, hel⟩ := HI.out.resolve_left (by omega)
      obtain ⟨s0, cs, hs0s, hs0, hcs, hIV⟩ := hel i (by omega)
      obtain ⟨k2, ng2, A2, a2, c2, u2, t2, K2, m2, d2, bs2, rfl, _⟩ := id hIV
      have y0 : w.cell? (x.add (i * 7)) = some (.string s0) := hs0
      have y1 : w.cell? ⟨(x.add (i * 7)).block, (x.add (i * 7)).off + 1, none⟩ = some (.int .i64 k2) := by
        have z := hcs 0 (by omega)
        rw [← add_add', add_pos _ _ (by omega)] at z
        exact z
      have y2 : w.cell? ⟨(x.add (i * 7)).block, (x.add (i * 7)).off + 2, none⟩ = some (.bool ng2) := by
        have z := hcs 1 (by omega)
        rw [← add_add', add_pos _ _ (by omega)] at z
        exact z
      have y3 : w.cell? ⟨(x.add (i * 7)).block, (x.add (i * 7)).off + 3, none⟩ = some (.slice A2 a2 c2) := by
        have z := hcs 2 (by omega)
        rw [← add_add', add_pos _ _ (by omega)] at z
        exact z
      have y4 : w.cell? ⟨(x.add (i * 7)).block, (x.add (i * 7)).off + 4, none⟩ = some (.int .u64 ((u2 : Nat) : Int)) := by
        have z := hcs 3 (by omega)
        rw [← add_add', add_pos _ _ (by omega)] at z
        exact z
      have y5 : w.cell? ⟨(x.add (i * 7)).block, (x.add (i * 7)).off + 5, none⟩ = some (.string t2) := by
        have z := hcs 4 (by omega)
        rw [← add_add', add_pos _ _ (by omega)] at z
        exact z
      have y6 : w.cell? ⟨(x.add (i * 7)).block, (x.add (i * 7)).off + 6, none⟩ = some (.slice K2 m2 d2) := by
        have z := hcs 5 (by omega)
        rw [← add_add', add_pos _ _ (by omega)] at z
        exact z
      obtain ⟨yb, yo, hxa⟩ := cell_addr y0
      rw [hxa] at y0 y1 y2 y3 y4 y5 y6
      have y0 := below_cell hB.out y0
      have y1 := below_cell hB.out y1
      have y2 := below_cell hB.out y2
      have y3 := below_cell hB.out y3
      have y4 := below_cell hB.out y4
      have y5 := below_cell hB.out y5
      have y6 := below_cell hB.out y6
      have q1 : (i : Int) < (q : Int) := by omega
      obtain ⟨wA, hwA, bA, rA, sA⟩ : ∃ wA, wo.alloc (.cells (#[.string s0, .int .i64 k2, .bool ng2, .slice A2 a2 c2, .int .u64 ((u2 : Nat) : Int), .string t2, .slice K2 m2 d2]) 38) = wA ∧ Below wo.heap.size wo wA ∧ RowB wA wo.heap.size (#[.string s0, .int .i64 k2, .bool ng2, .slice A2 a2 c2, .int .u64 ((u2 : Nat) : Int), .string t2, .slice K2 m2 d2]) 38 ∧ wA.heap.size = wo.heap.size + 1 :=
        ⟨_, rfl, below_alloc' (Below.refl _ _) _, RowB.new wo _ _, alloc_size _ _⟩
      have bAd := below_trans' hB.out (below_trans' bA (bdrew1 wA))
      have H8 := Lib.hid (c8 _ wA.drew (hIV.below bAd))
      have H4 : Hid (∀ W, Calls Tryz.prog 4 #[.string s0] W (NameP W)) := fun W => c4 s0 hs0s W
      have RD := Lib.hid rA.drew
      have n0 := rA.drew.cell 0 _ rfl
      have n1 := rA.drew.cell 1 _ rfl
      have n2 := rA.drew.cell 2 _ rfl
      have n3 := rA.drew.cell 3 _ rfl
      have n4 := rA.drew.cell 4 _ rfl
      have n5 := rA.drew.cell 5 _ rfl
      have n6 := rA.drew.cell 6 _ rfl
      have BAD := Lib.hid bAd
      have BAD2 := Lib.hid (below_trans' bA (bdrew1 wA))
      have SA := Lib.hid sA
      clear hIV hcs hel hs0 rA bAd bA sA
      go_upto_region 5 with (fail)
      clear hwA y0 y1 y2 y3 y4 y5 y6 hxa
      go_region_law (first
        | (go_simp; go_at_call 4; refine (H4.out _).mono ?_; rintro e w9 ⟨nm, rfl, hnm, rfl⟩)
        | (go_simp; go_at_call 8; refine H8.out.mono ?_; rintro e w2 ⟨t, cs2, rfl, hgt, hV2, hB2⟩
           obtain ⟨A3, a3, c3, K3, m3, d3, rfl, _⟩ := hV2.head
           have p0 := (RD.out.below hB2).cell 0 _ rfl
           have f0 := (RD.out.below hB2).free 0
           have p1 := (RD.out.below hB2).cell 1 _ rfl
           have f1 := (RD.out.below hB2).free 1
           have p2 := (RD.out.below hB2).cell 2 _ rfl
           have f2 := (RD.out.below hB2).free 2
           have p3 := (RD.out.below hB2).cell 3 _ rfl
           have f3 := (RD.out.below hB2).free 3
           have p4 := (RD.out.below hB2).cell 4 _ rfl
           have f4 := (RD.out.below hB2).free 4
           have p5 := (RD.out.below hB2).cell 5 _ rfl
           have f5 := (RD.out.below hB2).free 5
           have p6 := (RD.out.below hB2).cell 6 _ rfl
           have f6 := (RD.out.below hB2).free 6
           have RW2 := Lib.hid (RD.out.below hB2)
           have HV2 := Lib.hid hV2; have HGT := Lib.hid hgt; clear hV2 hgt))
      all_goals
        obtain ⟨w3, hw3, r3, g3⟩ : ∃ w3, set7W w2 wo.heap.size (.string nm) (.int .i64 t.kind) (.bool t.neg) (.slice A3 a3 c3) (.int .u64 (t.bits : Int)) (.string t.text) (.slice K3 m3 d3) = w3 ∧ RowB w3 wo.heap.size (#[.string nm, .int .i64 t.kind, .bool t.neg, .slice A3 a3 c3, .int .u64 (t.bits : Int), .string t.text, .slice K3 m3 d3]) 38 ∧ w2.grownBy w3 (some wo.heap.size) :=
          ⟨_, rfl, set7 _ _ _ _ _ _ _ RW2.out, set7_grown _ _ _ _ _ _ _ _ _⟩
        unfold set7W at hw3
        clear f0 f1 f2 f3 f4 f5 f6 p0 p1 p2 p3 p4 p5 p6 n0 n1 n2 n3 n4 n5 n6
        have hA2 : wA.heap.size ≤ w2.heap.size := hB2.size
        have hs3 := g3.size
        have SA' := SA.out
        have b3 : Below wo.heap.size wo w3 := by
          have h1 : Below wo.heap.size wo w2 := below_trans' BAD2.out hB2
          exact below_grown' h1 g3 (Nat.le_refl _)
        have hlw := r.out.lt
        have rB3 := r.out.below b3
        have kB := rB3.cell 0 _ rfl
        obtain ⟨Kv, dv, rfl, hdv1, hdv2, hKv⟩ := hK.shape
        have HN3 := Lib.hid ((hK.get (blks (w.heap.size + 1) wo.heap.size) (fun k h1 h2 => ⟨h1, h2⟩) (fun k h1 h2 => ⟨h1, h2⟩)).agree fun k hk => b3.block k hk.2)
        have HV3 := Lib.hid (HV2.out.agree (W := w3) fun k hk => g3.block k hk.2 (by have := hk.1; have : wA.drew.heap.size = wA.heap.size := rfl; simp; omega))
        have HB3 := Lib.hid b3
        have R3 := Lib.hid r3
        have RB3 := Lib.hid rB3
        have HKK := Lib.hid hK
        have HNM := Lib.hid hnm
        have h1 := hB2
        clear hB2 g3 r3 rB3 b3 hK HV2 RW2 hnm h1
        go_wp2_with fail
        clear hw3 kB
        go_loopw [6, 28] (fun vt vj wz => ∃ (j : Nat) (th : Bool), j ≤ L.length ∧ vj = .int .i64 (j : Int) ∧ vt = .bool th ∧ Hid (th = decide (nm.data.toList ∈ (L.take j).map nmL)) ∧ Hid (Below w3.heap.size w3 wz)) (fun _ vj _ => L.length - (intOf vj).toNat)
        case atStart => exact ⟨0, false, by omega, rfl, rfl, by show _ = _; simp, Below.refl _ _⟩
        case round =>
          obtain ⟨j, th, hj, rfl, rfl, hth, hBz⟩ := hrel
          rename World => wz
          by_cases hjl : j < L.length
          · obtain ⟨g, A4, a4, c4, K4, m4, d4, rfl, -, -, z0, z1, z2, z3, z4, z5, z6⟩ := HN3.out.at (fun k hk => by have := hk.2; omega) j hjl hBz.out
            have htk := take_succ_map L j hjl
            generalize L.getD j default = y at z0 z1 z2 z3 z4 z5 z6 htk
            obtain ⟨sj, tj⟩ := y
            have kx := (R3.out.below hBz.out).cell 0 _ rfl
            have ry := RowB.new wz #[.string sj, .int .i64 tj.kind, .bool tj.neg, .slice A4 a4 c4, .int .u64 (tj.bits : Int), .string tj.text, .slice K4 m4 d4] 38
            have ky := ry.cell 0 _ rfl
            have kx' := ((R3.out.below hBz.out).alloc (.cells #[.string sj, .int .i64 tj.kind, .bool tj.neg, .slice A4 a4 c4, .int .u64 (tj.bits : Int), .string tj.text, .slice K4 m4 d4] 38)).cell 0 _ rfl
            have HBz2 : Hid (Below w3.heap.size w3 (wz.alloc (.cells #[.string sj, .int .i64 tj.kind, .bool tj.neg, .slice A4 a4 c4, .int .u64 (tj.bits : Int), .string tj.text, .slice K4 m4 d4] 38))) := below_alloc' hBz.out _
            have qj : (j : Int) < (L.length : Int) := by omega
            have HTK := Lib.hid htk
            clear htk ry
            cases th with
            | true =>
              have HT : Hid (true = decide (nm.data.toList ∈ (L.take (j + 1)).map nmL)) := by
                show _ = _
                have h1 := hth.out
                rw [eq_comm, decide_eq_true_eq] at h1 ⊢
                rw [HTK.out]; exact List.mem_append.2 (.inl h1)
              go_wp2_with fail
              go_round
              case rel => exact ⟨j + 1, true, by omega, by go_num, rfl, HT.out, HBz2.out⟩
              case measure => simp [intOf]; omega
            | false =>
              by_cases he : sj = nm
              · have HT : Hid (true = decide (nm.data.toList ∈ (L.take (j + 1)).map nmL)) := by
                  show _ = _
                  rw [eq_comm, decide_eq_true_eq, HTK.out, ← he]
                  exact List.mem_append.2 (.inr (List.mem_singleton.2 rfl))
                subst he
                go_wp2_with fail
                go_round
                case rel => exact ⟨j + 1, true, by omega, by go_num, rfl, HT.out, HBz2.out⟩
                case measure => simp [intOf]; omega
              · have HT : Hid (false = decide (nm.data.toList ∈ (L.take (j + 1)).map nmL)) := by
                  show _ = _
                  have h1 := hth.out
                  rw [eq_comm, decide_eq_false_iff_not] at h1 ⊢
                  rw [HTK.out]
                  intro hm
                  rcases List.mem_append.1 hm with h | h
                  · exact h1 h
                  · have h2 : nm.data.toList = sj.data.toList := List.mem_singleton.1 h
                    exact he (ByteArray.ext (Array.toList_inj.1 h2.symm))
                have heq : (sj.toList == nm.toList) = false := by
                  rw [beq_eq_false_iff_ne, ByteArray.toList_eq, ByteArray.toList_eq]
                  exact fun h => he (ByteArray.ext (Array.toList_inj.1 h))
                go_wp2_with fail
                go_round
                case rel => exact ⟨j + 1, false, by omega, by go_num, rfl, HT.out, HBz2.out⟩
                case measure => simp [intOf]; omega
          · obtain rfl : j = L.length := by omega
            have qj : ¬ (L.length : Int) < (L.length : Int) := by omega
            have hs3z := hBz.out.size
            have bz := below_trans' HB3.out (⟨hBz.out.os, hBz.out.tape, hBz.out.output, hBz.out.size, hBz.out.block⟩ : Below w3.heap.size w3 wz)
            have HBZ := Lib.hid bz
            have HBW : Hid (Below w.heap.size w wz) := below_trans' hB.out bz
            have rBz := r.out.below bz
            clear bz
            cases th with
            | true =>
              go_wp2_with fail
              go_round
              case rel => exact ⟨i + 1, _, L, by omega, by go_num, rBz, HKK.out.below HBZ.out, by omega, HBW.out, by have := HBZ.out.size; omega, hND.out, hOK.out⟩
              case measure => simp [intOf]; omega
            | false =>
              have hnew : nm.data.toList ∉ L.map nmL := by
                have h1 := hth.out
                rw [List.take_length, eq_comm, decide_eq_false_iff_not] at h1
                exact h1
              have hwA : wA.drew.heap.size = wA.heap.size := rfl
              obtain ⟨v', w5, hrun, hK5, hg5⟩ := app38 (HKK.out.below HBZ.out) (nm, t) _ (blks wA.drew.heap.size w2.heap.size) (fun k hk => ⟨by have := hk.2; omega, by have := hk.1; omega⟩) ⟨_, _, _, _, _, _, rfl, HV3.out.below hBz.out (fun k hk => by have := hk.2; omega)⟩ (fun z hz hc => by have h1 := (HKK.out.block z hz).2; have h2 := hc.1; omega) (by omega) (by omega) 22
              obtain ⟨K5, d5, rfl, hd51, hd52, hK55⟩ := hK5.shape
              have kB := rBz.cell 0 _ rfl
              have rx := R3.out.below hBz.out
              have x0 := rx.cell 0 _ rfl
              have x1 := rx.cell 1 _ rfl
              have x2 := rx.cell 2 _ rfl
              have x3 := rx.cell 3 _ rfl
              have x4 := rx.cell 4 _ rfl
              have x5 := rx.cell 5 _ rfl
              have x6 := rx.cell 6 _ rfl
              have hob : ∀ z, (Value.slice Kv L.length dv).ownBlock = some z → w.heap.size + 1 ≤ z := fun z hz => (HKK.out.block z hz).1
              have rB5 := (rBz.alloc (.cells (#[.string nm, .int .i64 t.kind, .bool t.neg, .slice A3 a3 c3, .int .u64 (t.bits : Int), .string t.text, .slice K3 m3 d3]) 38)).grownO hg5 (fun z hz => by have := hob z hz; omega)
              have kB5 := rB5.cell 0 _ rfl
              have fB5 := rB5.free 0
              have HB5 : Hid (Below w.heap.size w w5) := below_own (below_alloc' HBW.out (.cells (#[.string nm, .int .i64 t.kind, .bool t.neg, .slice A3 a3 c3, .int .u64 (t.bits : Int), .string t.text, .slice K3 m3 d3]) 38)) hg5 (fun z hz => by have := hob z hz; omega)
              have hs5 := hg5.size
              rw [alloc_size] at hs5
              have hs5' : w.heap.size + 1 ≤ w5.heap.size := by omega
              have HRUN := Lib.hid hrun
              have HK5 := Lib.hid hK5
              have RB5 := Lib.hid rB5
              have HND5 : Hid (((L ++ [(nm, t)]).map nmL).Nodup) := by
                show List.Nodup _
                rw [List.map_append, List.nodup_append]
                refine ⟨hND.out, by simp, fun a ha b hb e => ?_⟩
                rw [List.map_singleton, List.mem_singleton] at hb
                subst e hb
                exact hnew ha
              have HOK5 : Hid (∀ x ∈ L ++ [(nm, t)], GoodT x.2 ∧ NmOk x.1) := fun x hx => by
                rcases List.mem_append.1 hx with h | h
                · exact hOK.out x h
                · rw [List.mem_singleton.1 h]; exact ⟨HGT.out, HNM.out⟩
              clear hrun hK5 rB5 rx rBz hs5 hg5 hob hnew
              go_wp2_with (at_builtin; go_loud (refine wpl_append rfl (.tmp 43) (.tmp 45) 22 rfl _ _ _ _ rfl rfl HRUN.out ?_))
              have hgB := grown_set (grown_refl w5 (some w.heap.size)) 0 (.slice K5 (L.length + 1) d5)
              go_round
              case rel => exact ⟨i + 1, _, L ++ [(nm, t)], by omega, by go_num, RB5.out.set 0 _ _ rfl, by rw [List.length_append]; exact HK5.out.grown hgB (by omega) (by omega), by rw [List.length_append]; show L.length + 1 ≤ i + 1; omega, below_grown' HB5.out hgB (Nat.le_refl _), Nat.le_trans hs5' hgB.size, HND5.out, HOK5.out⟩
              case measure => simp [intOf]; omega
    · obtain rfl : i = q := by omega
      have q1 : ¬ (i : Int) < (i : Int) := by omega
      have hLs : (Hid (KinN (w.heap.size + 1) (fun k => w.heap.size + 1 ≤ k) wo v L.length L)) := hK
      obtain ⟨Kv, dv, rfl, hdv1, hdv2, hKv⟩ := hK.shape
      have lB := r.out.lt
      rcases hKv with rfl | ⟨g, rfl, hown⟩
      · have hL0 : L = [] ∧ dv = 0 := by
          obtain ⟨css, ho, _⟩ := hK.out
          rcases ho.2 with ⟨e, e0⟩ | ⟨g', cap, cur, e, _⟩
          · have h1 : dv = 0 := by
              simp only [Value.slice.injEq] at e
              exact e.2.2
            exact ⟨List.eq_nil_of_length_eq_zero e0, h1⟩
          · cases e
        obtain ⟨rfl, rfl⟩ := hL0
        have H9 := Lib.hid (c9nil w.heap.size wo)
        have k0 := r.out.cell 0 _ rfl
        clear hK hdv1 hdv2 hLi
        rw [List.length_nil] at k0
        go_wp2_with fail
        refine H9.out.mono ?_
        rintro e w9 ⟨rfl, hB9⟩
        have k9 := below_cell hB9 k0
        have HB9 := Lib.hid hB9
        clear hB9 H9 k0
        go_wp2_with fail
        go_ret
        exact ⟨none, 0, 0, [], rfl, by omega, Nat.le_refl _, ⟨rfl, .inl rfl⟩, (by intro x hx; cases hx), by simp, by simp, below_trans' hB.out HB9.out⟩
      · obtain ⟨d, hd, hH, hLd, hgood⟩ := kin_n7 hLs.out
        have hgb := hLs.out.block g hown
        have k0 := r.out.cell 0 _ rfl
        have H9 : Hid (Calls Tryz.prog 9 #[.iface 22 (.slice (some ⟨g, 0, none⟩) L.length dv), .func (.func 10) #[] #[.pointer (some ⟨w.heap.size, 0, none⟩)]] wo fun e w' => e = .returned (.tuple #[]) ∧ SortP g d wo w') := by
          have := c9 w.heap.size g dv d wo (by omega) (by rw [hd]; exact k0) hH hgb.2 (by omega)
          rw [hd] at this
          exact this
        have HH := Lib.hid hH
        have HLD := Lib.hid hLd
        have HG := Lib.hid hgood
        have HDD := Lib.hid hd
        clear hK hH hLd hgood hd
        go_wp2_with fail
        refine H9.out.mono ?_
        rintro e w9 ⟨rfl, hs9⟩
        obtain ⟨hgb1, hgb2⟩ := hgb
        have hszg : wo.heap.size ≤ w9.heap.size := by
          obtain ⟨d', n', os', _, _, e9⟩ := hs9
          rw [e9]
          exact (grownBy_sortK (w := wo) (g := g) (n := n') (os := os') d').size
        obtain ⟨L', hpm, hso, hNm, hgr⟩ := sort_nm HH.out hgb2 HG.out hs9 (blks w.heap.size w9.heap.size) ⟨by omega, by omega⟩ (fun k h1 h2 => ⟨by omega, by omega⟩)
        rw [← HLD.out] at hpm
        rw [HDD.out] at hNm
        have k9 := (r.out.grown hgr (by omega)).cell 0 _ rfl
        have HB9 := Lib.hid (below_grown' hB.out hgr (by omega))
        have HN := Lib.hid hNm
        have HPM := Lib.hid hpm
        have HSO := Lib.hid hso
        clear hs9 hpm hso hNm hgr H9 k0
        go_wp2_with fail
        go_ret
        exact ⟨_, L.length, dv, L', rfl, by omega, hdv1, HN.out, fun x hx => hOK.out x (HPM.out.mem_iff.1 hx), ((HPM.out.map nmL).nodup_iff).2 hND.out, HSO.out, HB9.out⟩
end Go.Proofs.YtpfihjkhgfoijaaGreatDoor
namespace Go.Proofs.YtpfihjkhgfoijaaGreatDoor
open Go.RowKit

set_option maxHeartbeats 4000000 in
theorem c3 (T : Lib.PrintTabs) (name : ByteArray) (A : Option Addr) (n c : Nat) (w : World) (hs : name.size ≤ 9223372036854775806) (hn : n ≤ c) (hc : c ≤ 140737488355328) (hI : NIn w A n)
    (h9 : w.cell? ⟨9, 0, none⟩ = some (.int .i64 40)) (h8 : w.cell? ⟨8, 0, none⟩ = some (.int .i64 10)) (hT : Lib.PrintTabsAt 3 4 5 6 T w) (hU : Lib.Utf8Tabs 1 2 w) :
    Calls Tryz.prog 3 #[.string name, .slice A n c] w fun e w' => e = .returned (.bool true) ∧ Below w.heap.size w w' := by
  by_cases hbig : 2147483647 < name.size
  · have q1 : (2147483647 : Int) < (name.size : Int) := by omega
    go_enter Tryz.func3, Tryz.ntmps3
    go_wp2_with fail
    go_ret
    exact ⟨rfl, Below.refl _ _⟩
  · by_cases hbig2 : 2147483647 < n
    · have q1 : ¬ (2147483647 : Int) < (name.size : Int) := by omega
      have q2 : (2147483647 : Int) < (n : Int) := by omega
      go_enter Tryz.func3, Tryz.ntmps3
      go_wp2_with fail
      go_ret
      exact ⟨rfl, Below.refl _ _⟩
    · have q1 : ¬ (2147483647 : Int) < (name.size : Int) := by omega
      have q2 : ¬ (2147483647 : Int) < (n : Int) := by omega
      have H4 := Lib.hid (c4 name hs w)
      have H5 := Lib.hid (c5 A n c w hn hc hI)
      have H9 := Lib.hid h9
      have H8 := Lib.hid h8
      have HT := Lib.hid hT
      have HU := Lib.hid hU
      clear hI h9 h8 hT hU
      go_enter Tryz.func3, Tryz.ntmps3
      go_wp2_with fail
      refine H4.out.mono ?_
      rintro e w1 ⟨nm, rfl, hnm, rfl⟩
      clear H4
      go_wp2_with fail
      refine H5.out.mono ?_
      rintro e w2 ⟨K, m, d, L, rfl, hm5, hmd, hN, hok, hnd, hso, hB2⟩
      have hnm8 : nm.size ≤ 8 := hnm.1
      obtain ⟨q, hq⟩ : ∃ q, q = strOfNums (Lib.quoteZ T nm) := ⟨_, rfl⟩
      have h6 := c6 (blks w.heap.size w2.heap.size) T nm K m d L w2 hN (fun k hk => hk.2) hm5 hmd hok hnd hso (below_cell hB2 H9.out) (below_cell hB2 H8.out) (by omega) (printTabs_below HT.out hB2) (Utf8Tabs_below HU.out hB2)
      rw [← hq] at h6
      have H6 := Lib.hid h6
      have HN := Lib.hid hN
      have HOK := Lib.hid hok
      have HQ := Lib.hid hq
      have HB2 := Lib.hid hB2
      clear h6 hN hok hnd hso hq H5 hB2 hnm
      go_wp2_with fail
      refine H6.out.mono ?_
      rintro e w3 ⟨gn, cap, Km, dm, rfl, hc1, hd1, hgn, hNC, hNm, hB3⟩
      obtain ⟨w4, hw4, b4, r4⟩ : ∃ w4, w3.alloc (.cells #[.string (mtx q), .string ⟨#[109, 111, 100, 117, 108, 101]⟩, .slice (some ⟨gn, 0, none⟩) m cap, .slice Km m dm, .int .i64 0, .bool true, .bool true] 27) = w4 ∧ Below w3.heap.size w3 w4 ∧ RowB w4 w3.heap.size #[.string (mtx q), .string ⟨#[109, 111, 100, 117, 108, 101]⟩, .slice (some ⟨gn, 0, none⟩) m cap, .slice Km m dm, .int .i64 0, .bool true, .bool true] 27 := ⟨_, rfl, below_alloc' (Below.refl _ _) _, RowB.new w3 _ _⟩
      have b24 := below_trans' hB3 b4
      have b34 := below_trans' HB2.out b24
      have H7 := Lib.hid (c7 (blks w2.heap.size w3.heap.size) (blks w.heap.size w2.heap.size) T nm gn m cap Km K dm d L w4 (hNm.below (fun k hk => hk.2) b4) (HN.out.below (fun k hk => hk.2) b24) (fun k hk => Nat.lt_of_lt_of_le hk.2 b4.size) (fun k hk => Nat.lt_of_lt_of_le hk.2 b24.size) hm5 HOK.out (fun i hi => below_cell b4 (hNC i hi)) (by omega) (printTabs_below HT.out b34) (Utf8Tabs_below HU.out b34) q HQ.out)
      have k0 := r4.cell 0 _ rfl
      have k1 := r4.cell 1 _ rfl
      have k2 := r4.cell 2 _ rfl
      have k3 := r4.cell 3 _ rfl
      have k4 := r4.cell 4 _ rfl
      have k5 := r4.cell 5 _ rfl
      have k6 := r4.cell 6 _ rfl
      have HB34 := Lib.hid b34
      clear hNC hNm hB3 b4 r4 b24 b34 H6
      go_wp2_with fail
      clear hw4
      refine H7.out.mono ?_
      rintro e w5 ⟨rfl, hB5⟩
      have HB5 := Lib.hid hB5
      clear hB5 H7
      go_wp2_with fail
      go_ret
      exact ⟨rfl, below_trans' HB34.out HB5.out⟩
end Go.Proofs.YtpfihjkhgfoijaaGreatDoor
namespace Go.Proofs.YtpfihjkhgfoijaaGreatDoor
open Go.RowKit

theorem co36 : Tryz.prog.cellsOf 36 = 6 := by kernel_rfl
theorem co38 : Tryz.prog.cellsOf 38 = 7 := by kernel_rfl
theorem co5 : Tryz.prog.cellsOf 5 = 1 := by kernel_rfl
theorem co32 : Tryz.prog.cellsOf 32 = 1 := by kernel_rfl
theorem co33 : Tryz.prog.cellsOf 33 = 1 := by kernel_rfl
theorem co34 : Tryz.prog.cellsOf 34 = 1 := by kernel_rfl
theorem co3 : Tryz.prog.cellsOf 3 = 1 := by kernel_rfl
theorem co4 : Tryz.prog.cellsOf 4 = 1 := by kernel_rfl
theorem co9 : Tryz.prog.cellsOf 9 = 1 := by kernel_rfl
theorem by36 : Tryz.prog.bytesOf 36 = 88 := by kernel_rfl
theorem by38 : Tryz.prog.bytesOf 38 = 104 := by kernel_rfl
theorem by5 : Tryz.prog.bytesOf 5 = 1 := by kernel_rfl
theorem reach_eq : reachBytes = 140737488351232 := by decide
section
variable {H : Type} {enc : TypeId × Value → H} {w : World} {base fuel : Nat}
/-- all that is read of it is within the form's reach -/
def Fits (t : TypeId) (d : DataW H) : Prop := ∀ k ∈ d.weights Tryz.prog t, k ≤ reachBytes
theorem weights_mem_all {ds : List (DataW H)} {e : TypeId} {d : DataW H} (hd : d ∈ ds) : ∀ n ∈ d.weights Tryz.prog e, n ∈ DataW.weightsAll Tryz.prog e ds := by
  induction ds with
  | nil => cases hd
  | cons a ds ih =>
    intro n hn
    simp only [DataW.weightsAll, List.mem_append]
    rcases List.mem_cons.1 hd with rfl | h
    · exact .inl hn
    · exact .inr (ih h n hn)
theorem Fits.slice {t e : TypeId} (hu : Tryz.prog.underlying t = some (.slice e)) {el sp : List (DataW H)} (h : Fits t (.slice el sp)) : (el.length + sp.length) * Tryz.prog.bytesOf e ≤ reachBytes ∧ ∀ d ∈ el, Fits e d := by
  unfold Fits at h
  simp only [DataW.weights, hu] at h
  exact ⟨h _ List.mem_cons_self, fun d hd k hk => h k (List.mem_cons_of_mem _ (List.mem_append.2 (.inl (weights_mem_all hd k hk))))⟩
theorem Fits.part {t : TypeId} {fs : Array Field} (hu : Tryz.prog.underlying t = some (.struct fs)) {parts : List (DataW H)} (h : Fits t (.agg parts)) {j : Nat} {f : Field} {d : DataW H} (hf : fs[j]? = some f) (hd : parts[j]? = some d) : Fits f.type d := by
  unfold Fits at h ⊢
  simp only [DataW.weights, hu] at h
  intro k hk
  exact h k (DataW.weights_mem_each (by rw [List.getElem?_map, Array.getElem?_toList, hf]; rfl) hd k hk)
theorem Fits.str {t : TypeId} {l : List UInt8} (h : Fits t (.lit (.string l) : DataW H)) : l.length ≤ reachBytes := h _ (by simp [DataW.weights])
theorem open_bytes {cs : List Value} {x : DataW H × List MemPlace} (h : DataW.trod enc Tryz.prog w base (fun _ => true) true fuel 32 cs = some x) (hf : Fits 32 x.1) : ∃ A n c bs, cs = [.slice A n c] ∧ ByteA w A n c bs ∧ c ≤ 140737488355328 := by
  rcases DataW.trod_slice Tryz.underlying32 h with ⟨rfl, rfl⟩ | ⟨a, len, cap, el, rs, m, rfl, rfl, rfl, hb, hlc, hcm, hel, hcell, hsp, _⟩
  · exact ⟨none, 0, 0, [], rfl, ⟨rfl, Nat.le_refl _, by simp, .inl ⟨rfl, rfl, rfl⟩⟩, by omega⟩
  · have h1 := (Fits.slice Tryz.underlying32 hf).1
    rw [by5, reach_eq, List.length_map, List.length_map, (hsp rfl).1, hel] at h1
    have key : ∀ i, i < len → ∃ z : Nat, z < 256 ∧ w.cell? (a.add i) = some (.int .u8 (z : Int)) := fun i hi => by
      have h2 := hcell i hi
      rw [co5, Nat.mul_one, List.getElem?_eq_getElem (by omega)] at h2
      obtain ⟨ce, hce, hte⟩ := Option.bind_eq_some_iff.1 h2
      obtain ⟨z, rfl, _, hw⟩ := DataW.trod_int Tryz.underlying5 hte
      obtain ⟨_, _, hcc⟩ := World.cells?_some hce
      have h3 := hcc 0 (by omega)
      rw [show (a.add i).add 0 = a.add i from by simp [Addr.add]] at h3
      simp [Lit.wf, IntKind.min, IntKind.max, IntKind.signed, IntKind.bits] at hw
      refine ⟨z.toNat, by omega, ?_⟩
      rw [h3, show ((z.toNat : Nat) : Int) = z from by omega]; rfl
    have key' : ∀ i, ∃ z : Nat, i < len → z < 256 ∧ w.cell? (a.add i) = some (.int .u8 (z : Int)) := fun i => by
      by_cases hi : i < len
      · obtain ⟨z, hz⟩ := key i hi; exact ⟨z, fun _ => hz⟩
      · exact ⟨0, fun h => absurd h hi⟩
    obtain ⟨f, hf'⟩ := Classical.skolem.1 key'
    refine ⟨some a, len, cap, (List.range len).map f, rfl, ⟨by simp, hlc, ?_, .inr ⟨a, rfl, fun i hi => ?_⟩⟩, by omega⟩
    · intro b hb
      obtain ⟨i, hi, rfl⟩ := List.mem_map.1 hb
      exact (hf' i (List.mem_range.1 hi)).1
    · rw [(hf' i hi).2, List.getD_eq_getElem?_getD, List.getElem?_map, List.getElem?_range hi]; rfl
theorem open_iv (n : Nat) : ∀ {fuel : Nat} {cs : List Value} {x : DataW H × List MemPlace}, DataW.trod enc Tryz.prog w base (fun _ => true) true fuel 36 cs = some x → Fits 36 x.1 → IV n w cs.toArray := by
  induction n with
  | zero => 
    intro fuel cs x h hf
    obtain ⟨xs, m, rfl, rfl, hl, hxl, hfd⟩ := DataW.trod_struct Tryz.underlying36 h
    rw [co36] at hl
    match cs, hl, hfd with
    | [c0, c1, c2, c3, c4, c5], _, hfd =>
      match xs, hxl, hfd, hf with
      | [x0, x1, x2, x3, x4, x5], _, hfd, hf =>
        have t0 : DataW.trod enc Tryz.prog w base (fun _ => true) true m 3 (([c0, c1, c2, c3, c4, c5].drop 0).take (Tryz.prog.cellsOf 3)) = some x0 := hfd 0 _ rfl
        rw [co3] at t0
        have t1 : DataW.trod enc Tryz.prog w base (fun _ => true) true m 4 (([c0, c1, c2, c3, c4, c5].drop 1).take (Tryz.prog.cellsOf 4)) = some x1 := hfd 1 _ rfl
        rw [co4] at t1
        have t2 : DataW.trod enc Tryz.prog w base (fun _ => true) true m 32 (([c0, c1, c2, c3, c4, c5].drop 2).take (Tryz.prog.cellsOf 32)) = some x2 := hfd 2 _ rfl
        rw [co32] at t2
        have t3 : DataW.trod enc Tryz.prog w base (fun _ => true) true m 33 (([c0, c1, c2, c3, c4, c5].drop 3).take (Tryz.prog.cellsOf 33)) = some x3 := hfd 3 _ rfl
        rw [co33] at t3
        have t4 : DataW.trod enc Tryz.prog w base (fun _ => true) true m 9 (([c0, c1, c2, c3, c4, c5].drop 4).take (Tryz.prog.cellsOf 9)) = some x4 := hfd 4 _ rfl
        rw [co9] at t4
        have t5 : DataW.trod enc Tryz.prog w base (fun _ => true) true m 34 (([c0, c1, c2, c3, c4, c5].drop 5).take (Tryz.prog.cellsOf 34)) = some x5 := hfd 5 _ rfl
        rw [co34] at t5
        have F2 := Fits.part Tryz.underlying36 hf (j := 2) rfl rfl
        have F4 := Fits.part Tryz.underlying36 hf (j := 4) rfl rfl
        have F5 := Fits.part Tryz.underlying36 hf (j := 5) rfl rfl
        obtain ⟨k, e0, -, -⟩ := DataW.trod_int Tryz.underlying3 t0
        obtain ⟨ng, e1, -⟩ := DataW.trod_bool Tryz.underlying4 t1
        obtain ⟨A, a, c, bs, e2, hB, hc⟩ := open_bytes t2 F2
        obtain ⟨u, e3, -, hu⟩ := DataW.trod_int Tryz.underlying33 t3
        obtain ⟨t, e4, hx4, -⟩ := DataW.trod_string Tryz.underlying9 t4
        rw [hx4] at F4
        have h4 := Fits.str F4
        rw [reach_eq, Array.length_toList] at h4
        simp [Lit.wf, IntKind.min, IntKind.max, IntKind.signed, IntKind.bits] at hu
        obtain rfl : c0 = _ := (List.cons.inj e0).1
        obtain rfl : c1 = _ := (List.cons.inj e1).1
        obtain rfl : c2 = _ := (List.cons.inj e2).1
        obtain rfl : c3 = _ := (List.cons.inj e3).1
        obtain rfl : c4 = _ := (List.cons.inj e4).1
        obtain ⟨u, rfl⟩ : ∃ v : Nat, u = (v : Int) := ⟨u.toNat, by omega⟩
        rcases DataW.trod_slice Tryz.underlying34 t5 with ⟨e5, -⟩ | ⟨b, len, cap, el, rs, m', -, e5, hx5, -, hlc, hcm, hel, hcell, hsp, -⟩
        · obtain rfl : c5 = _ := (List.cons.inj e5).1
          exact ⟨k, ng, A, a, c, u, t, none, 0, 0, bs, rfl, by omega, hB, hc, by have : t.size ≤ 140737488351232 := h4; omega, Nat.le_refl _, by omega, trivial⟩
        · obtain rfl : c5 = _ := (List.cons.inj e5).1
          rw [hx5] at F5
          obtain ⟨h5, hk5⟩ := Fits.slice Tryz.underlying34 F5
          rw [by36, reach_eq, List.length_map, List.length_map, (hsp rfl).1, hel] at h5
          exact ⟨k, ng, A, a, c, u, t, some b, len, cap, bs, rfl, by omega, hB, hc, by have : t.size ≤ 140737488351232 := h4; omega, hlc, by omega, trivial⟩
  | succ n ih => 
    intro fuel cs x h hf
    obtain ⟨xs, m, rfl, rfl, hl, hxl, hfd⟩ := DataW.trod_struct Tryz.underlying36 h
    rw [co36] at hl
    match cs, hl, hfd with
    | [c0, c1, c2, c3, c4, c5], _, hfd =>
      match xs, hxl, hfd, hf with
      | [x0, x1, x2, x3, x4, x5], _, hfd, hf =>
        have t0 : DataW.trod enc Tryz.prog w base (fun _ => true) true m 3 (([c0, c1, c2, c3, c4, c5].drop 0).take (Tryz.prog.cellsOf 3)) = some x0 := hfd 0 _ rfl
        rw [co3] at t0
        have t1 : DataW.trod enc Tryz.prog w base (fun _ => true) true m 4 (([c0, c1, c2, c3, c4, c5].drop 1).take (Tryz.prog.cellsOf 4)) = some x1 := hfd 1 _ rfl
        rw [co4] at t1
        have t2 : DataW.trod enc Tryz.prog w base (fun _ => true) true m 32 (([c0, c1, c2, c3, c4, c5].drop 2).take (Tryz.prog.cellsOf 32)) = some x2 := hfd 2 _ rfl
        rw [co32] at t2
        have t3 : DataW.trod enc Tryz.prog w base (fun _ => true) true m 33 (([c0, c1, c2, c3, c4, c5].drop 3).take (Tryz.prog.cellsOf 33)) = some x3 := hfd 3 _ rfl
        rw [co33] at t3
        have t4 : DataW.trod enc Tryz.prog w base (fun _ => true) true m 9 (([c0, c1, c2, c3, c4, c5].drop 4).take (Tryz.prog.cellsOf 9)) = some x4 := hfd 4 _ rfl
        rw [co9] at t4
        have t5 : DataW.trod enc Tryz.prog w base (fun _ => true) true m 34 (([c0, c1, c2, c3, c4, c5].drop 5).take (Tryz.prog.cellsOf 34)) = some x5 := hfd 5 _ rfl
        rw [co34] at t5
        have F2 := Fits.part Tryz.underlying36 hf (j := 2) rfl rfl
        have F4 := Fits.part Tryz.underlying36 hf (j := 4) rfl rfl
        have F5 := Fits.part Tryz.underlying36 hf (j := 5) rfl rfl
        obtain ⟨k, e0, -, -⟩ := DataW.trod_int Tryz.underlying3 t0
        obtain ⟨ng, e1, -⟩ := DataW.trod_bool Tryz.underlying4 t1
        obtain ⟨A, a, c, bs, e2, hB, hc⟩ := open_bytes t2 F2
        obtain ⟨u, e3, -, hu⟩ := DataW.trod_int Tryz.underlying33 t3
        obtain ⟨t, e4, hx4, -⟩ := DataW.trod_string Tryz.underlying9 t4
        rw [hx4] at F4
        have h4 := Fits.str F4
        rw [reach_eq, Array.length_toList] at h4
        simp [Lit.wf, IntKind.min, IntKind.max, IntKind.signed, IntKind.bits] at hu
        obtain rfl : c0 = _ := (List.cons.inj e0).1
        obtain rfl : c1 = _ := (List.cons.inj e1).1
        obtain rfl : c2 = _ := (List.cons.inj e2).1
        obtain rfl : c3 = _ := (List.cons.inj e3).1
        obtain rfl : c4 = _ := (List.cons.inj e4).1
        obtain ⟨u, rfl⟩ : ∃ v : Nat, u = (v : Int) := ⟨u.toNat, by omega⟩
        rcases DataW.trod_slice Tryz.underlying34 t5 with ⟨e5, -⟩ | ⟨b, len, cap, el, rs, m', -, e5, hx5, -, hlc, hcm, hel, hcell, hsp, -⟩
        · obtain rfl : c5 = _ := (List.cons.inj e5).1
          exact ⟨k, ng, A, a, c, u, t, none, 0, 0, bs, rfl, by omega, hB, hc, by have : t.size ≤ 140737488351232 := h4; omega, Nat.le_refl _, by omega, .inl rfl⟩
        · obtain rfl : c5 = _ := (List.cons.inj e5).1
          rw [hx5] at F5
          obtain ⟨h5, hk5⟩ := Fits.slice Tryz.underlying34 F5
          rw [by36, reach_eq, List.length_map, List.length_map, (hsp rfl).1, hel] at h5
          exact ⟨k, ng, A, a, c, u, t, some b, len, cap, bs, rfl, by omega, hB, hc, by have : t.size ≤ 140737488351232 := h4; omega, hlc, by omega, .inr ⟨b, rfl, fun i hi => by
            have h2 := hcell i hi
            rw [co36, List.getElem?_eq_getElem (by omega)] at h2
            obtain ⟨ce, hce, hte⟩ := Option.bind_eq_some_iff.1 h2
            obtain ⟨_, hl6, hcc⟩ := World.cells?_some hce
            refine ⟨ce.toArray, fun j hj => ?_, ih hte (hk5 _ (List.mem_map.2 ⟨_, List.getElem_mem _, rfl⟩))⟩
            have h3 := hcc j hj
            rw [add_add'] at h3
            rw [h3]; simp⟩⟩
end
end Go.Proofs.YtpfihjkhgfoijaaGreatDoor

/- Append of two trees at once; keys hold no dicts; Contract of spec.Makes: dicts and sets; spec.Makes and spec.Same on trees of any number of levels. -/
import Derived.Test.YtpfihjkhgfoijaaGreatDoorQ21
import Derived.Test.YtpfihjkhgfoijaaGreatDoorQ13
import Derived.Test.YtpfihjkhgfoijaaGreatDoorQ32
set_option linter.unusedVariables false
set_option linter.unusedSimpArgs false
set_option maxRecDepth 100000
namespace Go.Proofs.YtpfihjkhgfoijaaGreatDoor
open Go.RowKit

theorem key_KK {n : Nat} {t : VT} (hok : VT.ok n t) (hk : VT.key n t) : KK n t := by
  induction n generalizing t with
  | zero => trivial
  | succ n ih =>
    unfold VT.key at hk
    rcases hk with ⟨h0, h6⟩ | ⟨h7, hkid⟩
    · exact KK.low (VT.ok_lt hok h6).2.1 h6
    · obtain ⟨_, _, n', e, hko⟩ := VT.ok_ge hok (by omega)
      cases e
      exact ⟨fun e => by omega, fun e => by omega, fun k hk => ih (hko k hk) (hkid k hk)⟩
/-- append of two trees, whose cells are the block made last -/
theorem app36b {R : BS} {n base m : Nat} {w : World} {v : Value} {ts : List VT} (h : Kin n base R w v m ts) (t1 t2 : VT) (c1 c2 : Array Value) (S1 S2 : BS) (hS1 : ∀ k, S1 k → k < w.heap.size ∧ R k) (hS2 : ∀ k, S2 k → k < w.heap.size ∧ R k) (hI1 : VC n S1 w t1 c1) (hI2 : VC n S2 w t2 c2)
    (hg1 : ∀ g, v.ownBlock = some g → ¬ S1 g) (hg2 : ∀ g, v.ownBlock = some g → ¬ S2 g) (hm : m ≤ 1000) (hbase : base ≤ w.heap.size) (ty : TypeId) (cs : Array Value) (hcs : cs = c1 ++ c2) :
    ∃ v' w', (Builtin.append_ #[34, 34] ty #[v, .slice (some ⟨w.heap.size, 0, none⟩) 2 2]).run Tryz.prog (w.alloc (.cells cs 36)) = .ok v' w' ∧ Kin n base R w' v' (m + 2) (ts ++ [t1, t2]) ∧ (w.alloc (.cells cs 36)).grownBy w' v.ownBlock := by
  have hbl := h.block
  obtain ⟨css, ho, h1, h2, h3, hk⟩ := h.out
  have h61 := hI1.size
  have h62 := hI2.size
  have hone : ∀ u ∈ cs.toList, u.oneCell' = true := by
    intro u hu
    rw [hcs, Array.toList_append] at hu
    rcases List.mem_append.1 hu with hu | hu
    · exact hI1.one u hu
    · exact hI2.one u hu
  have h12 : cs.toList.length = 12 := by rw [hcs]; simp [h61, h62]
  have hb1 : Below w.heap.size w (w.alloc (.cells cs 36)) := below_alloc' (Below.refl _ _) _
  obtain ⟨i, hi', hz0, hz1, hz2⟩ := info_parts info36
  obtain ⟨v', w', hr, hown, hgr, _, hob⟩ := run_append_own_at (P := Tryz.prog) (w.alloc (.cells cs 36)) base 34 ty 36 i (.agg zero36) 6 88 Tryz.underlying34 hi' hz0 hz1 hz2 rfl (by omega) v m (flat6 css)
    (ho.alloc _) ⟨w.heap.size, 0, none⟩ 2 2 cs.toList (by simpa using h12) (fun j u hu => by rw [add_at]; exact (RowB.new w cs 36).cell j u (by simpa using hu)) hone (by simp only [maxLen]; omega) (by omega)
    (by rw [alloc_size]; omega)
  have hfl : flat6 (css ++ [c1, c2]) = flat6 css ++ cs.toList := by rw [hcs]; simp [flat6]
  refine ⟨v', w', hr, ⟨css ++ [c1, c2], by rw [hfl]; exact hown, by simp [h1], by simp [h2], ?_, fun i hi => ?_⟩, hgr⟩
  · intro c hc
    rcases List.mem_append.1 hc with h | h
    · exact h3 c h
    · simp at h
      rcases h with rfl | rfl
      · exact h61
      · exact h62
  · have hown' : ∀ g, v'.ownBlock = some g → v.ownBlock = some g ∨ g = w.heap.size + 1 := by
      intro g hg'
      rcases hob with e | e
      · exact .inl (by rw [← e]; exact hg')
      · rw [e, alloc_size] at hg'; cases hg'; exact .inr rfl
    have hszw : w.heap.size ≤ w'.heap.size := Nat.le_trans (by rw [alloc_size]; omega) hgr.size
    have new : ∀ (t : VT) (c : Array Value) (S : BS), (∀ k, S k → k < w.heap.size ∧ R k) → VC n S w t c → (∀ g, v.ownBlock = some g → ¬ S g) →
        ∃ S : BS, (∀ g, v'.ownBlock = some g → ¬ S g) ∧ (∀ k, S k → k < w'.heap.size ∧ R k) ∧ VC n S w' t c := by
      intro t c S hS hI hg
      have hI' := hI.below hb1 fun k hk => (hS k hk).1
      have hsz : ∀ k, S k → k < (w.alloc (.cells cs 36)).heap.size := fun k hk => by rw [alloc_size]; have := (hS k hk).1; omega
      refine ⟨S, fun g hg' => ?_, fun k hk => ⟨Nat.lt_of_lt_of_le (hS k hk).1 hszw, (hS k hk).2⟩, ?_⟩
      · rcases hown' g hg' with e | e
        · exact hg g e
        · intro hc; have := (hS g hc).1; omega
      · cases hv : v.ownBlock with
        | none => rw [hv] at hgr; exact hI'.grownN hgr hsz
        | some g => rw [hv] at hgr; exact hI'.grown hgr hsz (hg g hv)
    by_cases him : i < m
    · obtain ⟨S', k2, k3, k4⟩ := hk i him
      have e1 : (ts ++ [t1, t2]).getD i default = ts.getD i default := by rw [List.getD_eq_getElem?_getD, List.getD_eq_getElem?_getD, List.getElem?_append_left (by omega)]
      have e2 : (css ++ [c1, c2]).getD i #[] = css.getD i #[] := by rw [List.getD_eq_getElem?_getD, List.getD_eq_getElem?_getD, List.getElem?_append_left (by omega)]
      rw [e1, e2]
      exact new _ _ S' k3 k4 k2
    · by_cases him1 : i = m
      · subst him1
        have e1 : (ts ++ [t1, t2]).getD i default = t1 := by rw [List.getD_eq_getElem?_getD, List.getElem?_append_right (by omega)]; simp [h2]
        have e2 : (css ++ [c1, c2]).getD i #[] = c1 := by rw [List.getD_eq_getElem?_getD, List.getElem?_append_right (by omega)]; simp [h1]
        rw [e1, e2]
        exact new _ _ S1 hS1 hI1 hg1
      · obtain rfl : i = m + 1 := by omega
        have e1 : (ts ++ [t1, t2]).getD (m + 1) default = t2 := by rw [List.getD_eq_getElem?_getD, List.getElem?_append_right (by omega), h2, show m + 1 - m = 1 from by omega]; rfl
        have e2 : (css ++ [c1, c2]).getD (m + 1) #[] = c2 := by rw [List.getD_eq_getElem?_getD, List.getElem?_append_right (by omega), h1, show m + 1 - m = 1 from by omega]; rfl
        rw [e1, e2]
        exact new _ _ S2 hS2 hI2 hg2
theorem add_pos (a : Addr) (j : Nat) (h : j ≠ 0) : a.add j = ⟨a.block, a.off + j, none⟩ := by unfold Addr.add; simp [h]
theorem cell_addr {w : World} {a : Addr} {v : Value} (h : w.cell? a = some v) : ∃ b o, a = ⟨b, o, none⟩ := by
  refine ⟨a.block, a.off, ?_⟩
  unfold World.cell? at h
  cases hb : w.heap[a.block]? with
  | none => simp [hb] at h
  | some o =>
    cases o with
    | cells c e f =>
      simp only [hb] at h
      cases hs : a.spot with
      | none => cases a; simp_all
      | some s => simp [hs] at h
    | _ => simp [hb] at h
theorem three36 (w : World) (ca cb cc : Array Value) : ∃ w1, ((w.alloc (.cells ca 36)).alloc (.cells cb 36)).alloc (.cells cc 36) = w1 ∧ Below w.heap.size w w1 ∧ RowB w1 w.heap.size ca 36 ∧ RowB w1 (w.heap.size + 1) cb 36 ∧ RowB w1 (w.heap.size + 1 + 1) cc 36 ∧ w1.heap.size = w.heap.size + 1 + 1 + 1 :=
  ⟨_, rfl, below_alloc' (below_alloc' (below_alloc' (Below.refl _ _) _) _) _, ((RowB.new w _ _).alloc _).alloc _, by
    have := RowB.new (w.alloc (.cells ca 36)) cb 36
    rw [alloc_size] at this; exact this.alloc _, by
    have := RowB.new ((w.alloc (.cells ca 36)).alloc (.cells cb 36)) cc 36
    rw [alloc_size, alloc_size] at this; exact this, by rw [alloc_size, alloc_size, alloc_size]⟩
theorem VC.kidsOf {n : Nat} {w : World} {N : Nat} {q : Int} {K : Option Addr} {m d : Nat} {ts : List VT} (h : KidC (VC n (blks N w.heap.size) w) (blks N w.heap.size) w K m ts) (hd : m ≤ d) : VC (n + 1) (blks N w.heap.size) w ⟨q, false, [], 0, ⟨#[]⟩, ts⟩ #[.int .i64 q, .bool false, .slice none 0 0, .int .u64 0, .string ⟨#[]⟩, .slice K m d] :=
  VC.ofHead ⟨none, 0, 0, K, m, d, rfl, ByteS.nil _ _, fun _ => ⟨rfl, rfl⟩, hd, h⟩
end Go.Proofs.YtpfihjkhgfoijaaGreatDoor
namespace Go.Proofs.YtpfihjkhgfoijaaGreatDoor
open Go.RowKit

set_option maxHeartbeats 4000000 in
theorem c18k8 (n : Nat) (ih : MakeC n) (w : World) (t : VT) (cs : Array Value) (S : BS) (hI : VC (n + 1) S w t cs) (hok : VT.ok (n + 1) t) (hkk : KK (n + 1) t) (hS : ∀ k, S k → k < w.heap.size) (hk : t.kind = 8) : Calls Tryz.prog 18 #[.agg cs] w (PostM (VT.mak (n + 1) t) w) := by
  obtain ⟨A, a, c, K, m, d, rfl, hkl, hd⟩ := hI.shape
  obtain ⟨_, hk16, n', e, hkids⟩ := VT.ok_ge hok (by omega)
  cases e
  have hev := (ok_even hok).2.2
  obtain ⟨w1, hw1, b1, r1⟩ : ∃ w1, w.alloc (.cells #[.int .i64 t.kind, .bool t.neg, .slice A a c, .int .u64 (t.bits : Int), .string t.text, .slice K m d] 36) = w1 ∧ Below w.heap.size w w1 ∧ RowB w1 w.heap.size #[.int .i64 t.kind, .bool t.neg, .slice A a c, .int .u64 (t.bits : Int), .string t.text, .slice K m d] 36 :=
    ⟨_, rfl, below_alloc' (Below.refl _ _) _, RowB.new w _ _⟩
  have e0 := r1.cell 0 _ rfl
  have e5 := r1.cell 5 _ rfl
  have hKC := Lib.hid hI.kids
  have HK := Lib.hid hkids
  have HKK := Lib.hid hkk
  clear hkk
  have HIH := Lib.hid ih
  have hm16 : m ≤ 16 := by omega
  have R1 := Lib.hid r1
  have KM : Hid (∀ i, i < m → t.kids.getD i default ∈ t.kids) := fun i hi => by
    rw [List.getD_eq_getElem?_getD, List.getElem?_eq_getElem (by rw [hkl]; exact hi)]; exact List.getElem_mem (by rw [hkl]; exact hi)
  have KL := Lib.hid hkl
  have HK67 := Lib.hid hk
  have HEV := Lib.hid hev
  have qev : ((m : Int) % 2 == 1) = false := by rw [beq_eq_false_iff_ne]; have := hev hk; omega
  rw [hk] at hw1 e0 R1 ⊢
  clear hI hok hkids ih r1 hkl hev hk
  go_enter Tryz.func18, Tryz.ntmps18
  go_wp2_with fail
  clear hw1 e0 e5
  go_loopw [3] (fun vi wr => ∃ (i : Nat), i ≤ m ∧ vi = .int .i64 (i : Int) ∧ Below w.heap.size w wr ∧ Hid (RowB wr w.heap.size #[.int .i64 8, .bool t.neg, .slice A a c, .int .u64 (t.bits : Int), .string t.text, .slice K m d] 36) ∧ (∀ j, j < i → VT.mak n (t.kids.getD j default))) (fun vi _ => m - (intOf vi).toNat)
  case atStart => exact ⟨0, by omega, rfl, b1, R1.out, by omega⟩
  case round =>
    obtain ⟨i, hi, rfl, hB, r1, hys⟩ := hrel
    have e0 := r1.out.cell 0 _ rfl
    have e5 := r1.out.cell 5 _ rfl
    by_cases hlt : i < m
    · obtain ⟨g, A2, a2, c2, K2, m2, d2, rfl, hSg, hVk, z0, z1, z2, z3, z4, z5⟩ := hKC.out.at hS i hlt hB
      have hkok := HK.out _ (KM.out i hlt)
      have hSr : ∀ k, S k → k < wr.heap.size := fun k hk => Nat.lt_of_lt_of_le (hS k hk) hB.size
      have HC := Lib.hid (HIH.out wr _ _ S hVk hkok (HKK.out.2.2 _ (KM.out i hlt)) hSr)
      generalize hkd : t.kids.getD i default = kid at *
      have HKD := Lib.hid hkd
      have q1 : (i : Int) < (m : Int) := by omega
      clear hVk hkok hkd
      go_wp2_with fail
      refine HC.out.mono ?_
      rintro e w2 ⟨r, rfl, hr, hB2⟩
      have b2 := below_trans' hB hB2
      have r2 := r1.out.below hB2
      have HR := Lib.hid hr
      clear hr
      cases r
      · go_wp2_with fail
        go_ret
        exact ⟨_, rfl, (fun h => Bool.noConfusion h), b2⟩
      · go_wp2_with fail
        go_roundw
        case rel =>
          refine ⟨i + 1, by omega, by go_num, b2, r2, fun j hj => ?_⟩
          by_cases hji : j < i
          · exact hys j hji
          · have : j = i := by omega
            subst this
            rw [HKD.out]; exact HR.out trivial
        case measure => simp [intOf]; omega
    · have him : i = m := by omega
      subst him
      have hall : Hid (∀ k ∈ t.kids, VT.mak n k) := fun k hk => by
        obtain ⟨j, hj, rfl⟩ := List.mem_iff_getElem.1 hk
        have := hys j (by have := KL.out; omega)
        rwa [List.getD_eq_getElem?_getD, List.getElem?_eq_getElem hj] at this
      clear hys
      go_wp2_with fail
      clear e0 e5
      go_loopw [5] (fun vi wr => ∃ (j : Nat), j ≤ i + 1 ∧ j % 2 = 0 ∧ vi = .int .i64 (j : Int) ∧ Below w.heap.size w wr ∧ Hid (RowB wr w.heap.size #[.int .i64 8, .bool t.neg, .slice A a c, .int .u64 (t.bits : Int), .string t.text, .slice K i d] 36) ∧ Hid (KeysT n 2 t.kids j)) (fun vi _ => i + 2 - (intOf vi).toNat)
      case atStart => exact ⟨0, by omega, rfl, rfl, hB, r1.out, fun j hj => by omega⟩
      case round =>
        clear hB r1
        obtain ⟨j, hj, hjs, rfl, hB, r1, hkt⟩ := hrel
        have e5 := r1.out.cell 5 _ rfl
        by_cases hlt : j < i
        · obtain ⟨g, A2, a2, c2, K2, m2, d2, rfl, hSg, hVk, z0, z1, z2, z3, z4, z5⟩ := hKC.out.at hS j hlt hB
          have hkok := HK.out _ (KM.out j hlt)
          have hSr : ∀ k, S k → k < wr.heap.size := fun k hk => Nat.lt_of_lt_of_le (hS k hk) hB.size
          have hSd : ∀ k, S k → k < wr.drew.heap.size := hSr
          have HC := Lib.hid (HashD_all n wr.drew _ _ S (hVk.below (below_drew1 wr) hSr) hkok hSd)
          have q1 : (j : Int) < (i : Int) := by omega
          have q2 : (j : Int) ≤ (d : Int) := by omega
          have b0 := hB
          have HVK := Lib.hid hVk
          have HKO := Lib.hid hkok
          have HSR := Lib.hid hSr
          have HKP : Hid (∀ l, l < j → l % 2 = 0 → VT.ok n ((t.kids.take j).getD l default) ∧ VT.key n ((t.kids.take j).getD l default)) := fun l hl hls => by
            rw [take_getD _ _ _ hl]
            exact ⟨HK.out _ (KM.out l (by omega)), (hkt.out l hl hls).1⟩
          have HKEY := Lib.hid (HKK.out.1 HK67.out j (by rw [KL.out]; exact hlt) hjs)
          generalize hkd : t.kids.getD j default = kid at *
          have HKD := Lib.hid hkd
          clear hkd hVk hkok hSd hSr
          go_upto_region 16 with (fail)
          go_region_held3 (fun W => W.cell? ⟨w.heap.size, 5, none⟩ = some (.slice (some ⟨g, 0, none⟩) i d) ∧ W.cell? ⟨g, j * 6, none⟩ = some (.int .i64 kid.kind) ∧ W.cell? ⟨g, j * 6 + 1, none⟩ = some (.bool kid.neg) ∧ W.cell? ⟨g, j * 6 + 2, none⟩ = some (.slice A2 a2 c2) ∧ W.cell? ⟨g, j * 6 + 3, none⟩ = some (.int .u64 (kid.bits : Int)) ∧ W.cell? ⟨g, j * 6 + 4, none⟩ = some (.string kid.text) ∧ W.cell? ⟨g, j * 6 + 5, none⟩ = some (.slice K2 m2 d2)) (first | exact ⟨e5, z0, z1, z2, z3, z4, z5⟩)
            (first
            | (go_at_call 42; refine HC.out.mono ?_; rintro e w2 ⟨r, rfl, hr, hB2⟩
               obtain rfl : r = true := hr.2 HKEY.out
               clear hr
               have e5 := below_cell (w := World.drew _) hB2 e5
               have z0 := below_cell (w := World.drew _) hB2 z0; have z1 := below_cell (w := World.drew _) hB2 z1; have z2 := below_cell (w := World.drew _) hB2 z2
               have z3 := below_cell (w := World.drew _) hB2 z3; have z4 := below_cell (w := World.drew _) hB2 z4; have z5 := below_cell (w := World.drew _) hB2 z5
               have bb := below_trans' (below_trans' b0 (below_drew1 wr)) hB2)
            | (go_at_call 43
               refine (c43 n (EqC_all n) _ j d (t.kids.take j) 2 kid _ S S w2 ((hKC.out.take (by omega)).later hS bb) (HVK.out.below (below_trans' (below_drew1 wr) hB2) HSR.out) (fun k hk => Nat.lt_of_lt_of_le (hS k hk) bb.size) (fun k hk => Nat.lt_of_lt_of_le (hS k hk) bb.size) (by omega) (by omega) (by omega) HKP.out HKO.out HKEY.out).mono ?_
               rintro e w3 ⟨r3, rfl, hr3, hB3⟩
               have HR3 := Lib.hid hr3
               clear hr3
               have e5 := below_cell hB3 e5
               have z0 := below_cell hB3 z0; have z1 := below_cell hB3 z1; have z2 := below_cell hB3 z2; have z3 := below_cell hB3 z3; have z4 := below_cell hB3 z4; have z5 := below_cell hB3 z5))
          all_goals
            have b3 := below_trans' bb hB3
            have r3' := ((RowB.drew r1.out).below hB2).below hB3
            by_cases h0 : r3 < 0
            · go_wp2_with fail
              go_roundw
              case rel =>
                refine ⟨j + 2, by omega, by omega, by go_num, b3, r3', fun l hl hls => ?_⟩
                by_cases hlj : l < j
                · exact hkt.out l hlj hls
                · have : l = j := by omega
                  subst this
                  rw [HKD.out]
                  refine ⟨HKEY.out, fun l' hl' hls' => ?_⟩
                  have := HR3.out h0 l' hl' hls'
                  rwa [take_getD _ _ _ hl'] at this
              case measure => simp [intOf]; omega
            · go_wp2_with fail
              go_ret
              exact ⟨_, rfl, (fun h => Bool.noConfusion h), b3⟩
        · have q1 : ¬ (j : Int) < (i : Int) := by omega
          have hfin : Hid (KeysT n 2 t.kids t.kids.length) := by
            rw [KL.out]
            exact fun l hl hls => hkt.out l (by omega) hls
          go_wp2_with fail
          go_ret
          exact ⟨_, rfl, (fun _ => ⟨fun e => hfin.out, fun e => by have := HK67.out; omega, hall.out⟩), hB⟩
end Go.Proofs.YtpfihjkhgfoijaaGreatDoor
namespace Go.Proofs.YtpfihjkhgfoijaaGreatDoor
open Go.RowKit

theorem MakeC_all (n : Nat) : MakeC n := by
  induction n with
  | zero =>
    intro w t cs S hI hok hkk hS
    by_cases h : t.kind < 6
    · exact c18s 0 w t cs S hI hok h
    · obtain ⟨_, _, n', e, _⟩ := VT.ok_ge hok (by omega)
      cases e
  | succ n ih =>
    intro w t cs S hI hok hkk hS
    by_cases h : t.kind < 6
    · exact c18s (n + 1) w t cs S hI hok h
    · have h9 := (VT.ok_ge hok (by omega)).1
      rcases (by omega : (t.kind = 6 ∨ t.kind = 7) ∨ t.kind = 8 ∨ t.kind = 9) with h6 | h8 | h9
      · exact c18z n ih w t cs S hI hok hkk hS h6
      · exact c18k8 n ih w t cs S hI hok hkk hS h8
      · exact c18k9 n ih w t cs S hI hok hkk hS h9
theorem c36 (n : Nat) (ih : ∀ m, n = m + 1 → SameC m) : SameC n := by
  intro w t ca cb S S' ha hb hok hS hS'
  obtain ⟨A1, n1, c1, K1, m1, d1, rfl, hl1, hd1⟩ := ha.shape
  obtain ⟨A2, n2, c2, K2, m2, d2, rfl, hl2, hd2⟩ := hb.shape
  have ba := ha.bytes
  have bb := hb.bytes
  obtain rfl : n1 = n2 := ba.len.symm.trans bb.len
  obtain rfl : m1 = m2 := hl1.symm.trans hl2
  by_cases h1 : t.kind = 1
  · have := c36b t A1 A2 n1 c1 c2 K1 K2 m1 d1 d2 w
    rw [h1]; exact this
  by_cases h2 : t.kind = 2
  · have := c36i t A1 A2 n1 c1 c2 K1 K2 m1 d1 d2 w ba bb (VT.ok_int hok h2)
    rw [h2]; exact this
  by_cases h3 : t.kind = 3
  · have := c36f t A1 A2 n1 c1 c2 K1 K2 m1 d1 d2 w
    rw [h3]; exact this
  refine c36o t A1 A2 n1 c1 c2 K1 K2 m1 d1 d2 w ⟨h1, h2, h3⟩ fun W hW => ?_
  by_cases h6 : t.kind < 6
  · have hm0 : m1 = 0 := by rw [← hl1, (VT.ok_lt hok h6).2.1]; rfl
    subst hm0
    exact c83z K1 K2 d1 d2 W
  · obtain ⟨_, h16, n', e, hko⟩ := VT.ok_ge hok (by omega)
    subst e
    exact c83 n' (ih n' rfl) K1 K2 m1 d1 d2 t.kids S S' W (ha.kids.later hS hW) (hb.kids.later hS' hW) (fun k hk => Nat.lt_of_lt_of_le (hS k hk) hW.size) (fun k hk => Nat.lt_of_lt_of_le (hS' k hk) hW.size) (by omega) hko
theorem SameC_all (n : Nat) : SameC n := by
  induction n with
  | zero => exact c36 0 fun m h => by omega
  | succ n ih => exact c36 (n + 1) fun m h => by cases h; exact ih
end Go.Proofs.YtpfihjkhgfoijaaGreatDoor

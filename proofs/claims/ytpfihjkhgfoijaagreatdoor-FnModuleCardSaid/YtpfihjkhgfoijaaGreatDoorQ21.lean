/- Contract of spec.Makes; Contract of spec.Makes: dicts and sets; What came in, read as a tree; contract of spec.Clean on values without kids; Contract of spec.Clean on values without kids. -/
import Derived.Test.YtpfihjkhgfoijaaGreatDoorQ20
import Derived.StillTailTactics
import Derived.Test.YtpfihjkhgfoijaaGreatDoorQ12
import Derived.Outline
set_option linter.unusedVariables false
set_option linter.unusedSimpArgs false
set_option maxRecDepth 100000
namespace Go.Proofs.YtpfihjkhgfoijaaGreatDoor
open Go.RowKit

/-- each st-th of the kids up to i is a key, and none of them is another -/
def KeysT (n st : Nat) (ts : List VT) (i : Nat) : Prop := ∀ j, j < i → j % st = 0 → VT.key n (ts.getD j default) ∧ ∀ l, l < j → l % st = 0 → ¬ EqT n (ts.getD l default) (ts.getD j default)
def VT.mak : Nat → VT → Prop
  | 0, t => True
  | n + 1, t => (t.kind = 8 → KeysT n 2 t.kids t.kids.length) ∧ (t.kind = 9 → KeysT n 1 t.kids t.kids.length) ∧ ∀ k ∈ t.kids, VT.mak n k
/-- the keys of dicts and sets within are such that can be -/
def KK : Nat → VT → Prop
  | 0, t => True
  | n + 1, t => (t.kind = 8 → ∀ j, j < t.kids.length → j % 2 = 0 → VT.key n (t.kids.getD j default)) ∧ (t.kind = 9 → ∀ j, j < t.kids.length → j % 1 = 0 → VT.key n (t.kids.getD j default)) ∧ ∀ k ∈ t.kids, KK n k
def PostM (P : Prop) (w : World) (e : Ending) (w' : World) : Prop := ∃ r, e = .returned (.bool r) ∧ (r = true → P) ∧ Below w.heap.size w w'
def MakeC (n : Nat) : Prop := ∀ (w : World) (t : VT) (cs : Array Value) (S : BS), VC n S w t cs → VT.ok n t → KK n t → (∀ k, S k → k < w.heap.size) →
  Calls Tryz.prog 18 #[.agg cs] w (PostM (VT.mak n t) w)
theorem KidC.take {P : VT → Array Value → Prop} {S : BS} {w : World} {K : Option Addr} {m : Nat} {ts : List VT} (h : KidC P S w K m ts) {i : Nat} (hi : i ≤ m) : KidC P S w K i (ts.take i) := by
  obtain ⟨hl, hk⟩ := h
  refine ⟨by rw [List.length_take]; omega, ?_⟩
  rcases hk with h0 | ⟨g, e, hg, hk⟩
  · exact .inl (by omega)
  · refine .inr ⟨g, e, hg, fun j hj => ?_⟩
    obtain ⟨cs, h1, h2, h3⟩ := hk j (by omega)
    refine ⟨cs, h1, h2, ?_⟩
    have : (ts.take i).getD j default = ts.getD j default := by
      rw [List.getD_eq_getElem?_getD, List.getElem?_take, if_pos hj, ← List.getD_eq_getElem?_getD]
    rw [this]; exact h3
theorem KidC.later {n : Nat} {S : BS} {w wr : World} {K : Option Addr} {m : Nat} {ts : List VT} (h : KidC (VC n S w) S w K m ts) (hS : ∀ k, S k → k < w.heap.size) (hB : Below w.heap.size w wr) : KidC (VC n S wr) S wr K m ts :=
  h.agree (fun k hk => hB.block k (hS k hk)) fun t cs hv => hv.below hB hS
theorem take_getD (ts : List VT) (i j : Nat) (h : j < i) : (ts.take i).getD j default = ts.getD j default := by
  rw [List.getD_eq_getElem?_getD, List.getElem?_take, if_pos h, ← List.getD_eq_getElem?_getD]
theorem ok_even {n : Nat} {t : VT} (h : VT.ok n t) : 0 ≤ t.kind ∧ t.kind ≤ 9 ∧ (t.kind = 8 → t.kids.length % 2 = 0) := by
  unfold VT.ok at h
  obtain ⟨_, _, h⟩ := h
  rcases h with ⟨h1, _⟩ | ⟨h1, _⟩ | ⟨h1, _⟩ | ⟨h1, _⟩ | ⟨h1, _⟩ | ⟨h1, h2, _, _, _, _, _, h3, _⟩
  · omega
  · omega
  · omega
  · omega
  · omega
  · exact ⟨by omega, h2, h3⟩
set_option maxHeartbeats 4000000 in
/-- a value without kids that are looked at -/
theorem c18s (n : Nat) (w : World) (t : VT) (cs : Array Value) (S : BS) (hI : VC n S w t cs) (hok : VT.ok n t) (hk : t.kind < 6) : Calls Tryz.prog 18 #[.agg cs] w (PostM (VT.mak n t) w) := by
  obtain ⟨A, a, c, K, m, d, rfl, hkl, hd⟩ := hI.shape
  obtain ⟨h1, h2, h3⟩ := VT.ok_lt hok hk
  have hm0 : m = 0 := by rw [← hkl, h2]; rfl
  subst hm0
  have hmk : VT.mak n t := by
    cases n with
    | zero => trivial
    | succ n => exact ⟨fun e => by omega, fun e => by omega, fun k hk => by rw [h2] at hk; cases hk⟩
  have HM := Lib.hid hmk
  obtain ⟨w1, hw1, b1, r1⟩ : ∃ w1, w.alloc (.cells #[.int .i64 t.kind, .bool t.neg, .slice A a c, .int .u64 (t.bits : Int), .string t.text, .slice K 0 d] 36) = w1 ∧ Below w.heap.size w w1 ∧ RowB w1 w.heap.size #[.int .i64 t.kind, .bool t.neg, .slice A a c, .int .u64 (t.bits : Int), .string t.text, .slice K 0 d] 36 :=
    ⟨_, rfl, below_alloc' (Below.refl _ _) _, RowB.new w _ _⟩
  have e0 := r1.cell 0 _ rfl
  have e5 := r1.cell 5 _ rfl
  have q8 : (t.kind == 8) = false := by rw [beq_eq_false_iff_ne]; omega
  have q9 : (t.kind == 9) = false := by rw [beq_eq_false_iff_ne]; omega
  clear hI hok hkl h2 hmk r1
  generalize t.kind = kd at *
  go_enter Tryz.func18, Tryz.ntmps18
  go_wp2_with fail
  clear hw1
  go_loop [3] (fun v => v = .int .i64 0) (fun _ => 0)
  case atStart => rfl
  case round =>
    subst hrel
    go_wp2_with fail
    go_loop [5] (fun v => v = .int .i64 0) (fun _ => 0)
    case atStart => rfl
    case round =>
      subst hrel
      go_wp2_with fail
      go_ret
      exact ⟨_, rfl, fun _ => HM.out, b1⟩
set_option maxHeartbeats 1000000 in
theorem c18z (n : Nat) (ih : MakeC n) (w : World) (t : VT) (cs : Array Value) (S : BS) (hI : VC (n + 1) S w t cs) (hok : VT.ok (n + 1) t) (hkk : KK (n + 1) t) (hS : ∀ k, S k → k < w.heap.size) (hk : t.kind = 6 ∨ t.kind = 7) : Calls Tryz.prog 18 #[.agg cs] w (PostM (VT.mak (n + 1) t) w) := by
  obtain ⟨A, a, c, K, m, d, rfl, hkl, hd⟩ := hI.shape
  obtain ⟨_, hk16, n', e, hkids⟩ := VT.ok_ge hok (by omega)
  cases e
  have hev := (ok_even hok).2.2
  obtain ⟨w1, hw1, b1, r1⟩ : ∃ w1, w.alloc (.cells #[.int .i64 t.kind, .bool t.neg, .slice A a c, .int .u64 (t.bits : Int), .string t.text, .slice K m d] 36) = w1 ∧ Below w.heap.size w w1 ∧ RowB w1 w.heap.size #[.int .i64 t.kind, .bool t.neg, .slice A a c, .int .u64 (t.bits : Int), .string t.text, .slice K m d] 36 :=
    ⟨_, rfl, below_alloc' (Below.refl _ _) _, RowB.new w _ _⟩
  have e0 := r1.cell 0 _ rfl
  have e5 := r1.cell 5 _ rfl
  have hKC := Lib.hid hI.kids
  have HK := Lib.hid hkids
  have HKK := Lib.hid hkk
  clear hkk
  have HIH := Lib.hid ih
  have hm16 : m ≤ 16 := by omega
  have R1 := Lib.hid r1
  have KM : Hid (∀ i, i < m → t.kids.getD i default ∈ t.kids) := fun i hi => by
    rw [List.getD_eq_getElem?_getD, List.getElem?_eq_getElem (by rw [hkl]; exact hi)]; exact List.getElem_mem (by rw [hkl]; exact hi)
  have KL := Lib.hid hkl
  have HK67 := Lib.hid hk
  have q8 : (t.kind == 8) = false := by rw [beq_eq_false_iff_ne]; omega
  have q9 : (t.kind == 9) = false := by rw [beq_eq_false_iff_ne]; omega
  clear hI hok hkids ih r1 hkl hev
  generalize hkd : t.kind = kd at *
  have HKD0 := Lib.hid hkd
  clear hkd
  go_enter Tryz.func18, Tryz.ntmps18
  go_wp2_with fail
  clear hw1 e0 e5
  go_loopw [3] (fun vi wr => ∃ (i : Nat), i ≤ m ∧ vi = .int .i64 (i : Int) ∧ Below w.heap.size w wr ∧ Hid (RowB wr w.heap.size #[.int .i64 kd, .bool t.neg, .slice A a c, .int .u64 (t.bits : Int), .string t.text, .slice K m d] 36) ∧ (∀ j, j < i → VT.mak n (t.kids.getD j default))) (fun vi _ => m - (intOf vi).toNat)
  case atStart => exact ⟨0, by omega, rfl, b1, R1.out, by omega⟩
  case round =>
    obtain ⟨i, hi, rfl, hB, r1, hys⟩ := hrel
    have e0 := r1.out.cell 0 _ rfl
    have e5 := r1.out.cell 5 _ rfl
    by_cases hlt : i < m
    · obtain ⟨g, A2, a2, c2, K2, m2, d2, rfl, hSg, hVk, z0, z1, z2, z3, z4, z5⟩ := hKC.out.at hS i hlt hB
      have hkok := HK.out _ (KM.out i hlt)
      have hSr : ∀ k, S k → k < wr.heap.size := fun k hk => Nat.lt_of_lt_of_le (hS k hk) hB.size
      have HC := Lib.hid (HIH.out wr _ _ S hVk hkok (HKK.out.2.2 _ (KM.out i hlt)) hSr)
      generalize hkd : t.kids.getD i default = kid at *
      have HKD := Lib.hid hkd
      have q1 : (i : Int) < (m : Int) := by omega
      clear hVk hkok hkd
      go_wp2_with fail
      refine HC.out.mono ?_
      rintro e w2 ⟨r, rfl, hr, hB2⟩
      have b2 := below_trans' hB hB2
      have r2 := r1.out.below hB2
      have HR := Lib.hid hr
      clear hr
      cases r
      · go_wp2_with fail
        go_ret
        exact ⟨_, rfl, (fun h => Bool.noConfusion h), b2⟩
      · go_wp2_with fail
        go_roundw
        case rel =>
          refine ⟨i + 1, by omega, by go_num, b2, r2, fun j hj => ?_⟩
          by_cases hji : j < i
          · exact hys j hji
          · have : j = i := by omega
            subst this
            rw [HKD.out]; exact HR.out trivial
        case measure => simp [intOf]; omega
    · have him : i = m := by omega
      subst him
      have hall : Hid (∀ k ∈ t.kids, VT.mak n k) := fun k hk => by
        obtain ⟨j, hj, rfl⟩ := List.mem_iff_getElem.1 hk
        have := hys j (by have := KL.out; omega)
        rwa [List.getD_eq_getElem?_getD, List.getElem?_eq_getElem hj] at this
      clear hys
      go_wp2_with fail
      go_loop [5] (fun v => v = .int .i64 0) (fun _ => 0)
      case atStart => rfl
      case round =>
        subst hrel
        go_wp2_with fail
        go_ret
        exact ⟨_, rfl, (fun _ => ⟨fun e => by have := HK67.out; have := HKD0.out; omega, fun e => by have := HK67.out; have := HKD0.out; omega, hall.out⟩), hB⟩
end Go.Proofs.YtpfihjkhgfoijaaGreatDoor
namespace Go.Proofs.YtpfihjkhgfoijaaGreatDoor
open Go.RowKit

set_option maxHeartbeats 4000000 in
theorem c18k9 (n : Nat) (ih : MakeC n) (w : World) (t : VT) (cs : Array Value) (S : BS) (hI : VC (n + 1) S w t cs) (hok : VT.ok (n + 1) t) (hkk : KK (n + 1) t) (hS : ∀ k, S k → k < w.heap.size) (hk : t.kind = 9) : Calls Tryz.prog 18 #[.agg cs] w (PostM (VT.mak (n + 1) t) w) := by
  obtain ⟨A, a, c, K, m, d, rfl, hkl, hd⟩ := hI.shape
  obtain ⟨_, hk16, n', e, hkids⟩ := VT.ok_ge hok (by omega)
  cases e
  have hev := (ok_even hok).2.2
  obtain ⟨w1, hw1, b1, r1⟩ : ∃ w1, w.alloc (.cells #[.int .i64 t.kind, .bool t.neg, .slice A a c, .int .u64 (t.bits : Int), .string t.text, .slice K m d] 36) = w1 ∧ Below w.heap.size w w1 ∧ RowB w1 w.heap.size #[.int .i64 t.kind, .bool t.neg, .slice A a c, .int .u64 (t.bits : Int), .string t.text, .slice K m d] 36 :=
    ⟨_, rfl, below_alloc' (Below.refl _ _) _, RowB.new w _ _⟩
  have e0 := r1.cell 0 _ rfl
  have e5 := r1.cell 5 _ rfl
  have hKC := Lib.hid hI.kids
  have HK := Lib.hid hkids
  have HKK := Lib.hid hkk
  clear hkk
  have HIH := Lib.hid ih
  have hm16 : m ≤ 16 := by omega
  have R1 := Lib.hid r1
  have KM : Hid (∀ i, i < m → t.kids.getD i default ∈ t.kids) := fun i hi => by
    rw [List.getD_eq_getElem?_getD, List.getElem?_eq_getElem (by rw [hkl]; exact hi)]; exact List.getElem_mem (by rw [hkl]; exact hi)
  have KL := Lib.hid hkl
  have HK67 := Lib.hid hk
  have HEV := Lib.hid hev
  rw [hk] at hw1 e0 R1 ⊢
  clear hI hok hkids ih r1 hkl hev hk
  go_enter Tryz.func18, Tryz.ntmps18
  go_wp2_with fail
  clear hw1 e0 e5
  go_loopw [3] (fun vi wr => ∃ (i : Nat), i ≤ m ∧ vi = .int .i64 (i : Int) ∧ Below w.heap.size w wr ∧ Hid (RowB wr w.heap.size #[.int .i64 9, .bool t.neg, .slice A a c, .int .u64 (t.bits : Int), .string t.text, .slice K m d] 36) ∧ (∀ j, j < i → VT.mak n (t.kids.getD j default))) (fun vi _ => m - (intOf vi).toNat)
  case atStart => exact ⟨0, by omega, rfl, b1, R1.out, by omega⟩
  case round =>
    obtain ⟨i, hi, rfl, hB, r1, hys⟩ := hrel
    have e0 := r1.out.cell 0 _ rfl
    have e5 := r1.out.cell 5 _ rfl
    by_cases hlt : i < m
    · obtain ⟨g, A2, a2, c2, K2, m2, d2, rfl, hSg, hVk, z0, z1, z2, z3, z4, z5⟩ := hKC.out.at hS i hlt hB
      have hkok := HK.out _ (KM.out i hlt)
      have hSr : ∀ k, S k → k < wr.heap.size := fun k hk => Nat.lt_of_lt_of_le (hS k hk) hB.size
      have HC := Lib.hid (HIH.out wr _ _ S hVk hkok (HKK.out.2.2 _ (KM.out i hlt)) hSr)
      generalize hkd : t.kids.getD i default = kid at *
      have HKD := Lib.hid hkd
      have q1 : (i : Int) < (m : Int) := by omega
      clear hVk hkok hkd
      go_wp2_with fail
      refine HC.out.mono ?_
      rintro e w2 ⟨r, rfl, hr, hB2⟩
      have b2 := below_trans' hB hB2
      have r2 := r1.out.below hB2
      have HR := Lib.hid hr
      clear hr
      cases r
      · go_wp2_with fail
        go_ret
        exact ⟨_, rfl, (fun h => Bool.noConfusion h), b2⟩
      · go_wp2_with fail
        go_roundw
        case rel =>
          refine ⟨i + 1, by omega, by go_num, b2, r2, fun j hj => ?_⟩
          by_cases hji : j < i
          · exact hys j hji
          · have : j = i := by omega
            subst this
            rw [HKD.out]; exact HR.out trivial
        case measure => simp [intOf]; omega
    · have him : i = m := by omega
      subst him
      have hall : Hid (∀ k ∈ t.kids, VT.mak n k) := fun k hk => by
        obtain ⟨j, hj, rfl⟩ := List.mem_iff_getElem.1 hk
        have := hys j (by have := KL.out; omega)
        rwa [List.getD_eq_getElem?_getD, List.getElem?_eq_getElem hj] at this
      clear hys
      go_wp2_with fail
      clear e0 e5
      go_loopw [5] (fun vi wr => ∃ (j : Nat), j ≤ i + 1 ∧ j % 1 = 0 ∧ vi = .int .i64 (j : Int) ∧ Below w.heap.size w wr ∧ Hid (RowB wr w.heap.size #[.int .i64 9, .bool t.neg, .slice A a c, .int .u64 (t.bits : Int), .string t.text, .slice K i d] 36) ∧ Hid (KeysT n 1 t.kids j)) (fun vi _ => i + 2 - (intOf vi).toNat)
      case atStart => exact ⟨0, by omega, rfl, rfl, hB, r1.out, fun j hj => by omega⟩
      case round =>
        clear hB r1
        obtain ⟨j, hj, hjs, rfl, hB, r1, hkt⟩ := hrel
        have e5 := r1.out.cell 5 _ rfl
        by_cases hlt : j < i
        · obtain ⟨g, A2, a2, c2, K2, m2, d2, rfl, hSg, hVk, z0, z1, z2, z3, z4, z5⟩ := hKC.out.at hS j hlt hB
          have hkok := HK.out _ (KM.out j hlt)
          have hSr : ∀ k, S k → k < wr.heap.size := fun k hk => Nat.lt_of_lt_of_le (hS k hk) hB.size
          have hSd : ∀ k, S k → k < wr.drew.heap.size := hSr
          have HC := Lib.hid (HashD_all n wr.drew _ _ S (hVk.below (below_drew1 wr) hSr) hkok hSd)
          have q1 : (j : Int) < (i : Int) := by omega
          have q2 : (j : Int) ≤ (d : Int) := by omega
          have b0 := hB
          have HVK := Lib.hid hVk
          have HKO := Lib.hid hkok
          have HSR := Lib.hid hSr
          have HKP : Hid (∀ l, l < j → l % 1 = 0 → VT.ok n ((t.kids.take j).getD l default) ∧ VT.key n ((t.kids.take j).getD l default)) := fun l hl hls => by
            rw [take_getD _ _ _ hl]
            exact ⟨HK.out _ (KM.out l (by omega)), (hkt.out l hl hls).1⟩
          have HKEY := Lib.hid (HKK.out.2.1 HK67.out j (by rw [KL.out]; exact hlt) hjs)
          generalize hkd : t.kids.getD j default = kid at *
          have HKD := Lib.hid hkd
          clear hkd hVk hkok hSd hSr
          go_upto_region 16 with (fail)
          go_region_held3 (fun W => W.cell? ⟨w.heap.size, 5, none⟩ = some (.slice (some ⟨g, 0, none⟩) i d) ∧ W.cell? ⟨g, j * 6, none⟩ = some (.int .i64 kid.kind) ∧ W.cell? ⟨g, j * 6 + 1, none⟩ = some (.bool kid.neg) ∧ W.cell? ⟨g, j * 6 + 2, none⟩ = some (.slice A2 a2 c2) ∧ W.cell? ⟨g, j * 6 + 3, none⟩ = some (.int .u64 (kid.bits : Int)) ∧ W.cell? ⟨g, j * 6 + 4, none⟩ = some (.string kid.text) ∧ W.cell? ⟨g, j * 6 + 5, none⟩ = some (.slice K2 m2 d2)) (first | exact ⟨e5, z0, z1, z2, z3, z4, z5⟩)
            (first
            | (go_at_call 42; refine HC.out.mono ?_; rintro e w2 ⟨r, rfl, hr, hB2⟩
               obtain rfl : r = true := hr.2 HKEY.out
               clear hr
               have e5 := below_cell (w := World.drew _) hB2 e5
               have z0 := below_cell (w := World.drew _) hB2 z0; have z1 := below_cell (w := World.drew _) hB2 z1; have z2 := below_cell (w := World.drew _) hB2 z2
               have z3 := below_cell (w := World.drew _) hB2 z3; have z4 := below_cell (w := World.drew _) hB2 z4; have z5 := below_cell (w := World.drew _) hB2 z5
               have bb := below_trans' (below_trans' b0 (below_drew1 wr)) hB2)
            | (go_at_call 43
               refine (c43 n (EqC_all n) _ j d (t.kids.take j) 1 kid _ S S w2 ((hKC.out.take (by omega)).later hS bb) (HVK.out.below (below_trans' (below_drew1 wr) hB2) HSR.out) (fun k hk => Nat.lt_of_lt_of_le (hS k hk) bb.size) (fun k hk => Nat.lt_of_lt_of_le (hS k hk) bb.size) (by omega) (by omega) (by omega) HKP.out HKO.out HKEY.out).mono ?_
               rintro e w3 ⟨r3, rfl, hr3, hB3⟩
               have HR3 := Lib.hid hr3
               clear hr3
               have e5 := below_cell hB3 e5
               have z0 := below_cell hB3 z0; have z1 := below_cell hB3 z1; have z2 := below_cell hB3 z2; have z3 := below_cell hB3 z3; have z4 := below_cell hB3 z4; have z5 := below_cell hB3 z5))
          all_goals
            have b3 := below_trans' bb hB3
            have r3' := ((RowB.drew r1.out).below hB2).below hB3
            by_cases h0 : r3 < 0
            · go_wp2_with fail
              go_roundw
              case rel =>
                refine ⟨j + 1, by omega, by omega, by go_num, b3, r3', fun l hl hls => ?_⟩
                by_cases hlj : l < j
                · exact hkt.out l hlj hls
                · have : l = j := by omega
                  subst this
                  rw [HKD.out]
                  refine ⟨HKEY.out, fun l' hl' hls' => ?_⟩
                  have := HR3.out h0 l' hl' hls'
                  rwa [take_getD _ _ _ hl'] at this
              case measure => simp [intOf]; omega
            · go_wp2_with fail
              go_ret
              exact ⟨_, rfl, (fun h => Bool.noConfusion h), b3⟩
        · have q1 : ¬ (j : Int) < (i : Int) := by omega
          have hfin : Hid (KeysT n 1 t.kids t.kids.length) := by
            rw [KL.out]
            exact fun l hl hls => hkt.out l (by omega) hls
          go_wp2_with fail
          go_ret
          exact ⟨_, rfl, (fun _ => ⟨fun e => by have := HK67.out; omega, fun e => hfin.out, hall.out⟩), hB⟩
end Go.Proofs.YtpfihjkhgfoijaaGreatDoor
namespace Go.Proofs.YtpfihjkhgfoijaaGreatDoor
open Go.RowKit

/-- a copy of bytes: 'append([]byte{}, m...)', the empty row being the block made last -/
theorem copy5n (w : World) (A : Option Addr) (n c : Nat) (bs : List Nat) (h : ByteR w A n c bs) (hA : A = none → n = 0 ∧ c = 0) (hn : n ≤ 5000) (ty : TypeId) :
    ∃ B m d w', (Builtin.append_ #[32, 32] ty #[.slice (some ⟨w.heap.size, 0, none⟩) 0 0, .slice A n c]).run Tryz.prog (w.alloc (.cells #[] 5)) = .ok (.slice B m d) w' ∧ Sits w.heap.size (fun W => ByteR W B m d bs) w' ∧ (B = none → m = 0 ∧ d = 0) ∧ Below w.heap.size w w' := by
  have hb1 : Below w.heap.size w (w.alloc (.cells #[] 5)) := below_alloc' (Below.refl _ _) _
  have hown := World.ownsRow_made (base := w.heap.size) (e := 5) (size := 1) w #[] 0 (Nat.le_refl _) (by simp [maxLen]) rfl
  cases A with
  | none =>
    obtain ⟨rfl, rfl⟩ := hA rfl
    obtain rfl : bs = [] := List.eq_nil_of_length_eq_zero h.len
    obtain ⟨i, hi, hz0, hz1, hz2⟩ := info_parts i5
    exact ⟨_, _, _, _, run_append_owned_none (w := w.alloc (.cells #[] 5)) w.heap.size 32 ty 5 i 1 Tryz.underlying32 hi _ 0 [] hown, fun W _ _ => ByteR.empty W _ _, (fun e => by cases e), hb1⟩
  | some a =>
    have hc : ∀ i, i < n → (w.alloc (.cells #[] 5)).cell? (a.add i) = some (.int .u8 (bs.getD i 0 : Nat)) := fun i hi => by
      rcases h.cells with h1 | ⟨g, o, e, h1⟩
      · omega
      · cases e; rw [add_off]; exact below_cell hb1 (h1 i hi)
    obtain ⟨v', w', hrun, hown, hgr, hob⟩ := app5 hown a n c bs h.len hc (by omega) (by rw [alloc_size]; omega) ty
    rw [List.nil_append, Nat.zero_add] at hown
    have hnil : ∀ B d, v' = .slice B n d → B = none → n = 0 ∧ d = 0 := fun B d e eB => by
      rcases hown.2 with ⟨e1, e2⟩ | ⟨g, cap, cur, e1, _⟩
      · rw [e1] at e; cases e; exact ⟨rfl, rfl⟩
      · rw [e1] at e; cases e; cases eB
    obtain ⟨B, d, rfl, hS⟩ := own_bytes hown h.rng
    exact ⟨B, n, d, w', hrun, hS, hnil B d rfl, below_grown' hb1 (g := w.heap.size) hgr (Nat.le_refl _)⟩
set_option maxHeartbeats 1000000 in
theorem c38n (neg : Bool) (A : Option Addr) (n c : Nat) (bs : List Nat) (w : World) (h : ByteR w A n c bs) (hA : A = none → n = 0 ∧ c = 0) (hn : n ≤ 5000) :
    Calls Tryz.prog 38 #[.agg #[.bool neg, .slice A n c]] w fun e w' => ∃ B m d, e = .returned (.agg #[.int .i64 2, .bool neg, .slice B m d, .int .u64 0, .string ⟨#[]⟩, .slice none 0 0]) ∧ Sits w.heap.size (fun W => ByteR W B m d bs) w' ∧ (B = none → m = 0 ∧ d = 0) ∧ Below w.heap.size w w' := by
  obtain ⟨w1, hw1, b1, r0, r1, hsz⟩ : ∃ w1, ((w.alloc (.cells #[.bool neg, .slice A n c] 92)).alloc (.cells #[.int .i64 0, .bool false, .slice none 0 0, .int .u64 0, .string ⟨#[]⟩, .slice none 0 0] 36)) = w1 ∧ Below w.heap.size w w1 ∧
      RowB w1 w.heap.size #[.bool neg, .slice A n c] 92 ∧ RowB w1 (w.heap.size + 1) #[.int .i64 0, .bool false, .slice none 0 0, .int .u64 0, .string ⟨#[]⟩, .slice none 0 0] 36 ∧ w1.heap.size = w.heap.size + 1 + 1 :=
    ⟨_, rfl, below_alloc' (below_alloc' (Below.refl _ _) _) _, (RowB.new w _ _).alloc _, by
      have := RowB.new (w.alloc (.cells #[.bool neg, .slice A n c] 92)) #[.int .i64 0, .bool false, .slice none 0 0, .int .u64 0, .string ⟨#[]⟩, .slice none 0 0] 36
      rw [alloc_size] at this; exact this, by rw [alloc_size, alloc_size]⟩
  have ha := copy5n w1.drew A n c bs (h.below (below_trans' b1 (below_drew1 _))) hA hn
  rw [show w1.drew.heap.size = w.heap.size + 1 + 1 from hsz] at ha
  have HA := Lib.hid ha
  clear ha
  have hsd : w1.drew.heap.size = w.heap.size + 1 + 1 := hsz
  have k0 := r0.cell 0 _ rfl
  have k1 := r0.cell 1 _ rfl
  clear h
  go_enter Tryz.func38, Tryz.ntmps38
  go_wp2_with fail
  clear hw1
  go_region_law (first | (obtain ⟨B, m, d, w2, hrun, hS, hBn, hB⟩ := HA.out 32; have HBN := Lib.hid hBn; clear hBn; rw [← hsd] at hB; have r2 := Lib.hid (r1.drew.below hB); have e0 := below_cell (w := w1.drew) hB k0; have e1 := below_cell (w := w1.drew) hB k1; obtain ⟨f0, g0, f1, g1, f2, g2, f3, g3, f4, g4, f5, g5⟩ := facts36 r2.out (.int .i64 2) (.bool neg) (.slice B m d) (.int .u64 0) (.string ⟨#[]⟩); have HS := Lib.hid hS; clear hS; refine step_append rfl (.tmp 5) (.tmp 7) 32 rfl _ _ _ _ rfl rfl hrun ?_))
  all_goals
    have b2 := below_trans' (below_trans' b1 (below_drew1 _)) hB
    go_wp2_with fail
    refine bodyPost_ret (ret_row (set36 _ _ _ _ _ _ r2.out) rfl _ _ rfl Tryz.underlying36 rfl i36) rfl ?_
    exact ⟨_, _, _, rfl, (HS.out.grown (set36_grown _ _ _ _ _ _ _ _) (by omega)).mono (by omega), HBN.out, below_grown' b2 (set36_grown _ _ _ _ _ _ _ _) (by omega)⟩
/-- the cells cs of a value that came in can be read, n levels down -/
def IV : Nat → World → Array Value → Prop
  | n, w, cs => ∃ k ng A a c u t K m d bs, cs = #[.int .i64 k, .bool ng, .slice A a c, .int .u64 ((u : Nat) : Int), .string t, .slice K m d] ∧ u < 18446744073709551616 ∧ ByteA w A a c bs ∧ c ≤ 140737488355328 ∧ t.size ≤ 140737488355328 ∧
      m ≤ d ∧ d ≤ 140737488355328 ∧
      match n with
      | 0 => True
      | n + 1 => m = 0 ∨ ∃ x : Addr, K = some x ∧ ∀ i, i < m → ∃ cs' : Array Value, (∀ j, j < 6 → w.cell? (x.add (i * 6 + j)) = cs'[j]?) ∧ IV n w cs'
theorem IV.below {n : Nat} {w w' : World} {cs : Array Value} (h : IV n w cs) (hb : Below w.heap.size w w') : IV n w' cs := by
  induction n generalizing cs with
  | zero =>
    obtain ⟨k, ng, A, a, c, u, t, K, m, d, bs, e, h1, h2, h3, h4, h5, h6, h7⟩ := h
    exact ⟨k, ng, A, a, c, u, t, K, m, d, bs, e, h1, h2.below hb, h3, h4, h5, h6, trivial⟩
  | succ n ih =>
    obtain ⟨k, ng, A, a, c, u, t, K, m, d, bs, e, h1, h2, h3, h4, h5, h6, h7⟩ := h
    refine ⟨k, ng, A, a, c, u, t, K, m, d, bs, e, h1, h2.below hb, h3, h4, h5, h6, ?_⟩
    rcases h7 with h7 | ⟨x, ex, h7⟩
    · exact .inl h7
    · refine .inr ⟨x, ex, fun i hi => ?_⟩
      obtain ⟨cs', hc, hI⟩ := h7 i hi
      have h6 : cs'.size = 6 := by
        cases n <;> (obtain ⟨k, ng, A, a, c, u, t, K, m, d, bs, e, _⟩ := hI; subst e; rfl)
      refine ⟨cs', fun j hj => ?_, ih hI⟩
      have := hc j hj
      rw [Array.getElem?_eq_getElem (by omega)] at this ⊢
      exact below_cell hb this
def PostT (n : Nat) (w : World) (e : Ending) (w' : World) : Prop :=
  ∃ t cs', e = .returned (.agg cs') ∧ VT.ok n t ∧ KK n t ∧ VC n (blks w.heap.size w'.heap.size) w' t cs' ∧ Below w.heap.size w w'
def CleanC (n : Nat) : Prop := ∀ (w : World) (cs : Array Value), IV n w cs → Calls Tryz.prog 17 #[.agg cs, .int .i64 (n : Int)] w (PostT n w)
theorem KK.low {n : Nat} {t : VT} (h : t.kids = []) (hk : t.kind < 6) : KK n t := by
  cases n with
  | zero => trivial
  | succ n => exact ⟨fun e => by omega, fun e => by omega, fun k hk => by rw [h] at hk; cases hk⟩
theorem VC.flat {n : Nat} {S : BS} {w : World} (k : Int) (u : Nat) (t : ByteArray) : VC n S w ⟨k, false, [], u, t, []⟩ #[.int .i64 k, .bool false, .slice none 0 0, .int .u64 (u : Int), .string t, .slice none 0 0] :=
  VC.ofHead ⟨none, 0, 0, none, 0, 0, rfl, ByteS.nil _ _, fun _ => ⟨rfl, rfl⟩, Nat.le_refl _, rfl, .inl rfl⟩
theorem kd_rng (k : Int) : -9 ≤ k.tmod 10 ∧ k.tmod 10 ≤ 9 := by
  rcases Int.le_total 0 k with h | h
  · rw [Int.tmod_eq_emod_of_nonneg h]; omega
  · obtain ⟨j, rfl⟩ : ∃ j, k = -j := ⟨-k, by omega⟩
    rw [Int.neg_tmod, Int.tmod_eq_emod_of_nonneg (by omega)]; omega
end Go.Proofs.YtpfihjkhgfoijaaGreatDoor
namespace Go.Proofs.YtpfihjkhgfoijaaGreatDoor
open Go.RowKit

set_option maxHeartbeats 400000 in
theorem clean0A (n : Nat) (w : World) (k : Int) (ng : Bool) (A : Option Addr) (a c u : Nat) (t : ByteArray) (K : Option Addr) (m d : Nat) (bs : List Nat) (hu : u < 18446744073709551616) (hA : ByteA w A a c bs) (hc : c ≤ 140737488355328) (ht : t.size ≤ 140737488355328) (hq : (k.tmod 10 + 10) % 10 = 0) : Calls Tryz.prog 17 #[.agg #[.int .i64 k, .bool ng, .slice A a c, .int .u64 ((u : Nat) : Int), .string t, .slice K m d], .int .i64 (n : Int)] w (PostT n w) := by
  obtain ⟨w1, hw1, b1, r0, r1, hsz⟩ := two36 w #[.int .i64 k, .bool ng, .slice A a c, .int .u64 ((u : Nat) : Int), .string t, .slice K m d] zero36
  unfold zero36 at hw1 r1
  have R0 := Lib.hid r0
  have R1 := Lib.hid r1
  have HSZ := Lib.hid hsz
  have e0 := r0.cell 0 _ rfl
  have e1 := r0.cell 1 _ rfl
  have e2 := r0.cell 2 _ rfl
  have e3 := r0.cell 3 _ rfl
  have e4 := r0.cell 4 _ rfl
  have e5 := r0.cell 5 _ rfl
  obtain ⟨hr1, hr2⟩ := kd_rng k
  clear hsz r0 r1
  obtain ⟨f0, g0, f1, g1, f2, g2, f3, g3, f4, g4, f5, g5⟩ := facts36 R1.out (.int .i64 0) (.bool false) (.slice none 0 0) (.int .u64 0) (.string ⟨#[]⟩)
  obtain ⟨D, hD⟩ : ∃ D : Int, (n : Int) = D := ⟨_, rfl⟩
  rw [hD]
  by_cases hn : D ≤ 0
  · clear hD
    go_enter Tryz.func17, Tryz.ntmps17
    go_wp2_with fail
    refine bodyPost_ret (ret_row (set36 _ _ _ _ _ _ R1.out) rfl _ _ rfl Tryz.underlying36 rfl i36) rfl ?_
    refine ⟨⟨0, false, [], 0, ⟨#[]⟩, []⟩, _, rfl, (by unfold VT.ok; exact ⟨by simp, by simp, .inl ⟨rfl, rfl, rfl, rfl, rfl, rfl⟩⟩), KK.low rfl (show (0 : Int) < 6 by decide), VC.flat _ _ _, below_grown' (g := w.heap.size + 1) b1 (set36_grown w1 (w.heap.size + 1) (.int .i64 0) (.bool false) (.slice none 0 0) (.int .u64 0) (.string ⟨#[]⟩) (.slice none 0 0)) (by omega)⟩
  · have hn : 0 < D := by omega
    clear hD
    go_enter Tryz.func17, Tryz.ntmps17
    go_wp2_with fail
    refine bodyPost_ret (ret_row (set36 _ _ _ _ _ _ R1.out) rfl _ _ rfl Tryz.underlying36 rfl i36) rfl ?_
    refine ⟨⟨0, false, [], 0, ⟨#[]⟩, []⟩, _, rfl, (by unfold VT.ok; exact ⟨by simp, by simp, .inl ⟨rfl, rfl, rfl, rfl, rfl, rfl⟩⟩), KK.low rfl (show (0 : Int) < 6 by decide), VC.flat _ _ _, below_grown' (g := w.heap.size + 1) b1 (set36_grown w1 (w.heap.size + 1) (.int .i64 0) (.bool false) (.slice none 0 0) (.int .u64 0) (.string ⟨#[]⟩) (.slice none 0 0)) (by omega)⟩
set_option maxHeartbeats 400000 in
theorem clean0B (n : Nat) (w : World) (k : Int) (ng : Bool) (A : Option Addr) (a c u : Nat) (t : ByteArray) (K : Option Addr) (m d : Nat) (bs : List Nat) (hu : u < 18446744073709551616) (hA : ByteA w A a c bs) (hc : c ≤ 140737488355328) (ht : t.size ≤ 140737488355328) (hq : (k.tmod 10 + 10) % 10 = 6) (hn : n = 0) : Calls Tryz.prog 17 #[.agg #[.int .i64 k, .bool ng, .slice A a c, .int .u64 ((u : Nat) : Int), .string t, .slice K m d], .int .i64 (n : Int)] w (PostT n w) := by
  obtain ⟨w1, hw1, b1, r0, r1, hsz⟩ := two36 w #[.int .i64 k, .bool ng, .slice A a c, .int .u64 ((u : Nat) : Int), .string t, .slice K m d] zero36
  unfold zero36 at hw1 r1
  have R0 := Lib.hid r0
  have R1 := Lib.hid r1
  have HSZ := Lib.hid hsz
  have e0 := r0.cell 0 _ rfl
  have e1 := r0.cell 1 _ rfl
  have e2 := r0.cell 2 _ rfl
  have e3 := r0.cell 3 _ rfl
  have e4 := r0.cell 4 _ rfl
  have e5 := r0.cell 5 _ rfl
  obtain ⟨hr1, hr2⟩ := kd_rng k
  clear hsz r0 r1
  obtain ⟨f0, g0, f1, g1, f2, g2, f3, g3, f4, g4, f5, g5⟩ := facts36 R1.out (.int .i64 0) (.bool false) (.slice none 0 0) (.int .u64 0) (.string ⟨#[]⟩)
  obtain ⟨D, hD⟩ : ∃ D : Int, (n : Int) = D := ⟨_, rfl⟩
  rw [hD]
  have hn : D ≤ 0 := by omega
  clear hD
  go_enter Tryz.func17, Tryz.ntmps17
  go_wp2_with fail
  refine bodyPost_ret (ret_row (set36 _ _ _ _ _ _ R1.out) rfl _ _ rfl Tryz.underlying36 rfl i36) rfl ?_
  refine ⟨⟨0, false, [], 0, ⟨#[]⟩, []⟩, _, rfl, (by unfold VT.ok; exact ⟨by simp, by simp, .inl ⟨rfl, rfl, rfl, rfl, rfl, rfl⟩⟩), KK.low rfl (show (0 : Int) < 6 by decide), VC.flat _ _ _, below_grown' (g := w.heap.size + 1) b1 (set36_grown w1 (w.heap.size + 1) (.int .i64 0) (.bool false) (.slice none 0 0) (.int .u64 0) (.string ⟨#[]⟩) (.slice none 0 0)) (by omega)⟩
set_option maxHeartbeats 400000 in
theorem clean3A (n : Nat) (w : World) (k : Int) (ng : Bool) (A : Option Addr) (a c u : Nat) (t : ByteArray) (K : Option Addr) (m d : Nat) (bs : List Nat) (hu : u < 18446744073709551616) (hA : ByteA w A a c bs) (hc : c ≤ 140737488355328) (ht : t.size ≤ 140737488355328) (hq : (k.tmod 10 + 10) % 10 = 3) : Calls Tryz.prog 17 #[.agg #[.int .i64 k, .bool ng, .slice A a c, .int .u64 ((u : Nat) : Int), .string t, .slice K m d], .int .i64 (n : Int)] w (PostT n w) := by
  obtain ⟨w1, hw1, b1, r0, r1, hsz⟩ := two36 w #[.int .i64 k, .bool ng, .slice A a c, .int .u64 ((u : Nat) : Int), .string t, .slice K m d] zero36
  unfold zero36 at hw1 r1
  have R0 := Lib.hid r0
  have R1 := Lib.hid r1
  have HSZ := Lib.hid hsz
  have e0 := r0.cell 0 _ rfl
  have e1 := r0.cell 1 _ rfl
  have e2 := r0.cell 2 _ rfl
  have e3 := r0.cell 3 _ rfl
  have e4 := r0.cell 4 _ rfl
  have e5 := r0.cell 5 _ rfl
  obtain ⟨hr1, hr2⟩ := kd_rng k
  clear hsz r0 r1
  obtain ⟨f0, g0, f1, g1, f2, g2, f3, g3, f4, g4, f5, g5⟩ := facts36 R1.out (.int .i64 3) (.bool false) (.slice none 0 0) (.int .u64 (u : Int)) (.string ⟨#[]⟩)
  obtain ⟨D, hD⟩ : ∃ D : Int, (n : Int) = D := ⟨_, rfl⟩
  rw [hD]
  by_cases hn : D ≤ 0
  · clear hD
    go_enter Tryz.func17, Tryz.ntmps17
    go_wp2_with fail
    refine bodyPost_ret (ret_row (set36 _ _ _ _ _ _ R1.out) rfl _ _ rfl Tryz.underlying36 rfl i36) rfl ?_
    refine ⟨⟨3, false, [], u, ⟨#[]⟩, []⟩, _, rfl, (by unfold VT.ok; exact ⟨by simp, hu, .inr (.inr (.inr (.inl ⟨rfl, rfl, rfl, rfl, rfl⟩)))⟩), KK.low rfl (show (3 : Int) < 6 by decide), VC.flat _ _ _, below_grown' (g := w.heap.size + 1) b1 (set36_grown w1 (w.heap.size + 1) (.int .i64 3) (.bool false) (.slice none 0 0) (.int .u64 (u : Int)) (.string ⟨#[]⟩) (.slice none 0 0)) (by omega)⟩
  · have hn : 0 < D := by omega
    clear hD
    go_enter Tryz.func17, Tryz.ntmps17
    go_wp2_with fail
    refine bodyPost_ret (ret_row (set36 _ _ _ _ _ _ R1.out) rfl _ _ rfl Tryz.underlying36 rfl i36) rfl ?_
    refine ⟨⟨3, false, [], u, ⟨#[]⟩, []⟩, _, rfl, (by unfold VT.ok; exact ⟨by simp, hu, .inr (.inr (.inr (.inl ⟨rfl, rfl, rfl, rfl, rfl⟩)))⟩), KK.low rfl (show (3 : Int) < 6 by decide), VC.flat _ _ _, below_grown' (g := w.heap.size + 1) b1 (set36_grown w1 (w.heap.size + 1) (.int .i64 3) (.bool false) (.slice none 0 0) (.int .u64 (u : Int)) (.string ⟨#[]⟩) (.slice none 0 0)) (by omega)⟩
set_option maxHeartbeats 400000 in
theorem clean3B (n : Nat) (w : World) (k : Int) (ng : Bool) (A : Option Addr) (a c u : Nat) (t : ByteArray) (K : Option Addr) (m d : Nat) (bs : List Nat) (hu : u < 18446744073709551616) (hA : ByteA w A a c bs) (hc : c ≤ 140737488355328) (ht : t.size ≤ 140737488355328) (hq : (k.tmod 10 + 10) % 10 = 9) (hn : n = 0) : Calls Tryz.prog 17 #[.agg #[.int .i64 k, .bool ng, .slice A a c, .int .u64 ((u : Nat) : Int), .string t, .slice K m d], .int .i64 (n : Int)] w (PostT n w) := by
  obtain ⟨w1, hw1, b1, r0, r1, hsz⟩ := two36 w #[.int .i64 k, .bool ng, .slice A a c, .int .u64 ((u : Nat) : Int), .string t, .slice K m d] zero36
  unfold zero36 at hw1 r1
  have R0 := Lib.hid r0
  have R1 := Lib.hid r1
  have HSZ := Lib.hid hsz
  have e0 := r0.cell 0 _ rfl
  have e1 := r0.cell 1 _ rfl
  have e2 := r0.cell 2 _ rfl
  have e3 := r0.cell 3 _ rfl
  have e4 := r0.cell 4 _ rfl
  have e5 := r0.cell 5 _ rfl
  obtain ⟨hr1, hr2⟩ := kd_rng k
  clear hsz r0 r1
  obtain ⟨f0, g0, f1, g1, f2, g2, f3, g3, f4, g4, f5, g5⟩ := facts36 R1.out (.int .i64 3) (.bool false) (.slice none 0 0) (.int .u64 (u : Int)) (.string ⟨#[]⟩)
  obtain ⟨D, hD⟩ : ∃ D : Int, (n : Int) = D := ⟨_, rfl⟩
  rw [hD]
  have hn : D ≤ 0 := by omega
  clear hD
  go_enter Tryz.func17, Tryz.ntmps17
  go_wp2_with fail
  refine bodyPost_ret (ret_row (set36 _ _ _ _ _ _ R1.out) rfl _ _ rfl Tryz.underlying36 rfl i36) rfl ?_
  refine ⟨⟨3, false, [], u, ⟨#[]⟩, []⟩, _, rfl, (by unfold VT.ok; exact ⟨by simp, hu, .inr (.inr (.inr (.inl ⟨rfl, rfl, rfl, rfl, rfl⟩)))⟩), KK.low rfl (show (3 : Int) < 6 by decide), VC.flat _ _ _, below_grown' (g := w.heap.size + 1) b1 (set36_grown w1 (w.heap.size + 1) (.int .i64 3) (.bool false) (.slice none 0 0) (.int .u64 (u : Int)) (.string ⟨#[]⟩) (.slice none 0 0)) (by omega)⟩
set_option maxHeartbeats 400000 in
theorem clean4A (n : Nat) (w : World) (k : Int) (ng : Bool) (A : Option Addr) (a c u : Nat) (t : ByteArray) (K : Option Addr) (m d : Nat) (bs : List Nat) (hu : u < 18446744073709551616) (hA : ByteA w A a c bs) (hc : c ≤ 140737488355328) (ht : t.size ≤ 140737488355328) (hq : (k.tmod 10 + 10) % 10 = 4) : Calls Tryz.prog 17 #[.agg #[.int .i64 k, .bool ng, .slice A a c, .int .u64 ((u : Nat) : Int), .string t, .slice K m d], .int .i64 (n : Int)] w (PostT n w) := by
  obtain ⟨w1, hw1, b1, r0, r1, hsz⟩ := two36 w #[.int .i64 k, .bool ng, .slice A a c, .int .u64 ((u : Nat) : Int), .string t, .slice K m d] zero36
  unfold zero36 at hw1 r1
  have R0 := Lib.hid r0
  have R1 := Lib.hid r1
  have HSZ := Lib.hid hsz
  have e0 := r0.cell 0 _ rfl
  have e1 := r0.cell 1 _ rfl
  have e2 := r0.cell 2 _ rfl
  have e3 := r0.cell 3 _ rfl
  have e4 := r0.cell 4 _ rfl
  have e5 := r0.cell 5 _ rfl
  obtain ⟨hr1, hr2⟩ := kd_rng k
  clear hsz r0 r1
  obtain ⟨x, hx⟩ : ∃ x, x = min t.size 60 := ⟨_, rfl⟩
  have hx1 : min (t.size : Int) 60 = (x : Int) := by omega
  have hx2 : (x : Int) ≤ (t.size : Int) := by omega
  have hx3 : (t.extract 0 x).size ≤ 60 := by rw [ByteArray.size_extract]; omega
  clear hx
  obtain ⟨f0, g0, f1, g1, f2, g2, f3, g3, f4, g4, f5, g5⟩ := facts36 R1.out (.int .i64 4) (.bool false) (.slice none 0 0) (.int .u64 0) (.string (t.extract 0 x))
  obtain ⟨D, hD⟩ : ∃ D : Int, (n : Int) = D := ⟨_, rfl⟩
  rw [hD]
  by_cases hn : D ≤ 0
  · clear hD
    go_enter Tryz.func17, Tryz.ntmps17
    go_wp2_with fail
    refine bodyPost_ret (ret_row (set36 _ _ _ _ _ _ R1.out) rfl _ _ rfl Tryz.underlying36 rfl i36) rfl ?_
    refine ⟨⟨4, false, [], 0, t.extract 0 x, []⟩, _, rfl, (by unfold VT.ok; exact ⟨by simp, by simp, .inr (.inr (.inr (.inr (.inl ⟨.inl rfl, rfl, rfl, rfl, hx3, rfl⟩))))⟩), KK.low rfl (show (4 : Int) < 6 by decide), VC.flat _ _ _, below_grown' (g := w.heap.size + 1) b1 (set36_grown w1 (w.heap.size + 1) (.int .i64 4) (.bool false) (.slice none 0 0) (.int .u64 0) (.string (t.extract 0 x)) (.slice none 0 0)) (by omega)⟩
  · have hn : 0 < D := by omega
    clear hD
    go_enter Tryz.func17, Tryz.ntmps17
    go_wp2_with fail
    refine bodyPost_ret (ret_row (set36 _ _ _ _ _ _ R1.out) rfl _ _ rfl Tryz.underlying36 rfl i36) rfl ?_
    refine ⟨⟨4, false, [], 0, t.extract 0 x, []⟩, _, rfl, (by unfold VT.ok; exact ⟨by simp, by simp, .inr (.inr (.inr (.inr (.inl ⟨.inl rfl, rfl, rfl, rfl, hx3, rfl⟩))))⟩), KK.low rfl (show (4 : Int) < 6 by decide), VC.flat _ _ _, below_grown' (g := w.heap.size + 1) b1 (set36_grown w1 (w.heap.size + 1) (.int .i64 4) (.bool false) (.slice none 0 0) (.int .u64 0) (.string (t.extract 0 x)) (.slice none 0 0)) (by omega)⟩
set_option maxHeartbeats 400000 in
theorem clean5A (n : Nat) (w : World) (k : Int) (ng : Bool) (A : Option Addr) (a c u : Nat) (t : ByteArray) (K : Option Addr) (m d : Nat) (bs : List Nat) (hu : u < 18446744073709551616) (hA : ByteA w A a c bs) (hc : c ≤ 140737488355328) (ht : t.size ≤ 140737488355328) (hq : (k.tmod 10 + 10) % 10 = 5) : Calls Tryz.prog 17 #[.agg #[.int .i64 k, .bool ng, .slice A a c, .int .u64 ((u : Nat) : Int), .string t, .slice K m d], .int .i64 (n : Int)] w (PostT n w) := by
  obtain ⟨w1, hw1, b1, r0, r1, hsz⟩ := two36 w #[.int .i64 k, .bool ng, .slice A a c, .int .u64 ((u : Nat) : Int), .string t, .slice K m d] zero36
  unfold zero36 at hw1 r1
  have R0 := Lib.hid r0
  have R1 := Lib.hid r1
  have HSZ := Lib.hid hsz
  have e0 := r0.cell 0 _ rfl
  have e1 := r0.cell 1 _ rfl
  have e2 := r0.cell 2 _ rfl
  have e3 := r0.cell 3 _ rfl
  have e4 := r0.cell 4 _ rfl
  have e5 := r0.cell 5 _ rfl
  obtain ⟨hr1, hr2⟩ := kd_rng k
  clear hsz r0 r1
  obtain ⟨x, hx⟩ : ∃ x, x = min t.size 60 := ⟨_, rfl⟩
  have hx1 : min (t.size : Int) 60 = (x : Int) := by omega
  have hx2 : (x : Int) ≤ (t.size : Int) := by omega
  have hx3 : (t.extract 0 x).size ≤ 60 := by rw [ByteArray.size_extract]; omega
  clear hx
  obtain ⟨f0, g0, f1, g1, f2, g2, f3, g3, f4, g4, f5, g5⟩ := facts36 R1.out (.int .i64 5) (.bool false) (.slice none 0 0) (.int .u64 0) (.string (t.extract 0 x))
  obtain ⟨D, hD⟩ : ∃ D : Int, (n : Int) = D := ⟨_, rfl⟩
  rw [hD]
  by_cases hn : D ≤ 0
  · clear hD
    go_enter Tryz.func17, Tryz.ntmps17
    go_wp2_with fail
    refine bodyPost_ret (ret_row (set36 _ _ _ _ _ _ R1.out) rfl _ _ rfl Tryz.underlying36 rfl i36) rfl ?_
    refine ⟨⟨5, false, [], 0, t.extract 0 x, []⟩, _, rfl, (by unfold VT.ok; exact ⟨by simp, by simp, .inr (.inr (.inr (.inr (.inl ⟨.inr rfl, rfl, rfl, rfl, hx3, rfl⟩))))⟩), KK.low rfl (show (5 : Int) < 6 by decide), VC.flat _ _ _, below_grown' (g := w.heap.size + 1) b1 (set36_grown w1 (w.heap.size + 1) (.int .i64 5) (.bool false) (.slice none 0 0) (.int .u64 0) (.string (t.extract 0 x)) (.slice none 0 0)) (by omega)⟩
  · have hn : 0 < D := by omega
    clear hD
    go_enter Tryz.func17, Tryz.ntmps17
    go_wp2_with fail
    refine bodyPost_ret (ret_row (set36 _ _ _ _ _ _ R1.out) rfl _ _ rfl Tryz.underlying36 rfl i36) rfl ?_
    refine ⟨⟨5, false, [], 0, t.extract 0 x, []⟩, _, rfl, (by unfold VT.ok; exact ⟨by simp, by simp, .inr (.inr (.inr (.inr (.inl ⟨.inr rfl, rfl, rfl, rfl, hx3, rfl⟩))))⟩), KK.low rfl (show (5 : Int) < 6 by decide), VC.flat _ _ _, below_grown' (g := w.heap.size + 1) b1 (set36_grown w1 (w.heap.size + 1) (.int .i64 5) (.bool false) (.slice none 0 0) (.int .u64 0) (.string (t.extract 0 x)) (.slice none 0 0)) (by omega)⟩
set_option maxHeartbeats 400000 in
theorem clean1At (n : Nat) (w : World) (k : Int) (ng : Bool) (A : Option Addr) (a c u : Nat) (t : ByteArray) (K : Option Addr) (m d : Nat) (bs : List Nat) (hu : u < 18446744073709551616) (hA : ByteA w A a c bs) (hc : c ≤ 140737488355328) (ht : t.size ≤ 140737488355328) (hq : (k.tmod 10 + 10) % 10 = 1) (hb1 : bits .and .u64 (u : Int) 1 = 1) : Calls Tryz.prog 17 #[.agg #[.int .i64 k, .bool ng, .slice A a c, .int .u64 ((u : Nat) : Int), .string t, .slice K m d], .int .i64 (n : Int)] w (PostT n w) := by
  obtain ⟨w1, hw1, b1, r0, r1, hsz⟩ := two36 w #[.int .i64 k, .bool ng, .slice A a c, .int .u64 ((u : Nat) : Int), .string t, .slice K m d] zero36
  unfold zero36 at hw1 r1
  have R0 := Lib.hid r0
  have R1 := Lib.hid r1
  have HSZ := Lib.hid hsz
  have e0 := r0.cell 0 _ rfl
  have e1 := r0.cell 1 _ rfl
  have e2 := r0.cell 2 _ rfl
  have e3 := r0.cell 3 _ rfl
  have e4 := r0.cell 4 _ rfl
  have e5 := r0.cell 5 _ rfl
  obtain ⟨hr1, hr2⟩ := kd_rng k
  clear hsz r0 r1
  have H37 := Lib.hid (fun W => c37 true W)
  obtain ⟨D, hD⟩ : ∃ D : Int, (n : Int) = D := ⟨_, rfl⟩
  rw [hD]
  by_cases hn : D ≤ 0
  · clear hD
    go_enter Tryz.func17, Tryz.ntmps17
    go_wp2_with fail
    clear hw1
    refine (H37.out _).mono ?_
    rintro e w2 ⟨rfl, hB2⟩
    have b2 := below_trans' b1 hB2
    have r2 := R1.out.below hB2
    obtain ⟨f0, g0, f1, g1, f2, g2, f3, g3, f4, g4, f5, g5⟩ := facts36 r2 (.int .i64 1) (.bool false) (.slice none 0 0) (.int .u64 1) (.string ⟨#[]⟩)
    go_wp2_with fail
    refine bodyPost_ret (ret_row (set36 _ _ _ _ _ _ r2) rfl _ _ rfl Tryz.underlying36 rfl i36) rfl ?_
    refine ⟨⟨1, false, [], 1, ⟨#[]⟩, []⟩, _, rfl, (by unfold VT.ok; exact ⟨by simp, by decide, .inr (.inl ⟨rfl, rfl, rfl, by decide, rfl, rfl⟩)⟩), KK.low rfl (show (1 : Int) < 6 by decide), VC.flat _ _ _, below_grown' (g := w.heap.size + 1) b2 (set36_grown w2 (w.heap.size + 1) (.int .i64 1) (.bool false) (.slice none 0 0) (.int .u64 1) (.string ⟨#[]⟩) (.slice none 0 0)) (by omega)⟩
  · have hn : 0 < D := by omega
    clear hD
    go_enter Tryz.func17, Tryz.ntmps17
    go_wp2_with fail
    clear hw1
    refine (H37.out _).mono ?_
    rintro e w2 ⟨rfl, hB2⟩
    have b2 := below_trans' b1 hB2
    have r2 := R1.out.below hB2
    obtain ⟨f0, g0, f1, g1, f2, g2, f3, g3, f4, g4, f5, g5⟩ := facts36 r2 (.int .i64 1) (.bool false) (.slice none 0 0) (.int .u64 1) (.string ⟨#[]⟩)
    go_wp2_with fail
    refine bodyPost_ret (ret_row (set36 _ _ _ _ _ _ r2) rfl _ _ rfl Tryz.underlying36 rfl i36) rfl ?_
    refine ⟨⟨1, false, [], 1, ⟨#[]⟩, []⟩, _, rfl, (by unfold VT.ok; exact ⟨by simp, by decide, .inr (.inl ⟨rfl, rfl, rfl, by decide, rfl, rfl⟩)⟩), KK.low rfl (show (1 : Int) < 6 by decide), VC.flat _ _ _, below_grown' (g := w.heap.size + 1) b2 (set36_grown w2 (w.heap.size + 1) (.int .i64 1) (.bool false) (.slice none 0 0) (.int .u64 1) (.string ⟨#[]⟩) (.slice none 0 0)) (by omega)⟩
set_option maxHeartbeats 400000 in
theorem clean1Bt (n : Nat) (w : World) (k : Int) (ng : Bool) (A : Option Addr) (a c u : Nat) (t : ByteArray) (K : Option Addr) (m d : Nat) (bs : List Nat) (hu : u < 18446744073709551616) (hA : ByteA w A a c bs) (hc : c ≤ 140737488355328) (ht : t.size ≤ 140737488355328) (hq : (k.tmod 10 + 10) % 10 = 7) (hn : n = 0) (hb1 : bits .and .u64 (u : Int) 1 = 1) : Calls Tryz.prog 17 #[.agg #[.int .i64 k, .bool ng, .slice A a c, .int .u64 ((u : Nat) : Int), .string t, .slice K m d], .int .i64 (n : Int)] w (PostT n w) := by
  obtain ⟨w1, hw1, b1, r0, r1, hsz⟩ := two36 w #[.int .i64 k, .bool ng, .slice A a c, .int .u64 ((u : Nat) : Int), .string t, .slice K m d] zero36
  unfold zero36 at hw1 r1
  have R0 := Lib.hid r0
  have R1 := Lib.hid r1
  have HSZ := Lib.hid hsz
  have e0 := r0.cell 0 _ rfl
  have e1 := r0.cell 1 _ rfl
  have e2 := r0.cell 2 _ rfl
  have e3 := r0.cell 3 _ rfl
  have e4 := r0.cell 4 _ rfl
  have e5 := r0.cell 5 _ rfl
  obtain ⟨hr1, hr2⟩ := kd_rng k
  clear hsz r0 r1
  have H37 := Lib.hid (fun W => c37 true W)
  obtain ⟨D, hD⟩ : ∃ D : Int, (n : Int) = D := ⟨_, rfl⟩
  rw [hD]
  have hn : D ≤ 0 := by omega
  clear hD
  go_enter Tryz.func17, Tryz.ntmps17
  go_wp2_with fail
  clear hw1
  refine (H37.out _).mono ?_
  rintro e w2 ⟨rfl, hB2⟩
  have b2 := below_trans' b1 hB2
  have r2 := R1.out.below hB2
  obtain ⟨f0, g0, f1, g1, f2, g2, f3, g3, f4, g4, f5, g5⟩ := facts36 r2 (.int .i64 1) (.bool false) (.slice none 0 0) (.int .u64 1) (.string ⟨#[]⟩)
  go_wp2_with fail
  refine bodyPost_ret (ret_row (set36 _ _ _ _ _ _ r2) rfl _ _ rfl Tryz.underlying36 rfl i36) rfl ?_
  refine ⟨⟨1, false, [], 1, ⟨#[]⟩, []⟩, _, rfl, (by unfold VT.ok; exact ⟨by simp, by decide, .inr (.inl ⟨rfl, rfl, rfl, by decide, rfl, rfl⟩)⟩), KK.low rfl (show (1 : Int) < 6 by decide), VC.flat _ _ _, below_grown' (g := w.heap.size + 1) b2 (set36_grown w2 (w.heap.size + 1) (.int .i64 1) (.bool false) (.slice none 0 0) (.int .u64 1) (.string ⟨#[]⟩) (.slice none 0 0)) (by omega)⟩
set_option maxHeartbeats 400000 in
theorem clean1Af (n : Nat) (w : World) (k : Int) (ng : Bool) (A : Option Addr) (a c u : Nat) (t : ByteArray) (K : Option Addr) (m d : Nat) (bs : List Nat) (hu : u < 18446744073709551616) (hA : ByteA w A a c bs) (hc : c ≤ 140737488355328) (ht : t.size ≤ 140737488355328) (hq : (k.tmod 10 + 10) % 10 = 1) (hb1 : bits .and .u64 (u : Int) 1 = 0) : Calls Tryz.prog 17 #[.agg #[.int .i64 k, .bool ng, .slice A a c, .int .u64 ((u : Nat) : Int), .string t, .slice K m d], .int .i64 (n : Int)] w (PostT n w) := by
  obtain ⟨w1, hw1, b1, r0, r1, hsz⟩ := two36 w #[.int .i64 k, .bool ng, .slice A a c, .int .u64 ((u : Nat) : Int), .string t, .slice K m d] zero36
  unfold zero36 at hw1 r1
  have R0 := Lib.hid r0
  have R1 := Lib.hid r1
  have HSZ := Lib.hid hsz
  have e0 := r0.cell 0 _ rfl
  have e1 := r0.cell 1 _ rfl
  have e2 := r0.cell 2 _ rfl
  have e3 := r0.cell 3 _ rfl
  have e4 := r0.cell 4 _ rfl
  have e5 := r0.cell 5 _ rfl
  obtain ⟨hr1, hr2⟩ := kd_rng k
  clear hsz r0 r1
  have H37 := Lib.hid (fun W => c37 false W)
  obtain ⟨D, hD⟩ : ∃ D : Int, (n : Int) = D := ⟨_, rfl⟩
  rw [hD]
  by_cases hn : D ≤ 0
  · clear hD
    go_enter Tryz.func17, Tryz.ntmps17
    go_wp2_with fail
    clear hw1
    refine (H37.out _).mono ?_
    rintro e w2 ⟨rfl, hB2⟩
    have b2 := below_trans' b1 hB2
    have r2 := R1.out.below hB2
    obtain ⟨f0, g0, f1, g1, f2, g2, f3, g3, f4, g4, f5, g5⟩ := facts36 r2 (.int .i64 1) (.bool false) (.slice none 0 0) (.int .u64 0) (.string ⟨#[]⟩)
    go_wp2_with fail
    refine bodyPost_ret (ret_row (set36 _ _ _ _ _ _ r2) rfl _ _ rfl Tryz.underlying36 rfl i36) rfl ?_
    refine ⟨⟨1, false, [], 0, ⟨#[]⟩, []⟩, _, rfl, (by unfold VT.ok; exact ⟨by simp, by decide, .inr (.inl ⟨rfl, rfl, rfl, by decide, rfl, rfl⟩)⟩), KK.low rfl (show (1 : Int) < 6 by decide), VC.flat _ _ _, below_grown' (g := w.heap.size + 1) b2 (set36_grown w2 (w.heap.size + 1) (.int .i64 1) (.bool false) (.slice none 0 0) (.int .u64 0) (.string ⟨#[]⟩) (.slice none 0 0)) (by omega)⟩
  · have hn : 0 < D := by omega
    clear hD
    go_enter Tryz.func17, Tryz.ntmps17
    go_wp2_with fail
    clear hw1
    refine (H37.out _).mono ?_
    rintro e w2 ⟨rfl, hB2⟩
    have b2 := below_trans' b1 hB2
    have r2 := R1.out.below hB2
    obtain ⟨f0, g0, f1, g1, f2, g2, f3, g3, f4, g4, f5, g5⟩ := facts36 r2 (.int .i64 1) (.bool false) (.slice none 0 0) (.int .u64 0) (.string ⟨#[]⟩)
    go_wp2_with fail
    refine bodyPost_ret (ret_row (set36 _ _ _ _ _ _ r2) rfl _ _ rfl Tryz.underlying36 rfl i36) rfl ?_
    refine ⟨⟨1, false, [], 0, ⟨#[]⟩, []⟩, _, rfl, (by unfold VT.ok; exact ⟨by simp, by decide, .inr (.inl ⟨rfl, rfl, rfl, by decide, rfl, rfl⟩)⟩), KK.low rfl (show (1 : Int) < 6 by decide), VC.flat _ _ _, below_grown' (g := w.heap.size + 1) b2 (set36_grown w2 (w.heap.size + 1) (.int .i64 1) (.bool false) (.slice none 0 0) (.int .u64 0) (.string ⟨#[]⟩) (.slice none 0 0)) (by omega)⟩
set_option maxHeartbeats 400000 in
theorem clean1Bf (n : Nat) (w : World) (k : Int) (ng : Bool) (A : Option Addr) (a c u : Nat) (t : ByteArray) (K : Option Addr) (m d : Nat) (bs : List Nat) (hu : u < 18446744073709551616) (hA : ByteA w A a c bs) (hc : c ≤ 140737488355328) (ht : t.size ≤ 140737488355328) (hq : (k.tmod 10 + 10) % 10 = 7) (hn : n = 0) (hb1 : bits .and .u64 (u : Int) 1 = 0) : Calls Tryz.prog 17 #[.agg #[.int .i64 k, .bool ng, .slice A a c, .int .u64 ((u : Nat) : Int), .string t, .slice K m d], .int .i64 (n : Int)] w (PostT n w) := by
  obtain ⟨w1, hw1, b1, r0, r1, hsz⟩ := two36 w #[.int .i64 k, .bool ng, .slice A a c, .int .u64 ((u : Nat) : Int), .string t, .slice K m d] zero36
  unfold zero36 at hw1 r1
  have R0 := Lib.hid r0
  have R1 := Lib.hid r1
  have HSZ := Lib.hid hsz
  have e0 := r0.cell 0 _ rfl
  have e1 := r0.cell 1 _ rfl
  have e2 := r0.cell 2 _ rfl
  have e3 := r0.cell 3 _ rfl
  have e4 := r0.cell 4 _ rfl
  have e5 := r0.cell 5 _ rfl
  obtain ⟨hr1, hr2⟩ := kd_rng k
  clear hsz r0 r1
  have H37 := Lib.hid (fun W => c37 false W)
  obtain ⟨D, hD⟩ : ∃ D : Int, (n : Int) = D := ⟨_, rfl⟩
  rw [hD]
  have hn : D ≤ 0 := by omega
  clear hD
  go_enter Tryz.func17, Tryz.ntmps17
  go_wp2_with fail
  clear hw1
  refine (H37.out _).mono ?_
  rintro e w2 ⟨rfl, hB2⟩
  have b2 := below_trans' b1 hB2
  have r2 := R1.out.below hB2
  obtain ⟨f0, g0, f1, g1, f2, g2, f3, g3, f4, g4, f5, g5⟩ := facts36 r2 (.int .i64 1) (.bool false) (.slice none 0 0) (.int .u64 0) (.string ⟨#[]⟩)
  go_wp2_with fail
  refine bodyPost_ret (ret_row (set36 _ _ _ _ _ _ r2) rfl _ _ rfl Tryz.underlying36 rfl i36) rfl ?_
  refine ⟨⟨1, false, [], 0, ⟨#[]⟩, []⟩, _, rfl, (by unfold VT.ok; exact ⟨by simp, by decide, .inr (.inl ⟨rfl, rfl, rfl, by decide, rfl, rfl⟩)⟩), KK.low rfl (show (1 : Int) < 6 by decide), VC.flat _ _ _, below_grown' (g := w.heap.size + 1) b2 (set36_grown w2 (w.heap.size + 1) (.int .i64 1) (.bool false) (.slice none 0 0) (.int .u64 0) (.string ⟨#[]⟩) (.slice none 0 0)) (by omega)⟩
end Go.Proofs.YtpfihjkhgfoijaaGreatDoor

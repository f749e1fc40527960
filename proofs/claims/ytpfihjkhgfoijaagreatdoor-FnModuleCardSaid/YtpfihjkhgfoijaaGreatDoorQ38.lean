/- laws: toldName, toldVal, toldSame, toldNames. -/
import Derived.Test.YtpfihjkhgfoijaaGreatDoorQ31
import Derived.Test.YtpfihjkhgfoijaaGreatDoorQ37
import Derived.Test.YtpfihjkhgfoijaaGreatDoorQ13
import Derived.Test.YtpfihjkhgfoijaaGreatDoorQ33
set_option linter.unusedVariables false
set_option linter.unusedSimpArgs false
set_option maxRecDepth 100000
namespace Go.Proofs.YtpfihjkhgfoijaaGreatDoor
open Go.RowKit

def NameP (w : World) (e : Ending) (w' : World) : Prop := ∃ nm, e = .returned (.string nm) ∧ NmOk nm ∧ w = w'
theorem NmOk.snoc {a b : ByteArray} (h : NmOk a) (h7 : a.size < 8) (hb : b.size = 1) : NmOk (a ++ b) := by
  refine ⟨by rw [ByteArray.size_append]; omega, ?_⟩
  have h2 := h.2
  rw [ByteArray.data_append, Array.toList_append, List.head?_append, h2]; rfl
set_option maxHeartbeats 1000000 in
theorem c4 (s : ByteArray) (hs : s.size ≤ 9223372036854775806) (w : World) : Calls Tryz.prog 4 #[.string s] w (NameP w) := by
  go_enter Tryz.func4, Tryz.ntmps4
  go_wp2_with fail
  go_loop [3, 4] (fun v i => ∃ (out : ByteArray) (k : Nat), k ≤ s.size ∧ v = .string out ∧ i = .int .i64 (k : Int) ∧ Hid (NmOk out)) (fun _ i => s.size - (intOf i).toNat)
  case atStart => exact ⟨_, 0, by omega, rfl, rfl, ⟨by decide, by decide⟩⟩
  case round =>
    obtain ⟨out, k, hk, rfl, rfl, hN⟩ := hrel
    by_cases hlt : k < s.size
    · by_cases h8 : out.size < 8
      · have hx : (s.extract k (k + 1)).size = 1 := by rw [ByteArray.size_extract]; omega
        have hc := fun W => run_string_add_sum (P := Tryz.prog) W out (s.extract k (k + 1)) (by omega)
        have HN := Lib.hid (hN.out.snoc h8 hx)
        have HX := Lib.hid hx
        clear hx
        go_wp2_with fail
        all_goals
          go_round
          case rel => first | exact ⟨_, k + 1, by omega, rfl, by go_num, HN.out⟩ | exact ⟨_, k + 1, by omega, rfl, by go_num, hN.out⟩
          case measure => simp [intOf]; omega
      · go_wp2_with fail
        go_ret
        exact ⟨_, rfl, hN.out, rfl⟩
    · go_wp2_with fail
      go_ret
      exact ⟨_, rfl, hN.out, rfl⟩
theorem SizeC_3 : SizeC 3 := c19 3 (by omega) fun m h => by
  cases h
  exact c19 2 (by omega) fun m h => by
    cases h
    exact c19 1 (by omega) fun m h => by
      cases h
      exact c19 0 (by omega) fun m h => by omega
def ToldV (w : World) (e : Ending) (w' : World) : Prop :=
  ∃ t cs', e = .returned (.agg cs') ∧ GoodT t ∧ VC 3 (blks w.heap.size w'.heap.size) w' t cs' ∧ Below w.heap.size w w'
theorem VC.told {w w' W : World} {r : Nat} {t : VT} {cs : Array Value} (h : VC 3 (blks r w'.heap.size) w' t cs) (hr : w.heap.size ≤ r) (hW : ∀ k, r ≤ k → k < w'.heap.size → W.heap[k]? = w'.heap[k]?) (hs : w'.heap.size ≤ W.heap.size) : VC 3 (blks w.heap.size W.heap.size) W t cs :=
  (h.agree fun k hk => hW k hk.1 hk.2).mono fun k hk => ⟨by have := hk.1; omega, by have := hk.2; omega⟩
theorem good_x : GoodT ⟨4, false, [], 0, ⟨#[120]⟩, []⟩ := by
  refine ⟨?_, KK.low rfl (by decide), ⟨fun h => absurd h (by decide), fun h => absurd h (by decide), fun k hk => by cases hk⟩⟩
  unfold VT.ok
  exact ⟨by simp, by decide, .inr (.inr (.inr (.inr (.inl ⟨.inl rfl, rfl, rfl, rfl, by decide, rfl⟩))))⟩
set_option maxHeartbeats 4000000 in
theorem c8 (cs : Array Value) (w : World) (hI : IV 3 w cs) : Calls Tryz.prog 8 #[.agg cs] w (ToldV w) := by
  have hI' := hI
  obtain ⟨k, ng, A, a, c, u, tx, K, m, d, bs, rfl, -⟩ := hI'
  obtain ⟨w1, hw1, b1, r1, rr1, s1⟩ : ∃ w1, (w.alloc (.cells #[.int .i64 k, .bool ng, .slice A a c, .int .u64 ((u : Nat) : Int), .string tx, .slice K m d] 36)).alloc (.cells #[.int .i64 0, .bool false, .slice none 0 0, .int .u64 0, .string ⟨#[]⟩, .slice none 0 0] 36) = w1 ∧ Below w.heap.size w w1 ∧ RowB w1 w.heap.size #[.int .i64 k, .bool ng, .slice A a c, .int .u64 ((u : Nat) : Int), .string tx, .slice K m d] 36 ∧ RowB w1 (w.heap.size + 1) #[.int .i64 0, .bool false, .slice none 0 0, .int .u64 0, .string ⟨#[]⟩, .slice none 0 0] 36 ∧ w1.heap.size = w.heap.size + 1 + 1 :=
    ⟨_, rfl, below_alloc' (below_alloc' (Below.refl _ _) _) _, (RowB.new w _ _).alloc _, by
      have := RowB.new (w.alloc (.cells #[.int .i64 k, .bool ng, .slice A a c, .int .u64 ((u : Nat) : Int), .string tx, .slice K m d] 36)) #[.int .i64 0, .bool false, .slice none 0 0, .int .u64 0, .string ⟨#[]⟩, .slice none 0 0] 36
      rw [alloc_size] at this; exact this, by rw [alloc_size, alloc_size]⟩
  have H17 := Lib.hid (CleanC_le 3 (by omega) w1 _ (hI.below b1))
  have e0 := r1.cell 0 _ rfl
  have e1 := r1.cell 1 _ rfl
  have e2 := r1.cell 2 _ rfl
  have e3 := r1.cell 3 _ rfl
  have e4 := r1.cell 4 _ rfl
  have e5 := r1.cell 5 _ rfl
  have R1 := Lib.hid r1
  have RR1 := Lib.hid rr1
  clear hI r1 rr1
  go_enter Tryz.func8, Tryz.ntmps8
  go_wp2_with fail
  clear hw1
  refine H17.out.mono ?_
  rintro e w2 ⟨t, cs2, rfl, hok, hkk, hV, hB2⟩
  obtain ⟨A2, a2, c2, K2, m2, d2, rfl, _⟩ := hV.head
  have hs2 := hB2.size
  have r2 := R1.out.below hB2
  have rr2 := RR1.out.below hB2
  obtain ⟨f0, k0, f1, k1, f2, k2, f3, k3, f4, k4, f5, k5⟩ := facts36 r2 (.int .i64 t.kind) (.bool t.neg) (.slice A2 a2 c2) (.int .u64 (t.bits : Int)) (.string t.text)
  obtain ⟨w3, hw3, r3, g3⟩ : ∃ w3, set36W w2 w.heap.size (.int .i64 t.kind) (.bool t.neg) (.slice A2 a2 c2) (.int .u64 (t.bits : Int)) (.string t.text) (.slice K2 m2 d2) = w3 ∧ RowB w3 w.heap.size #[.int .i64 t.kind, .bool t.neg, .slice A2 a2 c2, .int .u64 (t.bits : Int), .string t.text, .slice K2 m2 d2] 36 ∧ w2.grownBy w3 (some w.heap.size) :=
    ⟨_, rfl, set36 _ _ _ _ _ _ r2, set36_grown _ _ _ _ _ _ _ _⟩
  unfold set36W at hw3
  have hs3 := g3.size
  have hV3 := hV.agree (W := w3) fun k hk => g3.block k hk.2 (by have := hk.1; simp; omega)
  have HB3 : Hid (Below w.heap.size w w3) := below_grown' (below_trans' b1 hB2) g3 (Nat.le_refl _)
  have rr3 := rr2.grown g3 (by omega)
  have H18 := Lib.hid (MakeC_all 3 w3 t _ _ hV3 hok hkk (fun k hk => by have := hk.2; omega))
  have n0 := r3.cell 0 _ rfl
  have n1 := r3.cell 1 _ rfl
  have n2 := r3.cell 2 _ rfl
  have n3 := r3.cell 3 _ rfl
  have n4 := r3.cell 4 _ rfl
  have n5 := r3.cell 5 _ rfl
  have HV3 := Lib.hid hV3
  have HOK := Lib.hid hok
  have HKK := Lib.hid hkk
  have R3 := Lib.hid r3
  have RR3 := Lib.hid rr3
  clear hV hV3 hok hkk r2 rr2 r3 rr3 g3 H17 hB2
  go_wp2_with fail
  clear hw3 f0 k0 f1 k1 f2 k2 f3 k3 f4 k4 f5 k5
  refine H18.out.mono ?_
  rintro e w4 ⟨r, rfl, hmk, hB4⟩
  have hs4 := hB4.size
  have r4 := R3.out.below hB4
  have rr4 := RR3.out.below hB4
  have HV4 := Lib.hid (HV3.out.below hB4 (fun k hk => by have := hk.2; omega))
  have HB4 := Lib.hid (below_trans' HB3.out hB4)
  have R4 := Lib.hid r4
  have RR4 := Lib.hid rr4
  have n0 := r4.cell 0 _ rfl
  have n1 := r4.cell 1 _ rfl
  have n2 := r4.cell 2 _ rfl
  have n3 := r4.cell 3 _ rfl
  have n4 := r4.cell 4 _ rfl
  have n5 := r4.cell 5 _ rfl
  clear r4 rr4 hB4 H18
  cases r with
  | false =>
    have H20 := Lib.hid (c20 ⟨#[120]⟩ w4)
    go_wp2_with fail
    refine H20.out.mono ?_
    rintro e w5 ⟨rfl, hB5⟩
    have hs5 := hB5.size
    have rr5 := RR4.out.below hB5
    obtain ⟨f0, k0, f1, k1, f2, k2, f3, k3, f4, k4, f5, k5⟩ := facts36 rr5 (.int .i64 4) (.bool false) (.slice none 0 0) (.int .u64 0) (.string ⟨#[120]⟩)
    have RR5 := Lib.hid rr5
    have HB5 := Lib.hid hB5
    clear rr5 hB5 H20
    go_wp2_with fail
    refine bodyPost_ret (ret_row (set36 _ _ _ _ _ _ RR5.out) rfl _ _ rfl Tryz.underlying36 rfl i36) rfl ?_
    have g6 := set36_grown w5 (w.heap.size + 1) (.int .i64 4) (.bool false) (.slice none 0 0) (.int .u64 0) (.string ⟨#[120]⟩) (.slice none 0 0)
    exact ⟨⟨4, false, [], 0, ⟨#[120]⟩, []⟩, _, rfl, good_x, VC.flat 4 0 _, below_grown' (below_trans' HB4.out HB5.out) g6 (by omega)⟩
  | true =>
    have HMK := Lib.hid (hmk rfl)
    have H19 := Lib.hid (SizeC_3 w4 t _ _ 60 HV4.out HOK.out (fun k hk => by have := hk.2; omega) (by decide) (by decide))
    clear hmk
    go_wp2_with fail
    refine H19.out.mono ?_
    rintro e w5 ⟨sz, rfl, hsz, hB5⟩
    have hs5 := hB5.size
    clear H19 hsz
    by_cases h60 : 60 ≤ sz
    · have q1 : (60 : Int) ≤ (sz : Int) := by omega
      have H20 := Lib.hid (c20 ⟨#[120]⟩ w5)
      have HB45 := Lib.hid hB5
      clear hB5
      go_wp2_with fail
      refine H20.out.mono ?_
      rintro e w6 ⟨rfl, hB6⟩
      have hB5 := below_trans' HB45.out hB6
      clear hB6
      have hs5 := hB5.size
      have rr5 := RR4.out.below hB5
      obtain ⟨f0, k0, f1, k1, f2, k2, f3, k3, f4, k4, f5, k5⟩ := facts36 rr5 (.int .i64 4) (.bool false) (.slice none 0 0) (.int .u64 0) (.string ⟨#[120]⟩)
      have RR5 := Lib.hid rr5
      have HB5 := Lib.hid hB5
      clear rr5 hB5 H20
      go_wp2_with fail
      refine bodyPost_ret (ret_row (set36 _ _ _ _ _ _ RR5.out) rfl _ _ rfl Tryz.underlying36 rfl i36) rfl ?_
      have g6 := set36_grown w6 (w.heap.size + 1) (.int .i64 4) (.bool false) (.slice none 0 0) (.int .u64 0) (.string ⟨#[120]⟩) (.slice none 0 0)
      exact ⟨⟨4, false, [], 0, ⟨#[120]⟩, []⟩, _, rfl, good_x, VC.flat 4 0 _, below_grown' (below_trans' HB4.out HB5.out) g6 (by omega)⟩
    · have q1 : ¬ (60 : Int) ≤ (sz : Int) := by omega
      have r5 := R4.out.below hB5
      have rr5 := RR4.out.below hB5
      have n0 := r5.cell 0 _ rfl
      have n1 := r5.cell 1 _ rfl
      have n2 := r5.cell 2 _ rfl
      have n3 := r5.cell 3 _ rfl
      have n4 := r5.cell 4 _ rfl
      have n5 := r5.cell 5 _ rfl
      obtain ⟨f0, k0, f1, k1, f2, k2, f3, k3, f4, k4, f5, k5⟩ := facts36 rr5 (.int .i64 t.kind) (.bool t.neg) (.slice A2 a2 c2) (.int .u64 (t.bits : Int)) (.string t.text)
      have RR5 := Lib.hid rr5
      have HB5 := Lib.hid hB5
      clear r5 rr5 hB5
      go_wp2_with fail
      refine bodyPost_ret (ret_row (set36 _ _ _ _ _ _ RR5.out) rfl _ _ rfl Tryz.underlying36 rfl i36) rfl ?_
      have g6 := set36_grown w5 (w.heap.size + 1) (.int .i64 t.kind) (.bool t.neg) (.slice A2 a2 c2) (.int .u64 (t.bits : Int)) (.string t.text) (.slice K2 m2 d2)
      have hs6 := g6.size
      have hV5 := HV4.out.below HB5.out (fun k hk => by have := hk.2; omega)
      refine ⟨t, _, rfl, ⟨HOK.out, HKK.out, HMK.out⟩, (hV5.agree fun k hk => g6.block k (by have := hk.2; omega) (by have := hk.1; simp; omega)).mono fun k hk => ⟨by have := hk.1; omega, by have := hk.2; exact Nat.lt_of_lt_of_le (by omega) hs6⟩, below_grown' (below_trans' HB4.out HB5.out) g6 (by omega)⟩
/-- two rows of the same names -/
theorem c14 (K K' : Option Addr) (g g' m d d' : Nat) (ns : Nat → ByteArray) (w : World) (hK : m = 0 ∨ K = some ⟨g, 0, none⟩) (hK' : m = 0 ∨ K' = some ⟨g', 0, none⟩) (hm : m ≤ 1000) (hc : ∀ i, i < m → w.cell? ⟨g, i, none⟩ = some (.string (ns i))) (hc' : ∀ i, i < m → w.cell? ⟨g', i, none⟩ = some (.string (ns i))) :
    Calls Tryz.prog 14 #[.slice K m d, .slice K' m d'] w fun e w' => e = .returned (.bool true) ∧ w = w' := by
  have HC := Lib.hid hc
  have HC' := Lib.hid hc'
  clear hc hc'
  go_enter Tryz.func14, Tryz.ntmps14
  go_wp2_with fail
  go_loop [14] (fun vi => ∃ (i : Nat), i ≤ m ∧ vi = .int .i64 (i : Int)) (fun vi => m - (intOf vi).toNat)
  case atStart => exact ⟨0, by omega, rfl⟩
  case round =>
    obtain ⟨i, hi, rfl⟩ := hrel
    by_cases hlt : i < m
    · obtain rfl := hK.resolve_left (by omega)
      obtain rfl := hK'.resolve_left (by omega)
      have k0 := HC.out i hlt
      have k1 := HC'.out i hlt
      have q1 : (i : Int) < (m : Int) := by omega
      generalize ns i = s at k0 k1
      go_wp2_with fail
      go_round
      case rel => exact ⟨i + 1, by omega, by go_num⟩
      case measure => simp [intOf]; omega
    · obtain rfl : i = m := by omega
      have q1 : ¬ (i : Int) < (i : Int) := by omega
      go_wp2_with fail
      go_ret
      exact ⟨rfl, rfl⟩
end Go.Proofs.YtpfihjkhgfoijaaGreatDoor

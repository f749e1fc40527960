/- Contracts of spec.CmpFloats, spec.number; Contracts of spec.number, spec.cmpNumbers; Contract of spec.Equal on keys; Contract of spec.Hashable, both ways; of spec.Makes. -/
import Derived.Outline
import Derived.Test.YtpfihjkhgfoijaaGreatDoorQ19
import Derived.Test.YtpfihjkhgfoijaaGreatDoorQ13
set_option linter.unusedVariables false
set_option linter.unusedSimpArgs false
set_option maxRecDepth 100000
namespace Go.Proofs.YtpfihjkhgfoijaaGreatDoor
open Go.RowKit

set_option maxHeartbeats 2000000 in
theorem c131 (u v : Nat) (w : World) : Calls Tryz.prog 131 #[.float .f64 u, .float .f64 v] w (PostC (fEq u v = true) w) := by
  have Hu := Lib.hid (fun W => c81 u W)
  have Hv := Lib.hid (fun W => c81 v W)
  obtain ⟨P, hP⟩ : ∃ P : Prop, P = (fEq u v = true) := ⟨_, rfl⟩
  have HP : Hid (P → ((Ieee.double.order u v == some .eq) || ((Ieee.double.order u u != some .eq) && (Ieee.double.order v v != some .eq))) = true) := fun h => by
    rw [hP] at h; exact h
  rw [← hP]
  clear hP
  generalize hbu : (Ieee.double.order u u != some .eq) = bu at *
  generalize hbv : (Ieee.double.order v v != some .eq) = bv at *
  generalize hbe : (Ieee.double.order u v == some .eq) = be at *
  generalize hbl : (Ieee.double.order u v == some .lt) = bl at *
  have he1 : (FloatKind.f64.format.order u v == some .eq) = be := hbe
  have he3 : Op.floatEq .f64 u v = be := hbe
  have he2 : (FloatKind.f64.format.order u v == some .lt) = bl := hbl
  clear hbu hbv hbe hbl
  cases bu <;> cases bv <;> cases be <;> cases bl
  all_goals
    have HP' : Hid (P → _) := HP.out
    go_enter Tryz.func131, Tryz.ntmps131
    go_wp2_with (go_at_call 81; (first | with_reducible refine (Hu.out _).mono ?_ | with_reducible refine (Hv.out _).mono ?_); rintro e w1 ⟨rfl, rfl⟩)
    go_ret
    exact ⟨_, rfl, (fun h => by first | rfl | exact Bool.noConfusion (HP.out h)), by omega, by omega, Below.refl _ _⟩
end Go.Proofs.YtpfihjkhgfoijaaGreatDoor
namespace Go.Proofs.YtpfihjkhgfoijaaGreatDoor
open Go.RowKit

theorem ifEq_iff (z : Int) (u : Nat) : ifEq z u ↔ fFin u ∧ isW z u := by
  unfold ifEq fFin isW fW fS fM fE
  simp only [show (2 : Nat) ^ 52 = 4503599627370496 from rfl, show (2 : Nat) ^ 63 = 9223372036854775808 from rfl]
  by_cases hs : u / 9223372036854775808 % 2 = 1
  · simp only [hs, decide_true, if_true, Int.neg_mul, Int.one_mul]
  · simp only [hs, decide_false, if_false, Bool.false_eq_true, Int.one_mul]
theorem cutL_id {bs : List Nat} (h : Cut bs) : cutL bs = bs := by
  unfold cutL
  cases bs with
  | nil => rfl
  | cons b bs =>
    rcases h with h | h
    · cases h
    · rw [List.dropWhile_cons_of_neg (by simpa using h)]
theorem c79c (k : Int) (neg : Bool) (A : Option Addr) (n c : Nat) (u : Int) (t : ByteArray) (K : Option Addr) (m d : Nat) (bs : List Nat) (w : World) (h : ByteA w A n c bs) (hn : n ≤ 5000) (hc : Cut bs) (hz : bs = [] → neg = false) :
    Calls Tryz.prog 79 #[.agg #[.int .i64 k, .bool neg, .slice A n c, .int .u64 u, .string t, .slice K m d]] w fun e w' => ∃ B m d, e = .returned (.agg #[.bool neg, .slice B m d]) ∧ Sits w.heap.size (fun W => ByteR W B m d bs) w' ∧ Below w.heap.size w w' := by
  have := c79 k neg A n c u t K m d bs w h hn
  rw [cutL_id hc] at this
  have e : (neg && decide (0 < bs.length)) = neg := by
    cases bs with
    | nil => rw [hz rfl]; rfl
    | cons b bs => simp
  rw [e] at this
  exact this
theorem ByteR.toA {w : World} {A : Option Addr} {n c : Nat} {bs : List Nat} (h : ByteR w A n c bs) (hA : A = none → n = 0 ∧ c = 0) : ByteA w A n c bs :=
  ⟨h.len, h.le, h.rng, by
    rcases h.cells with h1 | ⟨g, o, e, h1⟩
    · by_cases hn : A = none
      · exact .inl ⟨hn, hA hn⟩
      · obtain ⟨a, ha⟩ : ∃ a, A = some a := Option.ne_none_iff_exists'.1 hn
        exact .inr ⟨a, ha, fun i hi => by omega⟩
    · exact .inr ⟨⟨g, o, none⟩, e, fun i hi => by rw [add_off]; exact h1 i hi⟩⟩
theorem VC.bytes {n : Nat} {S : BS} {w : World} {t : VT} {k : Int} {ng : Bool} {A : Option Addr} {a c : Nat} {u : Value} {x : Value} {y : Value} (h : VC n S w t #[.int .i64 k, .bool ng, .slice A a c, u, x, y]) : ByteA w A a c t.mag := by
  obtain ⟨A1, a1, c1, K1, m1, d1, he, hb, hA, _⟩ := h.head
  simp at he
  obtain ⟨_, _, ⟨h1, h2, h3⟩, _⟩ := he
  subst h1 h2 h3
  exact hb.r.toA hA
theorem VT.ok_int {n : Nat} {t : VT} (h : VT.ok n t) (hk : t.kind = 2) : Cut t.mag ∧ t.mag.length ≤ 40 ∧ (t.mag = [] → t.neg = false) := by
  unfold VT.ok at h
  obtain ⟨_, _, h⟩ := h
  rcases h with ⟨h1, _⟩ | ⟨h1, _⟩ | ⟨h1, h2, h3, h4, _⟩ | ⟨h1, _⟩ | ⟨h1, _⟩ | ⟨h1, _⟩
  all_goals first | omega | skip
  exact ⟨h2, h3, fun e => by cases hn : t.neg; rfl; exact absurd e (h4 hn)⟩
theorem two36 (w : World) (ca cb : Array Value) : ∃ w1, (w.alloc (.cells ca 36)).alloc (.cells cb 36) = w1 ∧ Below w.heap.size w w1 ∧ RowB w1 w.heap.size ca 36 ∧ RowB w1 (w.heap.size + 1) cb 36 ∧ w1.heap.size = w.heap.size + 1 + 1 :=
  ⟨_, rfl, below_alloc' (below_alloc' (Below.refl _ _) _) _, (RowB.new w _ _).alloc _, by
    have := RowB.new (w.alloc (.cells ca 36)) cb 36
    rw [alloc_size] at this; exact this, by rw [alloc_size, alloc_size]⟩
set_option maxHeartbeats 1000000 in
theorem c110 (k : Int) (ng : Bool) (A : Option Addr) (n c : Nat) (u : Int) (t : ByteArray) (K : Option Addr) (m d : Nat) (w : World) :
    Calls Tryz.prog 110 #[.agg #[.int .i64 k, .bool ng, .slice A n c, .int .u64 u, .string t, .slice K m d]] w fun e w' => e = .returned (.bool (decide (k = 2 ∨ k = 3))) ∧ Below w.heap.size w w' := by
  by_cases h2 : k = 2
  · subst h2
    go_enter Tryz.func110, Tryz.ntmps110
    go_wp2_with fail
    go_ret
    exact ⟨rfl, below_alloc' (Below.refl _ _) _⟩
  · have q2 : (k == 2) = false := by rw [beq_eq_false_iff_ne]; exact h2
    by_cases h3 : k = 3
    · subst h3
      go_enter Tryz.func110, Tryz.ntmps110
      go_wp2_with fail
      go_ret
      exact ⟨rfl, below_alloc' (Below.refl _ _) _⟩
    · have q3 : (k == 3) = false := by rw [beq_eq_false_iff_ne]; exact h3
      rw [decide_eq_false (by omega)]
      clear h2 h3
      go_enter Tryz.func110, Tryz.ntmps110
      go_wp2_with fail
      go_ret
      exact ⟨rfl, below_alloc' (Below.refl _ _) _⟩
set_option maxHeartbeats 4000000 in
theorem c111_22 (a b : VT) (A1 A2 : Option Addr) (n1 c1 n2 c2 : Nat) (K1 K2 : Option Addr) (m1 d1 m2 d2 : Nat) (w : World) (ha : ByteA w A1 n1 c1 a.mag) (hb : ByteA w A2 n2 c2 b.mag) (hka : a.kind = 2) (hkb : b.kind = 2)
    (oa : Cut a.mag ∧ a.mag.length ≤ 40 ∧ (a.mag = [] → a.neg = false)) (ob : Cut b.mag ∧ b.mag.length ≤ 40 ∧ (b.mag = [] → b.neg = false)) :
    Calls Tryz.prog 111 #[.agg #[.int .i64 2, .bool a.neg, .slice A1 n1 c1, .int .u64 (a.bits : Int), .string a.text, .slice K1 m1 d1], .agg #[.int .i64 2, .bool b.neg, .slice A2 n2 c2, .int .u64 (b.bits : Int), .string b.text, .slice K2 m2 d2]] w (PostC (numEq a b) w) := by
  obtain ⟨w1, hw1, b1, r0, r1, hsz⟩ := two36 w #[.int .i64 2, .bool a.neg, .slice A1 n1 c1, .int .u64 (a.bits : Int), .string a.text, .slice K1 m1 d1] #[.int .i64 2, .bool b.neg, .slice A2 n2 c2, .int .u64 (b.bits : Int), .string b.text, .slice K2 m2 d2]
  have x0 := r0.cell 0 _ rfl
  have x1 := r0.cell 1 _ rfl
  have x2 := r0.cell 2 _ rfl
  have x3 := r0.cell 3 _ rfl
  have x4 := r0.cell 4 _ rfl
  have x5 := r0.cell 5 _ rfl
  have y0 := r1.cell 0 _ rfl
  have y1 := r1.cell 1 _ rfl
  have y2 := r1.cell 2 _ rfl
  have y3 := r1.cell 3 _ rfl
  have y4 := r1.cell 4 _ rfl
  have y5 := r1.cell 5 _ rfl
  obtain ⟨P, hP⟩ : ∃ P : Prop, P = numEq a b := ⟨_, rfl⟩
  have HP : Hid (P → a.neg = b.neg ∧ a.mag = b.mag) := fun h => by
    rw [hP] at h
    unfold numEq at h
    rw [hka, hkb] at h
    simp at h
    exact bz_inj oa.1 ob.1 ha.rng hb.rng oa.2.2 ob.2.2 h
  rw [← hP]
  have HA := Lib.hid ha
  have HB := Lib.hid hb
  have HLa := Lib.hid ha.len
  have HLb := Lib.hid hb.len
  have HOA := Lib.hid oa
  have HOB := Lib.hid ob
  have Na : Hid (∀ W, Below w.heap.size w W → Calls Tryz.prog 79 #[.agg #[.int .i64 2, .bool a.neg, .slice A1 n1 c1, .int .u64 (a.bits : Int), .string a.text, .slice K1 m1 d1]] W fun e w' => ∃ B m d, e = .returned (.agg #[.bool a.neg, .slice B m d]) ∧ Sits W.heap.size (fun W => ByteR W B m d a.mag) w' ∧ Below W.heap.size W w') := fun W hW => c79c 2 a.neg A1 n1 c1 _ a.text K1 m1 d1 a.mag W (HA.out.below hW) (by have := HLa.out; have := HOA.out.2.1; omega) HOA.out.1 HOA.out.2.2
  have Nb : Hid (∀ W, Below w.heap.size w W → Calls Tryz.prog 79 #[.agg #[.int .i64 2, .bool b.neg, .slice A2 n2 c2, .int .u64 (b.bits : Int), .string b.text, .slice K2 m2 d2]] W fun e w' => ∃ B m d, e = .returned (.agg #[.bool b.neg, .slice B m d]) ∧ Sits W.heap.size (fun W => ByteR W B m d b.mag) w' ∧ Below W.heap.size W w') := fun W hW => c79c 2 b.neg A2 n2 c2 _ b.text K2 m2 d2 b.mag W (HB.out.below hW) (by have := HLb.out; have := HOB.out.2.1; omega) HOB.out.1 HOB.out.2.2
  clear hP ha hb oa ob hka hkb r0 r1 HA HB
  go_enter Tryz.func111, Tryz.ntmps111
  go_wp2_with fail
  clear hw1
  go_region_held3 (fun W => W.cell? ⟨w.heap.size, 0, none⟩ = some (.int .i64 2) ∧ W.cell? ⟨w.heap.size, 1, none⟩ = some (.bool a.neg) ∧ W.cell? ⟨w.heap.size, 2, none⟩ = some (.slice A1 n1 c1) ∧ W.cell? ⟨w.heap.size, 3, none⟩ = some (.int .u64 (a.bits : Int)) ∧ W.cell? ⟨w.heap.size, 4, none⟩ = some (.string a.text) ∧ W.cell? ⟨w.heap.size, 5, none⟩ = some (.slice K1 m1 d1) ∧ W.cell? ⟨w.heap.size + 1, 0, none⟩ = some (.int .i64 2) ∧ W.cell? ⟨w.heap.size + 1, 1, none⟩ = some (.bool b.neg) ∧ W.cell? ⟨w.heap.size + 1, 2, none⟩ = some (.slice A2 n2 c2) ∧ W.cell? ⟨w.heap.size + 1, 3, none⟩ = some (.int .u64 (b.bits : Int)) ∧ W.cell? ⟨w.heap.size + 1, 4, none⟩ = some (.string b.text) ∧ W.cell? ⟨w.heap.size + 1, 5, none⟩ = some (.slice K2 m2 d2)) (first | exact ⟨x0, x1, x2, x3, x4, x5, y0, y1, y2, y3, y4, y5⟩)
    (first
      | (go_at_call 79
         (first | with_reducible refine (Na.out _ (below_trans' b1 (below_drew1 _))).mono ?_ | with_reducible refine (Na.out _ b1).mono ?_)
         rintro e w2 ⟨Ba, qa, fa, rfl, hS, hB2⟩
         have HSa := Lib.hid hS; clear hS
         (try (have HT := Lib.hid (HSb.out.below hB2); clear HSb; have HSb := HT; clear HT))
         (first
         | (have x0 := below_cell (w := World.drew _) hB2 x0; have x1 := below_cell (w := World.drew _) hB2 x1; have x2 := below_cell (w := World.drew _) hB2 x2; have x3 := below_cell (w := World.drew _) hB2 x3; have x4 := below_cell (w := World.drew _) hB2 x4; have x5 := below_cell (w := World.drew _) hB2 x5; have y0 := below_cell (w := World.drew _) hB2 y0; have y1 := below_cell (w := World.drew _) hB2 y1; have y2 := below_cell (w := World.drew _) hB2 y2; have y3 := below_cell (w := World.drew _) hB2 y3; have y4 := below_cell (w := World.drew _) hB2 y4; have y5 := below_cell (w := World.drew _) hB2 y5; have bb := below_trans' (below_trans' b1 (below_drew1 _)) hB2; clear b1; have b1 := bb; clear bb)
         | (have x0 := below_cell hB2 x0; have x1 := below_cell hB2 x1; have x2 := below_cell hB2 x2; have x3 := below_cell hB2 x3; have x4 := below_cell hB2 x4; have x5 := below_cell hB2 x5; have y0 := below_cell hB2 y0; have y1 := below_cell hB2 y1; have y2 := below_cell hB2 y2; have y3 := below_cell hB2 y3; have y4 := below_cell hB2 y4; have y5 := below_cell hB2 y5; have bb := below_trans' b1 hB2; clear b1; have b1 := bb; clear bb)))
      | (go_at_call 79
         (first | with_reducible refine (Nb.out _ (below_trans' b1 (below_drew1 _))).mono ?_ | with_reducible refine (Nb.out _ b1).mono ?_)
         rintro e w2 ⟨Bb, qb, fb, rfl, hS, hB2⟩
         have HSb := Lib.hid hS; clear hS
         (try (have HT := Lib.hid (HSa.out.below hB2); clear HSa; have HSa := HT; clear HT))
         (first
         | (have x0 := below_cell (w := World.drew _) hB2 x0; have x1 := below_cell (w := World.drew _) hB2 x1; have x2 := below_cell (w := World.drew _) hB2 x2; have x3 := below_cell (w := World.drew _) hB2 x3; have x4 := below_cell (w := World.drew _) hB2 x4; have x5 := below_cell (w := World.drew _) hB2 x5; have y0 := below_cell (w := World.drew _) hB2 y0; have y1 := below_cell (w := World.drew _) hB2 y1; have y2 := below_cell (w := World.drew _) hB2 y2; have y3 := below_cell (w := World.drew _) hB2 y3; have y4 := below_cell (w := World.drew _) hB2 y4; have y5 := below_cell (w := World.drew _) hB2 y5; have bb := below_trans' (below_trans' b1 (below_drew1 _)) hB2; clear b1; have b1 := bb; clear bb)
         | (have x0 := below_cell hB2 x0; have x1 := below_cell hB2 x1; have x2 := below_cell hB2 x2; have x3 := below_cell hB2 x3; have x4 := below_cell hB2 x4; have x5 := below_cell hB2 x5; have y0 := below_cell hB2 y0; have y1 := below_cell hB2 y1; have y2 := below_cell hB2 y2; have y3 := below_cell hB2 y3; have y4 := below_cell hB2 y4; have y5 := below_cell hB2 y5; have bb := below_trans' b1 hB2; clear b1; have b1 := bb; clear bb)))
      | (go_at_call 80; refine (c80 a.neg b.neg Ba Bb qa qb fa fb a.mag b.mag _ HSa.out.out HSb.out.out (by have := HSa.out.out.len; have := HOA.out.2.1; omega) (by have := HSb.out.out.len; have := HOB.out.2.1; omega)).mono ?_
         rintro e w2 ⟨r, rfl, hr, hr1, hr2, hB2⟩
         have HR := Lib.hid hr; clear hr
         (first
         | (have x0 := below_cell (w := World.drew _) hB2 x0; have x1 := below_cell (w := World.drew _) hB2 x1; have x2 := below_cell (w := World.drew _) hB2 x2; have x3 := below_cell (w := World.drew _) hB2 x3; have x4 := below_cell (w := World.drew _) hB2 x4; have x5 := below_cell (w := World.drew _) hB2 x5; have y0 := below_cell (w := World.drew _) hB2 y0; have y1 := below_cell (w := World.drew _) hB2 y1; have y2 := below_cell (w := World.drew _) hB2 y2; have y3 := below_cell (w := World.drew _) hB2 y3; have y4 := below_cell (w := World.drew _) hB2 y4; have y5 := below_cell (w := World.drew _) hB2 y5; have bb := below_trans' (below_trans' b1 (below_drew1 _)) hB2; clear b1; have b1 := bb; clear bb)
         | (have x0 := below_cell hB2 x0; have x1 := below_cell hB2 x1; have x2 := below_cell hB2 x2; have x3 := below_cell hB2 x3; have x4 := below_cell hB2 x4; have x5 := below_cell hB2 x5; have y0 := below_cell hB2 y0; have y1 := below_cell hB2 y1; have y2 := below_cell hB2 y2; have y3 := below_cell hB2 y3; have y4 := below_cell hB2 y4; have y5 := below_cell hB2 y5; have bb := below_trans' b1 hB2; clear b1; have b1 := bb; clear bb))))
  go_wp2_with fail
  go_ret
  exact ⟨r, rfl, (fun h => HR.out (HP.out h).1 (HP.out h).2), by omega, by omega, b1⟩
set_option maxHeartbeats 4000000 in
theorem c111_23 (a b : VT) (A1 A2 : Option Addr) (n1 c1 n2 c2 : Nat) (K1 K2 : Option Addr) (m1 d1 m2 d2 : Nat) (w : World) (ha : ByteA w A1 n1 c1 a.mag) (hb : ByteA w A2 n2 c2 b.mag) (hka : a.kind = 2) (hkb : b.kind = 3)
    (oa : Cut a.mag ∧ a.mag.length ≤ 40 ∧ (a.mag = [] → a.neg = false)) (ob : b.bits < 18446744073709551616) :
    Calls Tryz.prog 111 #[.agg #[.int .i64 2, .bool a.neg, .slice A1 n1 c1, .int .u64 (a.bits : Int), .string a.text, .slice K1 m1 d1], .agg #[.int .i64 3, .bool b.neg, .slice A2 n2 c2, .int .u64 (b.bits : Int), .string b.text, .slice K2 m2 d2]] w (PostC (numEq a b) w) := by
  obtain ⟨w1, hw1, b1, r0, r1, hsz⟩ := two36 w #[.int .i64 2, .bool a.neg, .slice A1 n1 c1, .int .u64 (a.bits : Int), .string a.text, .slice K1 m1 d1] #[.int .i64 3, .bool b.neg, .slice A2 n2 c2, .int .u64 (b.bits : Int), .string b.text, .slice K2 m2 d2]
  have x0 := r0.cell 0 _ rfl
  have x1 := r0.cell 1 _ rfl
  have x2 := r0.cell 2 _ rfl
  have x3 := r0.cell 3 _ rfl
  have x4 := r0.cell 4 _ rfl
  have x5 := r0.cell 5 _ rfl
  have y0 := r1.cell 0 _ rfl
  have y1 := r1.cell 1 _ rfl
  have y2 := r1.cell 2 _ rfl
  have y3 := r1.cell 3 _ rfl
  have y4 := r1.cell 4 _ rfl
  have y5 := r1.cell 5 _ rfl
  obtain ⟨P, hP⟩ : ∃ P : Prop, P = numEq a b := ⟨_, rfl⟩
  have HP : Hid (P → fFin b.bits ∧ isW (bz a.neg a.mag) b.bits) := fun h => by
    rw [hP] at h
    unfold numEq at h
    rw [hka, hkb] at h
    simp at h
    exact (ifEq_iff _ _).1 h
  rw [← hP]
  have HA := Lib.hid ha
  have HB := Lib.hid hb
  have HLa := Lib.hid ha.len
  have HLb := Lib.hid hb.len
  have HOA := Lib.hid oa
  have HOB := Lib.hid ob
  have Na : Hid (∀ W, Below w.heap.size w W → Calls Tryz.prog 79 #[.agg #[.int .i64 2, .bool a.neg, .slice A1 n1 c1, .int .u64 (a.bits : Int), .string a.text, .slice K1 m1 d1]] W fun e w' => ∃ B m d, e = .returned (.agg #[.bool a.neg, .slice B m d]) ∧ Sits W.heap.size (fun W => ByteR W B m d a.mag) w' ∧ Below W.heap.size W w') := fun W hW => c79c 2 a.neg A1 n1 c1 _ a.text K1 m1 d1 a.mag W (HA.out.below hW) (by have := HLa.out; have := HOA.out.2.1; omega) HOA.out.1 HOA.out.2.2
  have Nb : Hid (∀ W, Calls Tryz.prog 82 #[.agg #[.int .i64 3, .bool b.neg, .slice A2 n2 c2, .int .u64 (b.bits : Int), .string b.text, .slice K2 m2 d2]] W fun e w' => e = .returned (.float .f64 b.bits) ∧ Below W.heap.size W w') := fun W => c82 3 b.neg A2 n2 c2 b.bits b.text K2 m2 d2 W HOB.out
  clear hP ha hb oa ob hka hkb r0 r1 HA HB
  go_enter Tryz.func111, Tryz.ntmps111
  go_wp2_with fail
  clear hw1
  go_region_held3 (fun W => W.cell? ⟨w.heap.size, 0, none⟩ = some (.int .i64 2) ∧ W.cell? ⟨w.heap.size, 1, none⟩ = some (.bool a.neg) ∧ W.cell? ⟨w.heap.size, 2, none⟩ = some (.slice A1 n1 c1) ∧ W.cell? ⟨w.heap.size, 3, none⟩ = some (.int .u64 (a.bits : Int)) ∧ W.cell? ⟨w.heap.size, 4, none⟩ = some (.string a.text) ∧ W.cell? ⟨w.heap.size, 5, none⟩ = some (.slice K1 m1 d1) ∧ W.cell? ⟨w.heap.size + 1, 0, none⟩ = some (.int .i64 3) ∧ W.cell? ⟨w.heap.size + 1, 1, none⟩ = some (.bool b.neg) ∧ W.cell? ⟨w.heap.size + 1, 2, none⟩ = some (.slice A2 n2 c2) ∧ W.cell? ⟨w.heap.size + 1, 3, none⟩ = some (.int .u64 (b.bits : Int)) ∧ W.cell? ⟨w.heap.size + 1, 4, none⟩ = some (.string b.text) ∧ W.cell? ⟨w.heap.size + 1, 5, none⟩ = some (.slice K2 m2 d2)) (first | exact ⟨x0, x1, x2, x3, x4, x5, y0, y1, y2, y3, y4, y5⟩)
    (first
      | (go_at_call 79
         (first | with_reducible refine (Na.out _ (below_trans' b1 (below_drew1 _))).mono ?_ | with_reducible refine (Na.out _ b1).mono ?_)
         rintro e w2 ⟨Ba, qa, fa, rfl, hS, hB2⟩
         have HSa := Lib.hid hS; clear hS
         (try (have HT := Lib.hid (HSb.out.below hB2); clear HSb; have HSb := HT; clear HT))
         (first
         | (have x0 := below_cell (w := World.drew _) hB2 x0; have x1 := below_cell (w := World.drew _) hB2 x1; have x2 := below_cell (w := World.drew _) hB2 x2; have x3 := below_cell (w := World.drew _) hB2 x3; have x4 := below_cell (w := World.drew _) hB2 x4; have x5 := below_cell (w := World.drew _) hB2 x5; have y0 := below_cell (w := World.drew _) hB2 y0; have y1 := below_cell (w := World.drew _) hB2 y1; have y2 := below_cell (w := World.drew _) hB2 y2; have y3 := below_cell (w := World.drew _) hB2 y3; have y4 := below_cell (w := World.drew _) hB2 y4; have y5 := below_cell (w := World.drew _) hB2 y5; have bb := below_trans' (below_trans' b1 (below_drew1 _)) hB2; clear b1; have b1 := bb; clear bb)
         | (have x0 := below_cell hB2 x0; have x1 := below_cell hB2 x1; have x2 := below_cell hB2 x2; have x3 := below_cell hB2 x3; have x4 := below_cell hB2 x4; have x5 := below_cell hB2 x5; have y0 := below_cell hB2 y0; have y1 := below_cell hB2 y1; have y2 := below_cell hB2 y2; have y3 := below_cell hB2 y3; have y4 := below_cell hB2 y4; have y5 := below_cell hB2 y5; have bb := below_trans' b1 hB2; clear b1; have b1 := bb; clear bb)))
      | (go_at_call 82; with_reducible refine (Nb.out _).mono ?_
         rintro e w2 ⟨rfl, hB2⟩
         (try (have HT := Lib.hid (HSa.out.below hB2); clear HSa; have HSa := HT; clear HT))
         (first
         | (have x0 := below_cell (w := World.drew _) hB2 x0; have x1 := below_cell (w := World.drew _) hB2 x1; have x2 := below_cell (w := World.drew _) hB2 x2; have x3 := below_cell (w := World.drew _) hB2 x3; have x4 := below_cell (w := World.drew _) hB2 x4; have x5 := below_cell (w := World.drew _) hB2 x5; have y0 := below_cell (w := World.drew _) hB2 y0; have y1 := below_cell (w := World.drew _) hB2 y1; have y2 := below_cell (w := World.drew _) hB2 y2; have y3 := below_cell (w := World.drew _) hB2 y3; have y4 := below_cell (w := World.drew _) hB2 y4; have y5 := below_cell (w := World.drew _) hB2 y5; have bb := below_trans' (below_trans' b1 (below_drew1 _)) hB2; clear b1; have b1 := bb; clear bb)
         | (have x0 := below_cell hB2 x0; have x1 := below_cell hB2 x1; have x2 := below_cell hB2 x2; have x3 := below_cell hB2 x3; have x4 := below_cell hB2 x4; have x5 := below_cell hB2 x5; have y0 := below_cell hB2 y0; have y1 := below_cell hB2 y1; have y2 := below_cell hB2 y2; have y3 := below_cell hB2 y3; have y4 := below_cell hB2 y4; have y5 := below_cell hB2 y5; have bb := below_trans' b1 hB2; clear b1; have b1 := bb; clear bb)))
      | (go_at_call 130; refine (c130 a.neg Ba qa fa b.bits a.mag _ HSa.out.out (by have := HSa.out.out.len; have := HOA.out.2.1; omega) HOB.out HOA.out.1 HOA.out.2.2).mono ?_
         rintro e w2 ⟨r, rfl, hr, hr1, hr2, hB2⟩
         have HR := Lib.hid hr; clear hr
         (first
         | (have x0 := below_cell (w := World.drew _) hB2 x0; have x1 := below_cell (w := World.drew _) hB2 x1; have x2 := below_cell (w := World.drew _) hB2 x2; have x3 := below_cell (w := World.drew _) hB2 x3; have x4 := below_cell (w := World.drew _) hB2 x4; have x5 := below_cell (w := World.drew _) hB2 x5; have y0 := below_cell (w := World.drew _) hB2 y0; have y1 := below_cell (w := World.drew _) hB2 y1; have y2 := below_cell (w := World.drew _) hB2 y2; have y3 := below_cell (w := World.drew _) hB2 y3; have y4 := below_cell (w := World.drew _) hB2 y4; have y5 := below_cell (w := World.drew _) hB2 y5; have bb := below_trans' (below_trans' b1 (below_drew1 _)) hB2; clear b1; have b1 := bb; clear bb)
         | (have x0 := below_cell hB2 x0; have x1 := below_cell hB2 x1; have x2 := below_cell hB2 x2; have x3 := below_cell hB2 x3; have x4 := below_cell hB2 x4; have x5 := below_cell hB2 x5; have y0 := below_cell hB2 y0; have y1 := below_cell hB2 y1; have y2 := below_cell hB2 y2; have y3 := below_cell hB2 y3; have y4 := below_cell hB2 y4; have y5 := below_cell hB2 y5; have bb := below_trans' b1 hB2; clear b1; have b1 := bb; clear bb))))
  go_wp2_with fail
  go_ret
  exact ⟨r, rfl, (fun h => HR.out (HP.out h)), by omega, by omega, b1⟩
set_option maxHeartbeats 4000000 in
theorem c111_32 (a b : VT) (A1 A2 : Option Addr) (n1 c1 n2 c2 : Nat) (K1 K2 : Option Addr) (m1 d1 m2 d2 : Nat) (w : World) (ha : ByteA w A1 n1 c1 a.mag) (hb : ByteA w A2 n2 c2 b.mag) (hka : a.kind = 3) (hkb : b.kind = 2)
    (oa : a.bits < 18446744073709551616) (ob : Cut b.mag ∧ b.mag.length ≤ 40 ∧ (b.mag = [] → b.neg = false)) :
    Calls Tryz.prog 111 #[.agg #[.int .i64 3, .bool a.neg, .slice A1 n1 c1, .int .u64 (a.bits : Int), .string a.text, .slice K1 m1 d1], .agg #[.int .i64 2, .bool b.neg, .slice A2 n2 c2, .int .u64 (b.bits : Int), .string b.text, .slice K2 m2 d2]] w (PostC (numEq a b) w) := by
  obtain ⟨w1, hw1, b1, r0, r1, hsz⟩ := two36 w #[.int .i64 3, .bool a.neg, .slice A1 n1 c1, .int .u64 (a.bits : Int), .string a.text, .slice K1 m1 d1] #[.int .i64 2, .bool b.neg, .slice A2 n2 c2, .int .u64 (b.bits : Int), .string b.text, .slice K2 m2 d2]
  have x0 := r0.cell 0 _ rfl
  have x1 := r0.cell 1 _ rfl
  have x2 := r0.cell 2 _ rfl
  have x3 := r0.cell 3 _ rfl
  have x4 := r0.cell 4 _ rfl
  have x5 := r0.cell 5 _ rfl
  have y0 := r1.cell 0 _ rfl
  have y1 := r1.cell 1 _ rfl
  have y2 := r1.cell 2 _ rfl
  have y3 := r1.cell 3 _ rfl
  have y4 := r1.cell 4 _ rfl
  have y5 := r1.cell 5 _ rfl
  obtain ⟨P, hP⟩ : ∃ P : Prop, P = numEq a b := ⟨_, rfl⟩
  have HP : Hid (P → fFin a.bits ∧ isW (bz b.neg b.mag) a.bits) := fun h => by
    rw [hP] at h
    unfold numEq at h
    rw [hka, hkb] at h
    simp at h
    exact (ifEq_iff _ _).1 h
  rw [← hP]
  have HA := Lib.hid ha
  have HB := Lib.hid hb
  have HLa := Lib.hid ha.len
  have HLb := Lib.hid hb.len
  have HOA := Lib.hid oa
  have HOB := Lib.hid ob
  have Na : Hid (∀ W, Calls Tryz.prog 82 #[.agg #[.int .i64 3, .bool a.neg, .slice A1 n1 c1, .int .u64 (a.bits : Int), .string a.text, .slice K1 m1 d1]] W fun e w' => e = .returned (.float .f64 a.bits) ∧ Below W.heap.size W w') := fun W => c82 3 a.neg A1 n1 c1 a.bits a.text K1 m1 d1 W HOA.out
  have Nb : Hid (∀ W, Below w.heap.size w W → Calls Tryz.prog 79 #[.agg #[.int .i64 2, .bool b.neg, .slice A2 n2 c2, .int .u64 (b.bits : Int), .string b.text, .slice K2 m2 d2]] W fun e w' => ∃ B m d, e = .returned (.agg #[.bool b.neg, .slice B m d]) ∧ Sits W.heap.size (fun W => ByteR W B m d b.mag) w' ∧ Below W.heap.size W w') := fun W hW => c79c 2 b.neg A2 n2 c2 _ b.text K2 m2 d2 b.mag W (HB.out.below hW) (by have := HLb.out; have := HOB.out.2.1; omega) HOB.out.1 HOB.out.2.2
  clear hP ha hb oa ob hka hkb r0 r1 HA HB
  go_enter Tryz.func111, Tryz.ntmps111
  go_wp2_with fail
  clear hw1
  go_region_held3 (fun W => W.cell? ⟨w.heap.size, 0, none⟩ = some (.int .i64 3) ∧ W.cell? ⟨w.heap.size, 1, none⟩ = some (.bool a.neg) ∧ W.cell? ⟨w.heap.size, 2, none⟩ = some (.slice A1 n1 c1) ∧ W.cell? ⟨w.heap.size, 3, none⟩ = some (.int .u64 (a.bits : Int)) ∧ W.cell? ⟨w.heap.size, 4, none⟩ = some (.string a.text) ∧ W.cell? ⟨w.heap.size, 5, none⟩ = some (.slice K1 m1 d1) ∧ W.cell? ⟨w.heap.size + 1, 0, none⟩ = some (.int .i64 2) ∧ W.cell? ⟨w.heap.size + 1, 1, none⟩ = some (.bool b.neg) ∧ W.cell? ⟨w.heap.size + 1, 2, none⟩ = some (.slice A2 n2 c2) ∧ W.cell? ⟨w.heap.size + 1, 3, none⟩ = some (.int .u64 (b.bits : Int)) ∧ W.cell? ⟨w.heap.size + 1, 4, none⟩ = some (.string b.text) ∧ W.cell? ⟨w.heap.size + 1, 5, none⟩ = some (.slice K2 m2 d2)) (first | exact ⟨x0, x1, x2, x3, x4, x5, y0, y1, y2, y3, y4, y5⟩)
    (first
      | (go_at_call 82; with_reducible refine (Na.out _).mono ?_
         rintro e w2 ⟨rfl, hB2⟩
         (try (have HT := Lib.hid (HSb.out.below hB2); clear HSb; have HSb := HT; clear HT))
         (first
         | (have x0 := below_cell (w := World.drew _) hB2 x0; have x1 := below_cell (w := World.drew _) hB2 x1; have x2 := below_cell (w := World.drew _) hB2 x2; have x3 := below_cell (w := World.drew _) hB2 x3; have x4 := below_cell (w := World.drew _) hB2 x4; have x5 := below_cell (w := World.drew _) hB2 x5; have y0 := below_cell (w := World.drew _) hB2 y0; have y1 := below_cell (w := World.drew _) hB2 y1; have y2 := below_cell (w := World.drew _) hB2 y2; have y3 := below_cell (w := World.drew _) hB2 y3; have y4 := below_cell (w := World.drew _) hB2 y4; have y5 := below_cell (w := World.drew _) hB2 y5; have bb := below_trans' (below_trans' b1 (below_drew1 _)) hB2; clear b1; have b1 := bb; clear bb)
         | (have x0 := below_cell hB2 x0; have x1 := below_cell hB2 x1; have x2 := below_cell hB2 x2; have x3 := below_cell hB2 x3; have x4 := below_cell hB2 x4; have x5 := below_cell hB2 x5; have y0 := below_cell hB2 y0; have y1 := below_cell hB2 y1; have y2 := below_cell hB2 y2; have y3 := below_cell hB2 y3; have y4 := below_cell hB2 y4; have y5 := below_cell hB2 y5; have bb := below_trans' b1 hB2; clear b1; have b1 := bb; clear bb)))
      | (go_at_call 79
         (first | with_reducible refine (Nb.out _ (below_trans' b1 (below_drew1 _))).mono ?_ | with_reducible refine (Nb.out _ b1).mono ?_)
         rintro e w2 ⟨Bb, qb, fb, rfl, hS, hB2⟩
         have HSb := Lib.hid hS; clear hS
         (try (have HT := Lib.hid (HSa.out.below hB2); clear HSa; have HSa := HT; clear HT))
         (first
         | (have x0 := below_cell (w := World.drew _) hB2 x0; have x1 := below_cell (w := World.drew _) hB2 x1; have x2 := below_cell (w := World.drew _) hB2 x2; have x3 := below_cell (w := World.drew _) hB2 x3; have x4 := below_cell (w := World.drew _) hB2 x4; have x5 := below_cell (w := World.drew _) hB2 x5; have y0 := below_cell (w := World.drew _) hB2 y0; have y1 := below_cell (w := World.drew _) hB2 y1; have y2 := below_cell (w := World.drew _) hB2 y2; have y3 := below_cell (w := World.drew _) hB2 y3; have y4 := below_cell (w := World.drew _) hB2 y4; have y5 := below_cell (w := World.drew _) hB2 y5; have bb := below_trans' (below_trans' b1 (below_drew1 _)) hB2; clear b1; have b1 := bb; clear bb)
         | (have x0 := below_cell hB2 x0; have x1 := below_cell hB2 x1; have x2 := below_cell hB2 x2; have x3 := below_cell hB2 x3; have x4 := below_cell hB2 x4; have x5 := below_cell hB2 x5; have y0 := below_cell hB2 y0; have y1 := below_cell hB2 y1; have y2 := below_cell hB2 y2; have y3 := below_cell hB2 y3; have y4 := below_cell hB2 y4; have y5 := below_cell hB2 y5; have bb := below_trans' b1 hB2; clear b1; have b1 := bb; clear bb)))
      | (go_at_call 130; refine (c130 b.neg Bb qb fb a.bits b.mag _ HSb.out.out (by have := HSb.out.out.len; have := HOB.out.2.1; omega) HOA.out HOB.out.1 HOB.out.2.2).mono ?_
         rintro e w2 ⟨r, rfl, hr, hr1, hr2, hB2⟩
         have HR := Lib.hid hr; clear hr
         (first
         | (have x0 := below_cell (w := World.drew _) hB2 x0; have x1 := below_cell (w := World.drew _) hB2 x1; have x2 := below_cell (w := World.drew _) hB2 x2; have x3 := below_cell (w := World.drew _) hB2 x3; have x4 := below_cell (w := World.drew _) hB2 x4; have x5 := below_cell (w := World.drew _) hB2 x5; have y0 := below_cell (w := World.drew _) hB2 y0; have y1 := below_cell (w := World.drew _) hB2 y1; have y2 := below_cell (w := World.drew _) hB2 y2; have y3 := below_cell (w := World.drew _) hB2 y3; have y4 := below_cell (w := World.drew _) hB2 y4; have y5 := below_cell (w := World.drew _) hB2 y5; have bb := below_trans' (below_trans' b1 (below_drew1 _)) hB2; clear b1; have b1 := bb; clear bb)
         | (have x0 := below_cell hB2 x0; have x1 := below_cell hB2 x1; have x2 := below_cell hB2 x2; have x3 := below_cell hB2 x3; have x4 := below_cell hB2 x4; have x5 := below_cell hB2 x5; have y0 := below_cell hB2 y0; have y1 := below_cell hB2 y1; have y2 := below_cell hB2 y2; have y3 := below_cell hB2 y3; have y4 := below_cell hB2 y4; have y5 := below_cell hB2 y5; have bb := below_trans' b1 hB2; clear b1; have b1 := bb; clear bb))))
  go_wp2_with fail
  go_ret
  refine ⟨-r, ret_eq ?_, (fun h => by rw [HR.out (HP.out h)]; rfl), by omega, by omega, b1⟩
  show Value.int .i64 (IntKind.i64.wrap (-r)) = _
  rw [IntWalk.i64_in _ (by omega)]
set_option maxHeartbeats 4000000 in
theorem c111_33 (a b : VT) (A1 A2 : Option Addr) (n1 c1 n2 c2 : Nat) (K1 K2 : Option Addr) (m1 d1 m2 d2 : Nat) (w : World) (ha : ByteA w A1 n1 c1 a.mag) (hb : ByteA w A2 n2 c2 b.mag) (hka : a.kind = 3) (hkb : b.kind = 3)
    (oa : a.bits < 18446744073709551616) (ob : b.bits < 18446744073709551616) :
    Calls Tryz.prog 111 #[.agg #[.int .i64 3, .bool a.neg, .slice A1 n1 c1, .int .u64 (a.bits : Int), .string a.text, .slice K1 m1 d1], .agg #[.int .i64 3, .bool b.neg, .slice A2 n2 c2, .int .u64 (b.bits : Int), .string b.text, .slice K2 m2 d2]] w (PostC (numEq a b) w) := by
  obtain ⟨w1, hw1, b1, r0, r1, hsz⟩ := two36 w #[.int .i64 3, .bool a.neg, .slice A1 n1 c1, .int .u64 (a.bits : Int), .string a.text, .slice K1 m1 d1] #[.int .i64 3, .bool b.neg, .slice A2 n2 c2, .int .u64 (b.bits : Int), .string b.text, .slice K2 m2 d2]
  have x0 := r0.cell 0 _ rfl
  have x1 := r0.cell 1 _ rfl
  have x2 := r0.cell 2 _ rfl
  have x3 := r0.cell 3 _ rfl
  have x4 := r0.cell 4 _ rfl
  have x5 := r0.cell 5 _ rfl
  have y0 := r1.cell 0 _ rfl
  have y1 := r1.cell 1 _ rfl
  have y2 := r1.cell 2 _ rfl
  have y3 := r1.cell 3 _ rfl
  have y4 := r1.cell 4 _ rfl
  have y5 := r1.cell 5 _ rfl
  obtain ⟨P, hP⟩ : ∃ P : Prop, P = numEq a b := ⟨_, rfl⟩
  have HP : Hid (P → fEq a.bits b.bits = true) := fun h => by
    rw [hP] at h
    unfold numEq at h
    rw [hka, hkb] at h
    simp at h
    exact h
  rw [← hP]
  have HA := Lib.hid ha
  have HB := Lib.hid hb
  have HLa := Lib.hid ha.len
  have HLb := Lib.hid hb.len
  have HOA := Lib.hid oa
  have HOB := Lib.hid ob
  have Na : Hid (∀ W, Calls Tryz.prog 82 #[.agg #[.int .i64 3, .bool a.neg, .slice A1 n1 c1, .int .u64 (a.bits : Int), .string a.text, .slice K1 m1 d1]] W fun e w' => e = .returned (.float .f64 a.bits) ∧ Below W.heap.size W w') := fun W => c82 3 a.neg A1 n1 c1 a.bits a.text K1 m1 d1 W HOA.out
  have Nb : Hid (∀ W, Calls Tryz.prog 82 #[.agg #[.int .i64 3, .bool b.neg, .slice A2 n2 c2, .int .u64 (b.bits : Int), .string b.text, .slice K2 m2 d2]] W fun e w' => e = .returned (.float .f64 b.bits) ∧ Below W.heap.size W w') := fun W => c82 3 b.neg A2 n2 c2 b.bits b.text K2 m2 d2 W HOB.out
  clear hP ha hb oa ob hka hkb r0 r1 HA HB
  go_enter Tryz.func111, Tryz.ntmps111
  go_wp2_with fail
  clear hw1
  go_region_held3 (fun W => W.cell? ⟨w.heap.size, 0, none⟩ = some (.int .i64 3) ∧ W.cell? ⟨w.heap.size, 1, none⟩ = some (.bool a.neg) ∧ W.cell? ⟨w.heap.size, 2, none⟩ = some (.slice A1 n1 c1) ∧ W.cell? ⟨w.heap.size, 3, none⟩ = some (.int .u64 (a.bits : Int)) ∧ W.cell? ⟨w.heap.size, 4, none⟩ = some (.string a.text) ∧ W.cell? ⟨w.heap.size, 5, none⟩ = some (.slice K1 m1 d1) ∧ W.cell? ⟨w.heap.size + 1, 0, none⟩ = some (.int .i64 3) ∧ W.cell? ⟨w.heap.size + 1, 1, none⟩ = some (.bool b.neg) ∧ W.cell? ⟨w.heap.size + 1, 2, none⟩ = some (.slice A2 n2 c2) ∧ W.cell? ⟨w.heap.size + 1, 3, none⟩ = some (.int .u64 (b.bits : Int)) ∧ W.cell? ⟨w.heap.size + 1, 4, none⟩ = some (.string b.text) ∧ W.cell? ⟨w.heap.size + 1, 5, none⟩ = some (.slice K2 m2 d2)) (first | exact ⟨x0, x1, x2, x3, x4, x5, y0, y1, y2, y3, y4, y5⟩)
    (first
      | (go_at_call 82; with_reducible refine (Na.out _).mono ?_
         rintro e w2 ⟨rfl, hB2⟩
         (try (have HT := Lib.hid (HSb.out.below hB2); clear HSb; have HSb := HT; clear HT))
         (first
         | (have x0 := below_cell (w := World.drew _) hB2 x0; have x1 := below_cell (w := World.drew _) hB2 x1; have x2 := below_cell (w := World.drew _) hB2 x2; have x3 := below_cell (w := World.drew _) hB2 x3; have x4 := below_cell (w := World.drew _) hB2 x4; have x5 := below_cell (w := World.drew _) hB2 x5; have y0 := below_cell (w := World.drew _) hB2 y0; have y1 := below_cell (w := World.drew _) hB2 y1; have y2 := below_cell (w := World.drew _) hB2 y2; have y3 := below_cell (w := World.drew _) hB2 y3; have y4 := below_cell (w := World.drew _) hB2 y4; have y5 := below_cell (w := World.drew _) hB2 y5; have bb := below_trans' (below_trans' b1 (below_drew1 _)) hB2; clear b1; have b1 := bb; clear bb)
         | (have x0 := below_cell hB2 x0; have x1 := below_cell hB2 x1; have x2 := below_cell hB2 x2; have x3 := below_cell hB2 x3; have x4 := below_cell hB2 x4; have x5 := below_cell hB2 x5; have y0 := below_cell hB2 y0; have y1 := below_cell hB2 y1; have y2 := below_cell hB2 y2; have y3 := below_cell hB2 y3; have y4 := below_cell hB2 y4; have y5 := below_cell hB2 y5; have bb := below_trans' b1 hB2; clear b1; have b1 := bb; clear bb)))
      | (go_at_call 82; with_reducible refine (Nb.out _).mono ?_
         rintro e w2 ⟨rfl, hB2⟩
         (try (have HT := Lib.hid (HSa.out.below hB2); clear HSa; have HSa := HT; clear HT))
         (first
         | (have x0 := below_cell (w := World.drew _) hB2 x0; have x1 := below_cell (w := World.drew _) hB2 x1; have x2 := below_cell (w := World.drew _) hB2 x2; have x3 := below_cell (w := World.drew _) hB2 x3; have x4 := below_cell (w := World.drew _) hB2 x4; have x5 := below_cell (w := World.drew _) hB2 x5; have y0 := below_cell (w := World.drew _) hB2 y0; have y1 := below_cell (w := World.drew _) hB2 y1; have y2 := below_cell (w := World.drew _) hB2 y2; have y3 := below_cell (w := World.drew _) hB2 y3; have y4 := below_cell (w := World.drew _) hB2 y4; have y5 := below_cell (w := World.drew _) hB2 y5; have bb := below_trans' (below_trans' b1 (below_drew1 _)) hB2; clear b1; have b1 := bb; clear bb)
         | (have x0 := below_cell hB2 x0; have x1 := below_cell hB2 x1; have x2 := below_cell hB2 x2; have x3 := below_cell hB2 x3; have x4 := below_cell hB2 x4; have x5 := below_cell hB2 x5; have y0 := below_cell hB2 y0; have y1 := below_cell hB2 y1; have y2 := below_cell hB2 y2; have y3 := below_cell hB2 y3; have y4 := below_cell hB2 y4; have y5 := below_cell hB2 y5; have bb := below_trans' b1 hB2; clear b1; have b1 := bb; clear bb)))
      | (go_at_call 131; refine (c131 a.bits b.bits _).mono ?_
         rintro e w2 ⟨r, rfl, hr, hr1, hr2, hB2⟩
         have HR := Lib.hid hr; clear hr
         (first
         | (have x0 := below_cell (w := World.drew _) hB2 x0; have x1 := below_cell (w := World.drew _) hB2 x1; have x2 := below_cell (w := World.drew _) hB2 x2; have x3 := below_cell (w := World.drew _) hB2 x3; have x4 := below_cell (w := World.drew _) hB2 x4; have x5 := below_cell (w := World.drew _) hB2 x5; have y0 := below_cell (w := World.drew _) hB2 y0; have y1 := below_cell (w := World.drew _) hB2 y1; have y2 := below_cell (w := World.drew _) hB2 y2; have y3 := below_cell (w := World.drew _) hB2 y3; have y4 := below_cell (w := World.drew _) hB2 y4; have y5 := below_cell (w := World.drew _) hB2 y5; have bb := below_trans' (below_trans' b1 (below_drew1 _)) hB2; clear b1; have b1 := bb; clear bb)
         | (have x0 := below_cell hB2 x0; have x1 := below_cell hB2 x1; have x2 := below_cell hB2 x2; have x3 := below_cell hB2 x3; have x4 := below_cell hB2 x4; have x5 := below_cell hB2 x5; have y0 := below_cell hB2 y0; have y1 := below_cell hB2 y1; have y2 := below_cell hB2 y2; have y3 := below_cell hB2 y3; have y4 := below_cell hB2 y4; have y5 := below_cell hB2 y5; have bb := below_trans' b1 hB2; clear b1; have b1 := bb; clear bb))))
  go_wp2_with fail
  go_ret
  exact ⟨r, rfl, (fun h => HR.out (HP.out h)), by omega, by omega, b1⟩
end Go.Proofs.YtpfihjkhgfoijaaGreatDoor
namespace Go.Proofs.YtpfihjkhgfoijaaGreatDoor
open Go.RowKit

def PostE (P : Prop) (w : World) (e : Ending) (w' : World) : Prop := ∃ r, e = .returned (.bool r) ∧ (P → r = true) ∧ Below w.heap.size w w'
theorem c111 (a b : VT) (A1 A2 : Option Addr) (n1 c1 n2 c2 : Nat) (K1 K2 : Option Addr) (m1 d1 m2 d2 : Nat) (w : World) (ha : ByteA w A1 n1 c1 a.mag) (hb : ByteA w A2 n2 c2 b.mag) {n : Nat} (oa : VT.ok n a) (ob : VT.ok n b) (ka : a.num) (kb : b.num) :
    Calls Tryz.prog 111 #[.agg #[.int .i64 a.kind, .bool a.neg, .slice A1 n1 c1, .int .u64 (a.bits : Int), .string a.text, .slice K1 m1 d1], .agg #[.int .i64 b.kind, .bool b.neg, .slice A2 n2 c2, .int .u64 (b.bits : Int), .string b.text, .slice K2 m2 d2]] w (PostC (numEq a b) w) := by
  have ba : a.bits < 18446744073709551616 := by unfold VT.ok at oa; exact oa.2.1
  have bb : b.bits < 18446744073709551616 := by unfold VT.ok at ob; exact ob.2.1
  rcases ka with ka | ka <;> rcases kb with kb | kb
  · have := c111_22 a b A1 A2 n1 c1 n2 c2 K1 K2 m1 d1 m2 d2 w ha hb ka kb (VT.ok_int oa ka) (VT.ok_int ob kb); rw [ka, kb]; exact this
  · have := c111_23 a b A1 A2 n1 c1 n2 c2 K1 K2 m1 d1 m2 d2 w ha hb ka kb (VT.ok_int oa ka) bb; rw [ka, kb]; exact this
  · have := c111_32 a b A1 A2 n1 c1 n2 c2 K1 K2 m1 d1 m2 d2 w ha hb ka kb ba (VT.ok_int ob kb); rw [ka, kb]; exact this
  · have := c111_33 a b A1 A2 n1 c1 n2 c2 K1 K2 m1 d1 m2 d2 w ha hb ka kb ba bb; rw [ka, kb]; exact this
set_option maxHeartbeats 2000000 in
theorem c86num (a b : VT) (A1 A2 : Option Addr) (n1 c1 n2 c2 : Nat) (K1 K2 : Option Addr) (m1 d1 m2 d2 : Nat) (w : World) (ha : ByteA w A1 n1 c1 a.mag) (hb : ByteA w A2 n2 c2 b.mag) {n : Nat} (oa : VT.ok n a) (ob : VT.ok n b) (ka : a.num) (kb : b.num) :
    Calls Tryz.prog 86 #[.agg #[.int .i64 a.kind, .bool a.neg, .slice A1 n1 c1, .int .u64 (a.bits : Int), .string a.text, .slice K1 m1 d1], .agg #[.int .i64 b.kind, .bool b.neg, .slice A2 n2 c2, .int .u64 (b.bits : Int), .string b.text, .slice K2 m2 d2]] w (PostE (numEq a b) w) := by
  obtain ⟨w1, hw1, b1, r0, r1, hsz⟩ := two36 w #[.int .i64 a.kind, .bool a.neg, .slice A1 n1 c1, .int .u64 (a.bits : Int), .string a.text, .slice K1 m1 d1] #[.int .i64 b.kind, .bool b.neg, .slice A2 n2 c2, .int .u64 (b.bits : Int), .string b.text, .slice K2 m2 d2]
  have HSZ := Lib.hid hsz
  clear hsz
  have x0 := r0.cell 0 _ rfl
  have x1 := r0.cell 1 _ rfl
  have x2 := r0.cell 2 _ rfl
  have x3 := r0.cell 3 _ rfl
  have x4 := r0.cell 4 _ rfl
  have x5 := r0.cell 5 _ rfl
  have y0 := r1.cell 0 _ rfl
  have y1 := r1.cell 1 _ rfl
  have y2 := r1.cell 2 _ rfl
  have y3 := r1.cell 3 _ rfl
  have y4 := r1.cell 4 _ rfl
  have y5 := r1.cell 5 _ rfl
  have R0 := Lib.hid r0
  have R1 := Lib.hid r1
  have N0 := Lib.hid (fun W => c110 a.kind a.neg A1 n1 c1 a.bits a.text K1 m1 d1 W)
  have N1 := Lib.hid (fun W => c110 b.kind b.neg A2 n2 c2 b.bits b.text K2 m2 d2 W)
  rw [decide_eq_true (show a.kind = 2 ∨ a.kind = 3 from ka)] at N0
  rw [decide_eq_true (show b.kind = 2 ∨ b.kind = 3 from kb)] at N1
  have HC : Hid (∀ W, Below w.heap.size w W → Calls Tryz.prog 111 #[.agg #[.int .i64 a.kind, .bool a.neg, .slice A1 n1 c1, .int .u64 (a.bits : Int), .string a.text, .slice K1 m1 d1], .agg #[.int .i64 b.kind, .bool b.neg, .slice A2 n2 c2, .int .u64 (b.bits : Int), .string b.text, .slice K2 m2 d2]] W (PostC (numEq a b) W)) := fun W hW => c111 a b A1 A2 n1 c1 n2 c2 K1 K2 m1 d1 m2 d2 W (ha.below hW) (hb.below hW) oa ob ka kb
  clear ha hb oa ob ka kb r0 r1
  go_enter Tryz.func86, Tryz.ntmps86
  go_wp2_with fail
  clear hw1
  refine (N0.out _).mono ?_
  rintro e w2 ⟨rfl, hB2⟩
  have x0 := below_cell hB2 x0; have x1 := below_cell hB2 x1; have x2 := below_cell hB2 x2; have x3 := below_cell hB2 x3; have x4 := below_cell hB2 x4; have x5 := below_cell hB2 x5; have y0 := below_cell hB2 y0; have y1 := below_cell hB2 y1; have y2 := below_cell hB2 y2; have y3 := below_cell hB2 y3; have y4 := below_cell hB2 y4; have y5 := below_cell hB2 y5
  have bb := below_trans' b1 hB2; clear b1; have b1 := bb; clear bb
  have r0' := R0.out.below hB2; clear R0; have R0 := Lib.hid r0'; clear r0'
  have r1' := R1.out.below hB2; clear R1; have R1 := Lib.hid r1'; clear r1'
  clear hB2
  go_wp2_with fail
  refine (N1.out _).mono ?_
  rintro e w2 ⟨rfl, hB2⟩
  have x0 := below_cell hB2 x0; have x1 := below_cell hB2 x1; have x2 := below_cell hB2 x2; have x3 := below_cell hB2 x3; have x4 := below_cell hB2 x4; have x5 := below_cell hB2 x5; have y0 := below_cell hB2 y0; have y1 := below_cell hB2 y1; have y2 := below_cell hB2 y2; have y3 := below_cell hB2 y3; have y4 := below_cell hB2 y4; have y5 := below_cell hB2 y5
  have bb := below_trans' b1 hB2; clear b1; have b1 := bb; clear bb
  have r0' := R0.out.below hB2; clear R0; have R0 := Lib.hid r0'; clear r0'
  have r1' := R1.out.below hB2; clear R1; have R1 := Lib.hid r1'; clear r1'
  clear hB2
  go_wp2_with fail
  refine (HC.out _ b1).mono ?_
  rintro e w3 ⟨r, rfl, hr, h1, h2, hB3⟩
  have b3 := below_trans' b1 hB3
  have HR := Lib.hid hr
  clear hr
  by_cases h0 : r = 0
  · subst h0
    go_wp2_with fail
    go_ret
    exact ⟨_, rfl, fun _ => rfl, b3⟩
  · have q0 : (r == 0) = false := by rw [beq_eq_false_iff_ne]; exact h0
    go_wp2_with fail
    go_ret
    exact ⟨_, rfl, (fun h => absurd (HR.out h) h0), b3⟩
set_option maxHeartbeats 2000000 in
theorem c86diff_a (a b : VT) (A1 A2 : Option Addr) (n1 c1 n2 c2 : Nat) (K1 K2 : Option Addr) (m1 d1 m2 d2 : Nat) (w : World) (ka : ¬ a.num) (hd : a.kind ≠ b.kind ∨ m1 ≠ m2) (P : Prop) (hP : ¬ P) :
    Calls Tryz.prog 86 #[.agg #[.int .i64 a.kind, .bool a.neg, .slice A1 n1 c1, .int .u64 (a.bits : Int), .string a.text, .slice K1 m1 d1], .agg #[.int .i64 b.kind, .bool b.neg, .slice A2 n2 c2, .int .u64 (b.bits : Int), .string b.text, .slice K2 m2 d2]] w (PostE P w) := by
  obtain ⟨w1, hw1, b1, r0, r1, hsz⟩ := two36 w #[.int .i64 a.kind, .bool a.neg, .slice A1 n1 c1, .int .u64 (a.bits : Int), .string a.text, .slice K1 m1 d1] #[.int .i64 b.kind, .bool b.neg, .slice A2 n2 c2, .int .u64 (b.bits : Int), .string b.text, .slice K2 m2 d2]
  have HSZ := Lib.hid hsz
  clear hsz
  have x0 := r0.cell 0 _ rfl
  have x1 := r0.cell 1 _ rfl
  have x2 := r0.cell 2 _ rfl
  have x3 := r0.cell 3 _ rfl
  have x4 := r0.cell 4 _ rfl
  have x5 := r0.cell 5 _ rfl
  have y0 := r1.cell 0 _ rfl
  have y1 := r1.cell 1 _ rfl
  have y2 := r1.cell 2 _ rfl
  have y3 := r1.cell 3 _ rfl
  have y4 := r1.cell 4 _ rfl
  have y5 := r1.cell 5 _ rfl
  have R0 := Lib.hid r0
  have R1 := Lib.hid r1
  have N0 := Lib.hid (fun W => c110 a.kind a.neg A1 n1 c1 a.bits a.text K1 m1 d1 W)
  have N1 := Lib.hid (fun W => c110 b.kind b.neg A2 n2 c2 b.bits b.text K2 m2 d2 W)
  rw [decide_eq_false (show ¬ (a.kind = 2 ∨ a.kind = 3) from ka)] at N0
  clear ka  r0 r1
  by_cases hk : a.kind = b.kind
  · have qk : (a.kind != b.kind) = false := by rw [hk]; simp
    have qm : ((m1 : Int) != (m2 : Int)) = true := by rw [bne_iff_ne]; have := hd.resolve_left (fun h => h hk); omega
    have qm2 : ((m1 : Int) == (m2 : Int)) = false := by rw [beq_eq_false_iff_ne]; have := hd.resolve_left (fun h => h hk); omega
    clear hk hd
    go_enter Tryz.func86, Tryz.ntmps86
    go_wp2_with fail
    clear hw1
    refine (N0.out _).mono ?_
    rintro e w2 ⟨rfl, hB2⟩
    have x0 := below_cell hB2 x0; have x1 := below_cell hB2 x1; have x2 := below_cell hB2 x2; have x3 := below_cell hB2 x3; have x4 := below_cell hB2 x4; have x5 := below_cell hB2 x5; have y0 := below_cell hB2 y0; have y1 := below_cell hB2 y1; have y2 := below_cell hB2 y2; have y3 := below_cell hB2 y3; have y4 := below_cell hB2 y4; have y5 := below_cell hB2 y5
    have bb := below_trans' b1 hB2; clear b1; have b1 := bb; clear bb
    have r0' := R0.out.below hB2; clear R0; have R0 := Lib.hid r0'; clear r0'
    have r1' := R1.out.below hB2; clear R1; have R1 := Lib.hid r1'; clear r1'
    clear hB2
    go_wp2_with fail
    go_ret
    exact ⟨_, rfl, (fun h => absurd h hP), b1⟩
  · have qk : (a.kind != b.kind) = true := by rw [bne_iff_ne]; exact hk
    have qk2 : (a.kind == b.kind) = false := by rw [beq_eq_false_iff_ne]; exact hk
    clear hk hd
    go_enter Tryz.func86, Tryz.ntmps86
    go_wp2_with fail
    clear hw1
    refine (N0.out _).mono ?_
    rintro e w2 ⟨rfl, hB2⟩
    have x0 := below_cell hB2 x0; have x1 := below_cell hB2 x1; have x2 := below_cell hB2 x2; have x3 := below_cell hB2 x3; have x4 := below_cell hB2 x4; have x5 := below_cell hB2 x5; have y0 := below_cell hB2 y0; have y1 := below_cell hB2 y1; have y2 := below_cell hB2 y2; have y3 := below_cell hB2 y3; have y4 := below_cell hB2 y4; have y5 := below_cell hB2 y5
    have bb := below_trans' b1 hB2; clear b1; have b1 := bb; clear bb
    have r0' := R0.out.below hB2; clear R0; have R0 := Lib.hid r0'; clear r0'
    have r1' := R1.out.below hB2; clear R1; have R1 := Lib.hid r1'; clear r1'
    clear hB2
    go_wp2_with fail
    go_ret
    exact ⟨_, rfl, (fun h => absurd h hP), b1⟩
set_option maxHeartbeats 2000000 in
theorem c86diff_b (a b : VT) (A1 A2 : Option Addr) (n1 c1 n2 c2 : Nat) (K1 K2 : Option Addr) (m1 d1 m2 d2 : Nat) (w : World) (ka : a.num) (kb : ¬ b.num) (hd : a.kind ≠ b.kind ∨ m1 ≠ m2) (P : Prop) (hP : ¬ P) :
    Calls Tryz.prog 86 #[.agg #[.int .i64 a.kind, .bool a.neg, .slice A1 n1 c1, .int .u64 (a.bits : Int), .string a.text, .slice K1 m1 d1], .agg #[.int .i64 b.kind, .bool b.neg, .slice A2 n2 c2, .int .u64 (b.bits : Int), .string b.text, .slice K2 m2 d2]] w (PostE P w) := by
  obtain ⟨w1, hw1, b1, r0, r1, hsz⟩ := two36 w #[.int .i64 a.kind, .bool a.neg, .slice A1 n1 c1, .int .u64 (a.bits : Int), .string a.text, .slice K1 m1 d1] #[.int .i64 b.kind, .bool b.neg, .slice A2 n2 c2, .int .u64 (b.bits : Int), .string b.text, .slice K2 m2 d2]
  have HSZ := Lib.hid hsz
  clear hsz
  have x0 := r0.cell 0 _ rfl
  have x1 := r0.cell 1 _ rfl
  have x2 := r0.cell 2 _ rfl
  have x3 := r0.cell 3 _ rfl
  have x4 := r0.cell 4 _ rfl
  have x5 := r0.cell 5 _ rfl
  have y0 := r1.cell 0 _ rfl
  have y1 := r1.cell 1 _ rfl
  have y2 := r1.cell 2 _ rfl
  have y3 := r1.cell 3 _ rfl
  have y4 := r1.cell 4 _ rfl
  have y5 := r1.cell 5 _ rfl
  have R0 := Lib.hid r0
  have R1 := Lib.hid r1
  have N0 := Lib.hid (fun W => c110 a.kind a.neg A1 n1 c1 a.bits a.text K1 m1 d1 W)
  have N1 := Lib.hid (fun W => c110 b.kind b.neg A2 n2 c2 b.bits b.text K2 m2 d2 W)
  rw [decide_eq_true (show a.kind = 2 ∨ a.kind = 3 from ka)] at N0
  rw [decide_eq_false (show ¬ (b.kind = 2 ∨ b.kind = 3) from kb)] at N1
  clear ka kb r0 r1
  by_cases hk : a.kind = b.kind
  · have qk : (a.kind != b.kind) = false := by rw [hk]; simp
    have qm : ((m1 : Int) != (m2 : Int)) = true := by rw [bne_iff_ne]; have := hd.resolve_left (fun h => h hk); omega
    have qm2 : ((m1 : Int) == (m2 : Int)) = false := by rw [beq_eq_false_iff_ne]; have := hd.resolve_left (fun h => h hk); omega
    clear hk hd
    go_enter Tryz.func86, Tryz.ntmps86
    go_wp2_with fail
    clear hw1
    refine (N0.out _).mono ?_
    rintro e w2 ⟨rfl, hB2⟩
    have x0 := below_cell hB2 x0; have x1 := below_cell hB2 x1; have x2 := below_cell hB2 x2; have x3 := below_cell hB2 x3; have x4 := below_cell hB2 x4; have x5 := below_cell hB2 x5; have y0 := below_cell hB2 y0; have y1 := below_cell hB2 y1; have y2 := below_cell hB2 y2; have y3 := below_cell hB2 y3; have y4 := below_cell hB2 y4; have y5 := below_cell hB2 y5
    have bb := below_trans' b1 hB2; clear b1; have b1 := bb; clear bb
    have r0' := R0.out.below hB2; clear R0; have R0 := Lib.hid r0'; clear r0'
    have r1' := R1.out.below hB2; clear R1; have R1 := Lib.hid r1'; clear r1'
    clear hB2
    go_wp2_with fail
    refine (N1.out _).mono ?_
    rintro e w2 ⟨rfl, hB2⟩
    have x0 := below_cell hB2 x0; have x1 := below_cell hB2 x1; have x2 := below_cell hB2 x2; have x3 := below_cell hB2 x3; have x4 := below_cell hB2 x4; have x5 := below_cell hB2 x5; have y0 := below_cell hB2 y0; have y1 := below_cell hB2 y1; have y2 := below_cell hB2 y2; have y3 := below_cell hB2 y3; have y4 := below_cell hB2 y4; have y5 := below_cell hB2 y5
    have bb := below_trans' b1 hB2; clear b1; have b1 := bb; clear bb
    have r0' := R0.out.below hB2; clear R0; have R0 := Lib.hid r0'; clear r0'
    have r1' := R1.out.below hB2; clear R1; have R1 := Lib.hid r1'; clear r1'
    clear hB2
    go_wp2_with fail
    go_ret
    exact ⟨_, rfl, (fun h => absurd h hP), b1⟩
  · have qk : (a.kind != b.kind) = true := by rw [bne_iff_ne]; exact hk
    have qk2 : (a.kind == b.kind) = false := by rw [beq_eq_false_iff_ne]; exact hk
    clear hk hd
    go_enter Tryz.func86, Tryz.ntmps86
    go_wp2_with fail
    clear hw1
    refine (N0.out _).mono ?_
    rintro e w2 ⟨rfl, hB2⟩
    have x0 := below_cell hB2 x0; have x1 := below_cell hB2 x1; have x2 := below_cell hB2 x2; have x3 := below_cell hB2 x3; have x4 := below_cell hB2 x4; have x5 := below_cell hB2 x5; have y0 := below_cell hB2 y0; have y1 := below_cell hB2 y1; have y2 := below_cell hB2 y2; have y3 := below_cell hB2 y3; have y4 := below_cell hB2 y4; have y5 := below_cell hB2 y5
    have bb := below_trans' b1 hB2; clear b1; have b1 := bb; clear bb
    have r0' := R0.out.below hB2; clear R0; have R0 := Lib.hid r0'; clear r0'
    have r1' := R1.out.below hB2; clear R1; have R1 := Lib.hid r1'; clear r1'
    clear hB2
    go_wp2_with fail
    refine (N1.out _).mono ?_
    rintro e w2 ⟨rfl, hB2⟩
    have x0 := below_cell hB2 x0; have x1 := below_cell hB2 x1; have x2 := below_cell hB2 x2; have x3 := below_cell hB2 x3; have x4 := below_cell hB2 x4; have x5 := below_cell hB2 x5; have y0 := below_cell hB2 y0; have y1 := below_cell hB2 y1; have y2 := below_cell hB2 y2; have y3 := below_cell hB2 y3; have y4 := below_cell hB2 y4; have y5 := below_cell hB2 y5
    have bb := below_trans' b1 hB2; clear b1; have b1 := bb; clear bb
    have r0' := R0.out.below hB2; clear R0; have R0 := Lib.hid r0'; clear r0'
    have r1' := R1.out.below hB2; clear R1; have R1 := Lib.hid r1'; clear r1'
    clear hB2
    go_wp2_with fail
    go_ret
    exact ⟨_, rfl, (fun h => absurd h hP), b1⟩
set_option maxHeartbeats 2000000 in
theorem c86none (a b : VT) (A1 A2 : Option Addr) (n1 c1 n2 c2 : Nat) (K1 K2 : Option Addr) (m1 d1 m2 d2 : Nat) (w : World) (hm : m1 = m2) (P : Prop) :
    Calls Tryz.prog 86 #[.agg #[.int .i64 0, .bool a.neg, .slice A1 n1 c1, .int .u64 (a.bits : Int), .string a.text, .slice K1 m1 d1], .agg #[.int .i64 0, .bool b.neg, .slice A2 n2 c2, .int .u64 (b.bits : Int), .string b.text, .slice K2 m2 d2]] w (PostE P w) := by
  obtain ⟨w1, hw1, b1, r0, r1, hsz⟩ := two36 w #[.int .i64 0, .bool a.neg, .slice A1 n1 c1, .int .u64 (a.bits : Int), .string a.text, .slice K1 m1 d1] #[.int .i64 0, .bool b.neg, .slice A2 n2 c2, .int .u64 (b.bits : Int), .string b.text, .slice K2 m2 d2]
  have HSZ := Lib.hid hsz
  clear hsz
  have x0 := r0.cell 0 _ rfl
  have x1 := r0.cell 1 _ rfl
  have x2 := r0.cell 2 _ rfl
  have x3 := r0.cell 3 _ rfl
  have x4 := r0.cell 4 _ rfl
  have x5 := r0.cell 5 _ rfl
  have y0 := r1.cell 0 _ rfl
  have y1 := r1.cell 1 _ rfl
  have y2 := r1.cell 2 _ rfl
  have y3 := r1.cell 3 _ rfl
  have y4 := r1.cell 4 _ rfl
  have y5 := r1.cell 5 _ rfl
  have R0 := Lib.hid r0
  have R1 := Lib.hid r1
  have N0 := Lib.hid (fun W => c110 0 a.neg A1 n1 c1 a.bits a.text K1 m1 d1 W)
  have N1 := Lib.hid (fun W => c110 0 b.neg A2 n2 c2 b.bits b.text K2 m2 d2 W)
  rw [decide_eq_false (by omega)] at N0
  subst hm
  clear r0 r1
  go_enter Tryz.func86, Tryz.ntmps86
  go_wp2_with fail
  clear hw1
  refine (N0.out _).mono ?_
  rintro e w2 ⟨rfl, hB2⟩
  have x0 := below_cell hB2 x0; have x1 := below_cell hB2 x1; have x2 := below_cell hB2 x2; have x3 := below_cell hB2 x3; have x4 := below_cell hB2 x4; have x5 := below_cell hB2 x5; have y0 := below_cell hB2 y0; have y1 := below_cell hB2 y1; have y2 := below_cell hB2 y2; have y3 := below_cell hB2 y3; have y4 := below_cell hB2 y4; have y5 := below_cell hB2 y5
  have bb := below_trans' b1 hB2; clear b1; have b1 := bb; clear bb
  have r0' := R0.out.below hB2; clear R0; have R0 := Lib.hid r0'; clear r0'
  have r1' := R1.out.below hB2; clear R1; have R1 := Lib.hid r1'; clear r1'
  clear hB2
  go_wp2_with fail
  go_ret
  exact ⟨_, rfl, (fun h => rfl), b1⟩
set_option maxHeartbeats 2000000 in
theorem c86bool (a b : VT) (A1 A2 : Option Addr) (n1 c1 n2 c2 : Nat) (K1 K2 : Option Addr) (m1 d1 m2 d2 : Nat) (w : World) (hm : m1 = m2) (P : Prop) (hP : P → a.bits = b.bits) :
    Calls Tryz.prog 86 #[.agg #[.int .i64 1, .bool a.neg, .slice A1 n1 c1, .int .u64 (a.bits : Int), .string a.text, .slice K1 m1 d1], .agg #[.int .i64 1, .bool b.neg, .slice A2 n2 c2, .int .u64 (b.bits : Int), .string b.text, .slice K2 m2 d2]] w (PostE P w) := by
  obtain ⟨w1, hw1, b1, r0, r1, hsz⟩ := two36 w #[.int .i64 1, .bool a.neg, .slice A1 n1 c1, .int .u64 (a.bits : Int), .string a.text, .slice K1 m1 d1] #[.int .i64 1, .bool b.neg, .slice A2 n2 c2, .int .u64 (b.bits : Int), .string b.text, .slice K2 m2 d2]
  have HSZ := Lib.hid hsz
  clear hsz
  have x0 := r0.cell 0 _ rfl
  have x1 := r0.cell 1 _ rfl
  have x2 := r0.cell 2 _ rfl
  have x3 := r0.cell 3 _ rfl
  have x4 := r0.cell 4 _ rfl
  have x5 := r0.cell 5 _ rfl
  have y0 := r1.cell 0 _ rfl
  have y1 := r1.cell 1 _ rfl
  have y2 := r1.cell 2 _ rfl
  have y3 := r1.cell 3 _ rfl
  have y4 := r1.cell 4 _ rfl
  have y5 := r1.cell 5 _ rfl
  have R0 := Lib.hid r0
  have R1 := Lib.hid r1
  have N0 := Lib.hid (fun W => c110 1 a.neg A1 n1 c1 a.bits a.text K1 m1 d1 W)
  have N1 := Lib.hid (fun W => c110 1 b.neg A2 n2 c2 b.bits b.text K2 m2 d2 W)
  rw [decide_eq_false (by omega)] at N0
  subst hm
  have HP := Lib.hid hP
  clear r0 r1 hP
  go_enter Tryz.func86, Tryz.ntmps86
  go_wp2_with fail
  clear hw1
  refine (N0.out _).mono ?_
  rintro e w2 ⟨rfl, hB2⟩
  have x0 := below_cell hB2 x0; have x1 := below_cell hB2 x1; have x2 := below_cell hB2 x2; have x3 := below_cell hB2 x3; have x4 := below_cell hB2 x4; have x5 := below_cell hB2 x5; have y0 := below_cell hB2 y0; have y1 := below_cell hB2 y1; have y2 := below_cell hB2 y2; have y3 := below_cell hB2 y3; have y4 := below_cell hB2 y4; have y5 := below_cell hB2 y5
  have bb := below_trans' b1 hB2; clear b1; have b1 := bb; clear bb
  have r0' := R0.out.below hB2; clear R0; have R0 := Lib.hid r0'; clear r0'
  have r1' := R1.out.below hB2; clear R1; have R1 := Lib.hid r1'; clear r1'
  clear hB2
  go_wp2_with fail
  go_ret
  exact ⟨_, rfl, (fun h => by rw [HP.out h]; simp), b1⟩
set_option maxHeartbeats 4000000 in
theorem c86loop (a b : VT) (A1 A2 : Option Addr) (n1 c1 n2 c2 : Nat) (K1 K2 : Option Addr) (m1 d1 m2 d2 : Nat) (w : World) (hm : m1 = m2) (hk : a.kind = 4 ∨ a.kind = 5 ∨ a.kind = 7) (hkb : a.kind = b.kind) (nl : Nat) (hm16 : m1 ≤ 16) (P : Prop) (S S' : BS) (hS : ∀ k, S k → k < w.heap.size) (hS' : ∀ k, S' k → k < w.heap.size)
    (hP : P → a.text = b.text ∧ ∀ i, i < m1 → EqT nl (a.kids.getD i default) (b.kids.getD i default)) (hKa : 0 < m1 → KidC (VC nl S w) S w K1 m1 a.kids) (hKb : 0 < m1 → KidC (VC nl S' w) S' w K2 m1 b.kids)
    (hoa : ∀ k ∈ a.kids, VT.ok nl k ∧ VT.key nl k) (hob : ∀ k ∈ b.kids, VT.ok nl k ∧ VT.key nl k) (hE : 0 < m1 → EqC nl) :
    Calls Tryz.prog 86 #[.agg #[.int .i64 a.kind, .bool a.neg, .slice A1 n1 c1, .int .u64 (a.bits : Int), .string a.text, .slice K1 m1 d1], .agg #[.int .i64 b.kind, .bool b.neg, .slice A2 n2 c2, .int .u64 (b.bits : Int), .string b.text, .slice K2 m2 d2]] w (PostE P w) := by
  subst hm
  obtain ⟨w1, hw1, b1, r0, r1, hsz⟩ := two36 w #[.int .i64 a.kind, .bool a.neg, .slice A1 n1 c1, .int .u64 (a.bits : Int), .string a.text, .slice K1 m1 d1] #[.int .i64 b.kind, .bool b.neg, .slice A2 n2 c2, .int .u64 (b.bits : Int), .string b.text, .slice K2 m1 d2]
  have HSZ := Lib.hid hsz
  clear hsz
  have x0 := r0.cell 0 _ rfl
  have x1 := r0.cell 1 _ rfl
  have x2 := r0.cell 2 _ rfl
  have x3 := r0.cell 3 _ rfl
  have x4 := r0.cell 4 _ rfl
  have x5 := r0.cell 5 _ rfl
  have y0 := r1.cell 0 _ rfl
  have y1 := r1.cell 1 _ rfl
  have y2 := r1.cell 2 _ rfl
  have y3 := r1.cell 3 _ rfl
  have y4 := r1.cell 4 _ rfl
  have y5 := r1.cell 5 _ rfl
  have R0 := Lib.hid r0
  have R1 := Lib.hid r1
  have N0 := Lib.hid (fun W => c110 a.kind a.neg A1 n1 c1 a.bits a.text K1 m1 d1 W)
  have N1 := Lib.hid (fun W => c110 b.kind b.neg A2 n2 c2 b.bits b.text K2 m1 d2 W)
  rw [decide_eq_false (by omega)] at N0
  rw [← hkb] at y0 N1 R1
  have q0 : (a.kind == 0) = false := by rw [beq_eq_false_iff_ne]; omega
  have q1 : (a.kind == 1) = false := by rw [beq_eq_false_iff_ne]; omega
  have q8 : (a.kind == 8) = false := by rw [beq_eq_false_iff_ne]; omega
  have q9 : (a.kind == 9) = false := by rw [beq_eq_false_iff_ne]; omega
  have HP := Lib.hid hP
  have HKa := Lib.hid hKa
  have HKb := Lib.hid hKb
  have HE := Lib.hid hE
  have HOA := Lib.hid hoa
  have HOB := Lib.hid hob
  rw [← hkb] at hw1 ⊢
  clear r0 r1 hP hKa hKb hE hoa hob hkb hk
  generalize a.kind = kd at *
  go_enter Tryz.func86, Tryz.ntmps86
  go_wp2_with fail
  clear hw1
  refine (N0.out _).mono ?_
  rintro e w2 ⟨rfl, hB2⟩
  have x0 := below_cell hB2 x0; have x1 := below_cell hB2 x1; have x2 := below_cell hB2 x2; have x3 := below_cell hB2 x3; have x4 := below_cell hB2 x4; have x5 := below_cell hB2 x5; have y0 := below_cell hB2 y0; have y1 := below_cell hB2 y1; have y2 := below_cell hB2 y2; have y3 := below_cell hB2 y3; have y4 := below_cell hB2 y4; have y5 := below_cell hB2 y5
  have bb := below_trans' b1 hB2; clear b1; have b1 := bb; clear bb
  have r0' := R0.out.below hB2; clear R0; have R0 := Lib.hid r0'; clear r0'
  have r1' := R1.out.below hB2; clear R1; have R1 := Lib.hid r1'; clear r1'
  clear hB2
  go_wp2_with fail
  clear x0 x1 x2 x3 x4 x5 y0 y1 y2 y3 y4 y5
  go_loopw [7] (fun vi wr => ∃ (i : Nat), i ≤ m1 ∧ vi = .int .i64 (i : Int) ∧ Below w.heap.size w wr ∧ Hid (RowB wr w.heap.size #[.int .i64 kd, .bool a.neg, .slice A1 n1 c1, .int .u64 (a.bits : Int), .string a.text, .slice K1 m1 d1] 36) ∧ Hid (RowB wr (w.heap.size + 1) #[.int .i64 kd, .bool b.neg, .slice A2 n2 c2, .int .u64 (b.bits : Int), .string b.text, .slice K2 m1 d2] 36)) (fun vi _ => m1 - (intOf vi).toNat)
  case atStart => exact ⟨0, by omega, rfl, b1, R0.out, R1.out⟩
  case round =>
    obtain ⟨i, hi, rfl, hB, r0, r1⟩ := hrel
    have x5 := r0.out.cell 5 _ rfl
    have y5 := r1.out.cell 5 _ rfl
    by_cases hlt : i < m1
    · obtain ⟨g, A3, a3, c3, K3, m3, d3, rfl, hSg, hVk, z0, z1, z2, z3, z4, z5⟩ := (HKa.out (by omega)).at hS i hlt hB
      obtain ⟨g', A4, a4, c4, K4, m4, d4, rfl, hSg', hVk', v0, v1, v2, v3, v4, v5⟩ := (HKb.out (by omega)).at hS' i hlt hB
      have la := (HKa.out (by omega)).1
      have lb := (HKb.out (by omega)).1
      have hka := HOA.out (a.kids.getD i default) (by rw [List.getD_eq_getElem?_getD, List.getElem?_eq_getElem (by omega)]; exact List.getElem_mem (by omega))
      have hkb := HOB.out (b.kids.getD i default) (by rw [List.getD_eq_getElem?_getD, List.getElem?_eq_getElem (by omega)]; exact List.getElem_mem (by omega))
      have hSr : ∀ k, S k → k < wr.drew.heap.size := fun k hk => Nat.lt_of_lt_of_le (hS k hk) hB.size
      have hSr' : ∀ k, S' k → k < wr.drew.heap.size := fun k hk => Nat.lt_of_lt_of_le (hS' k hk) hB.size
      have HC := Lib.hid (HE.out (by omega) wr.drew _ _ _ _ S S' (hVk.below (below_drew1 wr) hSr) (hVk'.below (below_drew1 wr) hSr') hka.1 hkb.1 hka.2 hkb.2 hSr hSr')
      have HPi : Hid (P → EqT nl (a.kids.getD i default) (b.kids.getD i default)) := fun h => (HP.out h).2 i hlt
      generalize a.kids.getD i default = ka at *
      generalize b.kids.getD i default = kb at *
      have p1 : (i : Int) < (m1 : Int) := by omega
      clear hVk hVk' hka hkb la lb
      have b0 := hB
      go_upto_region 23 with (fail)
      go_region_law (first | (go_simp; go_at_call 86; refine HC.out.mono ?_; rintro e w2 ⟨r, rfl, hr, hB2⟩))
      all_goals
        have b2 := below_trans' (below_trans' b0 (below_drew1 wr)) hB2
        have r0' := (RowB.drew r0.out).below hB2
        have r1' := (RowB.drew r1.out).below hB2
        have HR := Lib.hid hr
        clear hr
        cases r
        · go_wp2_with fail
          go_ret
          exact ⟨_, rfl, (fun h => HR.out (HPi.out h)), b2⟩
        · go_wp2_with fail
          go_roundw
          case rel => exact ⟨i + 1, by omega, by go_num, b2, r0', r1'⟩
          case measure => simp [intOf]; omega
    · have him : i = m1 := by omega
      subst him
      have x4 := r0.out.cell 4 _ rfl
      have y4 := r1.out.cell 4 _ rfl
      go_wp2_with fail
      go_ret
      exact ⟨_, rfl, (fun h => by rw [(HP.out h).1]; simp), hB⟩
theorem VC.shape {n : Nat} {S : BS} {w : World} {t : VT} {cs : Array Value} (h : VC n S w t cs) : ∃ A a c K m d, cs = #[.int .i64 t.kind, .bool t.neg, .slice A a c, .int .u64 (t.bits : Int), .string t.text, .slice K m d] ∧ t.kids.length = m ∧ m ≤ d := by
  obtain ⟨A, a, c, K, m, d, e, _, _, hd, hl, _⟩ := h.head
  exact ⟨A, a, c, K, m, d, e, hl, hd⟩
theorem c86 (n : Nat) (ih : ∀ m, n = m + 1 → EqC m) : EqC n := by
  intro w a b ca cb S S' ha hb oa ob ya yb hS hS'
  obtain ⟨A1, n1, c1, K1, m1, d1, rfl, hl1, hd1⟩ := ha.shape
  obtain ⟨A2, n2, c2, K2, m2, d2, rfl, hl2, hd2⟩ := hb.shape
  have hpost : ∀ P : Prop, (EqT n a b → P) → Calls Tryz.prog 86 #[.agg #[.int .i64 a.kind, .bool a.neg, .slice A1 n1 c1, .int .u64 (a.bits : Int), .string a.text, .slice K1 m1 d1], .agg #[.int .i64 b.kind, .bool b.neg, .slice A2 n2 c2, .int .u64 (b.bits : Int), .string b.text, .slice K2 m2 d2]] w (PostE P w) →
      Calls Tryz.prog 86 #[.agg #[.int .i64 a.kind, .bool a.neg, .slice A1 n1 c1, .int .u64 (a.bits : Int), .string a.text, .slice K1 m1 d1], .agg #[.int .i64 b.kind, .bool b.neg, .slice A2 n2 c2, .int .u64 (b.bits : Int), .string b.text, .slice K2 m2 d2]] w fun e w' => ∃ r, e = .returned (.bool r) ∧ (EqT n a b → r = true) ∧ Below w.heap.size w w' :=
    fun P hP h => h.mono fun e w' ⟨r, h1, h2, h3⟩ => ⟨r, h1, fun h => h2 (hP h), h3⟩
  have hun : EqT n a b → numEq a b ∨ (a.kind = b.kind ∧ ¬ a.num ∧ (a.kind = 1 → a.bits = b.bits) ∧ a.text = b.text ∧ a.kids.length = b.kids.length) := by
    intro h
    unfold EqT at h
    rcases h with h | ⟨h1, h2, h3, h4, h5, _⟩
    · exact .inl h
    · exact .inr ⟨h1, h2, h3, h4, h5⟩
  have hnn : numEq a b → a.num ∧ b.num := by
    intro h
    unfold numEq at h
    rcases h with ⟨h1, h2, _⟩ | ⟨h1, h2, _⟩ | ⟨h1, h2, _⟩ | ⟨h1, h2, _⟩
    · exact ⟨.inl h1, .inl h2⟩
    · exact ⟨.inl h1, .inr h2⟩
    · exact ⟨.inr h1, .inl h2⟩
    · exact ⟨.inr h1, .inr h2⟩
  by_cases na : a.num
  · by_cases nb : b.num
    · refine hpost _ ?_ (c86num a b A1 A2 n1 c1 n2 c2 K1 K2 m1 d1 m2 d2 w ha.bytes hb.bytes oa ob na nb)
      intro h
      rcases hun h with h | h
      · exact h
      · exact absurd na h.2.1
    · refine hpost (EqT n a b) id (c86diff_b a b A1 A2 n1 c1 n2 c2 K1 K2 m1 d1 m2 d2 w na nb (.inl fun e => nb (by unfold VT.num at na ⊢; rwa [← e])) _ ?_)
      intro h
      rcases hun h with h | h
      · exact nb (hnn h).2
      · exact h.2.1 na
  · by_cases hd : a.kind = b.kind ∧ m1 = m2
    · obtain ⟨hk, hm⟩ := hd
      have hun2 : EqT n a b → (a.kind = 1 → a.bits = b.bits) ∧ a.text = b.text := fun h => by
        rcases hun h with h | h
        · exact absurd (hnn h).1 na
        · exact ⟨h.2.2.1, h.2.2.2.1⟩
      have hkey : (0 ≤ a.kind ∧ a.kind < 6) ∨ a.kind = 7 := by
        unfold VT.key at ya
        rcases ya with h | h
        · exact .inl h
        · exact .inr h.1
      have na' : a.kind ≠ 2 ∧ a.kind ≠ 3 := ⟨fun e => na (.inl e), fun e => na (.inr e)⟩
      rcases (by omega : a.kind = 0 ∨ a.kind = 1 ∨ (a.kind = 4 ∨ a.kind = 5 ∨ a.kind = 7)) with h0 | h1 | h4
      · have h0b := hk.symm.trans h0
        have := c86none a b A1 A2 n1 c1 n2 c2 K1 K2 m1 d1 m2 d2 w hm (EqT n a b)
        rw [← h0] at this
        rw [hk] at this ⊢
        exact this
      · have h1b := hk.symm.trans h1
        have := c86bool a b A1 A2 n1 c1 n2 c2 K1 K2 m1 d1 m2 d2 w hm (EqT n a b) (fun h => (hun2 h).1 h1)
        rw [← h1] at this
        rw [hk] at this ⊢
        exact this
      · by_cases h7 : a.kind = 7
        · obtain ⟨_, h16, n', rfl, hko⟩ := VT.ok_ge oa (by omega)
          obtain ⟨_, _, n'', e, hkb⟩ := VT.ok_ge ob (by omega)
          cases e
          have yka : ∀ k ∈ a.kids, VT.key n' k := by
            unfold VT.key at ya
            rcases ya with h | h
            · omega
            · exact h.2
          have ykb : ∀ k ∈ b.kids, VT.key n' k := by
            unfold VT.key at yb
            rcases yb with h | h
            · omega
            · exact h.2
          refine c86loop a b A1 A2 n1 c1 n2 c2 K1 K2 m1 d1 m2 d2 w hm h4 hk n' (by omega) (EqT (n' + 1) a b) S S' hS hS' ?_ (fun _ => ha.kids) (fun _ => by rw [hm]; exact hb.kids) (fun k h => ⟨hko k h, yka k h⟩) (fun k h => ⟨hkb k h, ykb k h⟩) (fun _ => ih n' rfl)
          intro h
          refine ⟨(hun2 h).2, fun i hi => ?_⟩
          unfold EqT at h
          rcases h with h | h
          · exact absurd (hnn h).1 na
          · exact h.2.2.2.2.2 i (by rw [hl1]; exact hi)
        · have hz1 := VT.ok_lt oa (by omega)
          have hz2 := VT.ok_lt ob (by omega)
          have hm0 : m1 = 0 := by rw [← hl1, hz1.2.1]; rfl
          refine c86loop a b A1 A2 n1 c1 n2 c2 K1 K2 m1 d1 m2 d2 w hm h4 hk 0 (by omega) (EqT n a b) S S' hS hS' ?_ (fun h => by omega) (fun h => by omega) (fun k h => by rw [hz1.2.1] at h; cases h) (fun k h => by rw [hz2.2.1] at h; cases h) (fun h => by omega)
          exact fun h => ⟨(hun2 h).2, fun i hi => by omega⟩
    · refine hpost (EqT n a b) id (c86diff_a a b A1 A2 n1 c1 n2 c2 K1 K2 m1 d1 m2 d2 w na (by omega) _ ?_)
      intro h
      rcases hun h with h | h
      · exact na (hnn h).1
      · exact hd ⟨h.1, by rw [← hl1, ← hl2]; exact h.2.2.2.2⟩
theorem EqC_all (n : Nat) : EqC n := by
  induction n with
  | zero => exact c86 0 fun m h => by omega
  | succ n ih => exact c86 (n + 1) fun m h => by cases h; exact ih
end Go.Proofs.YtpfihjkhgfoijaaGreatDoor
namespace Go.Proofs.YtpfihjkhgfoijaaGreatDoor
open Go.RowKit

def PostH (P : Prop) (w : World) (e : Ending) (w' : World) : Prop := ∃ r, e = .returned (.bool r) ∧ (r = true ↔ P) ∧ Below w.heap.size w w'
def HashD (n : Nat) : Prop := ∀ (w : World) (t : VT) (cs : Array Value) (S : BS), VC n S w t cs → VT.ok n t → (∀ k, S k → k < w.heap.size) →
  Calls Tryz.prog 42 #[.agg cs] w (PostH (VT.key n t) w)
set_option maxHeartbeats 4000000 in
theorem c42d (n : Nat) (ih : ∀ m, n = m + 1 → HashD m) : HashD n := by
  intro w t cs S hI hok hS
  obtain ⟨A, a, c, K, m, d, rfl, _, _, hmd, hkl, _⟩ := hI.head
  obtain ⟨w1, hw1, b1, r1⟩ : ∃ w1, w.alloc (.cells #[.int .i64 t.kind, .bool t.neg, .slice A a c, .int .u64 (t.bits : Int), .string t.text, .slice K m d] 36) = w1 ∧ Below w.heap.size w w1 ∧ RowB w1 w.heap.size #[.int .i64 t.kind, .bool t.neg, .slice A a c, .int .u64 (t.bits : Int), .string t.text, .slice K m d] 36 :=
    ⟨_, rfl, below_alloc' (Below.refl _ _) _, RowB.new w _ _⟩
  have e0 := r1.cell 0 _ rfl
  have R1 := Lib.hid r1
  clear r1
  by_cases h7 : t.kind = 7
  · obtain ⟨hk9, hk16, n', rfl, hkids⟩ := VT.ok_ge hok (by omega)
    have hKC := Lib.hid hI.kids
    have HK := Lib.hid hkids
    have HIH := Lib.hid (ih n' rfl)
    have hm16 : m ≤ 16 := by omega
    have q7 : (t.kind == 7) = true := by rw [h7]; rfl
    have H7 := Lib.hid h7
    clear hI hok hkids ih h7
    go_enter Tryz.func42, Tryz.ntmps42
    go_wp2_with fail
    clear hw1
    go_loopw [3] (fun vi wr => ∃ (i : Nat), i ≤ m ∧ vi = .int .i64 (i : Int) ∧ Below w.heap.size w wr ∧ Hid (RowB wr w.heap.size #[.int .i64 t.kind, .bool t.neg, .slice A a c, .int .u64 (t.bits : Int), .string t.text, .slice K m d] 36) ∧ (∀ j, j < i → VT.key n' (t.kids.getD j default))) (fun vi _ => m - (intOf vi).toNat)
    case atStart => exact ⟨0, by omega, rfl, b1, R1.out, by omega⟩
    case round =>
      obtain ⟨i, hi, rfl, hB, r1, hys⟩ := hrel
      have e5 := r1.out.cell 5 _ rfl
      by_cases hlt : i < m
      · obtain ⟨g, A2, a2, c2, K2, m2, d2, rfl, hSg, hVk, z0, z1, z2, z3, z4, z5⟩ := hKC.out.at hS i hlt hB
        have hkok := HK.out (t.kids.getD i default) (by rw [List.getD_eq_getElem?_getD, List.getElem?_eq_getElem (by rw [hkl]; exact hlt)]; exact List.getElem_mem (by rw [hkl]; exact hlt))
        have hSr : ∀ k, S k → k < wr.heap.size := fun k hk => Nat.lt_of_lt_of_le (hS k hk) hB.size
        have HC := Lib.hid (HIH.out wr _ _ S hVk hkok hSr)
        generalize hkd : t.kids.getD i default = kid at *
        have HKD := Lib.hid hkd
        have q1 : (i : Int) < (m : Int) := by omega
        clear hVk hkok hkd
        go_wp2_with fail
        refine HC.out.mono ?_
        rintro e w2 ⟨r, rfl, hr, hB2⟩
        have b2 := below_trans' hB hB2
        have r2 := r1.out.below hB2
        have HR := Lib.hid hr
        clear hr
        cases r
        · go_wp2_with fail
          go_ret
          refine ⟨_, rfl, ⟨fun h => Bool.noConfusion h, fun h => ?_⟩, b2⟩
          unfold VT.key at h
          rcases h with h | h
          · have := H7.out; omega
          · refine HR.out.2 ?_
            rw [← HKD.out]
            exact h.2 _ (by rw [List.getD_eq_getElem?_getD, List.getElem?_eq_getElem (by rw [hkl]; exact hlt)]; exact List.getElem_mem (by rw [hkl]; exact hlt))
        · go_wp2_with fail
          go_roundw
          case rel =>
            refine ⟨i + 1, by omega, by go_num, b2, r2, fun j hj => ?_⟩
            by_cases hji : j < i
            · exact hys j hji
            · have : j = i := by omega
              subst this
              rw [HKD.out]; exact HR.out.1 trivial
          case measure => simp [intOf]; omega
      · have him : i = m := by omega
        subst him
        go_wp2_with fail
        go_ret
        refine ⟨_, rfl, ⟨fun _ => ?_, fun _ => rfl⟩, hB⟩
        unfold VT.key
        refine .inr ⟨H7.out, fun k hk => ?_⟩
        obtain ⟨j, hj, rfl⟩ := List.mem_iff_getElem.1 hk
        have := hys j (by omega)
        rwa [List.getD_eq_getElem?_getD, List.getElem?_eq_getElem hj] at this
  · have q7 : (t.kind == 7) = false := by rw [beq_eq_false_iff_ne]; exact h7
    by_cases h6 : t.kind < 6
    · have hkey : VT.key n t := by unfold VT.key; exact .inl ⟨(VT.ok_lt hok h6).2.2, h6⟩
      have HKY := Lib.hid hkey
      clear hI hok ih hkey
      go_enter Tryz.func42, Tryz.ntmps42
      go_wp2_with fail
      go_ret
      exact ⟨_, rfl, ⟨fun _ => HKY.out, fun _ => rfl⟩, b1⟩
    · have hnk : ¬ VT.key n t := by
        unfold VT.key
        rintro (h | h)
        · omega
        · exact h7 h.1
      have HNK := Lib.hid hnk
      clear hI hok ih hnk
      go_enter Tryz.func42, Tryz.ntmps42
      go_wp2_with fail
      go_ret
      exact ⟨_, rfl, ⟨fun h => Bool.noConfusion h, fun h => absurd h HNK.out⟩, b1⟩
theorem HashD_all (n : Nat) : HashD n := by
  induction n with
  | zero => exact c42d 0 fun m h => by omega
  | succ n ih => exact c42d (n + 1) fun m h => by cases h; exact ih
end Go.Proofs.YtpfihjkhgfoijaaGreatDoor

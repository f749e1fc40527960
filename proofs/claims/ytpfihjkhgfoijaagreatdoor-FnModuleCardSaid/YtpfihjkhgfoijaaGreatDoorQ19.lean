/- Contract of spec.Int.Cmp: equal numbers give 0; Contract of spec.Int.Lsh; Contract of spec.Whole; Contract of spec.Whole; Contracts of spec.CmpFloat, spec.CmpFloats. -/
import Derived.Test.YtpfihjkhgfoijaaGreatDoorQ18
import Derived.Outline
import Derived.Test.YtpfihjkhgfoijaaGreatDoorQ17
import Derived.Laws.ResultCell
set_option linter.unusedVariables false
set_option linter.unusedSimpArgs false
set_option maxRecDepth 100000
namespace Go.Proofs.YtpfihjkhgfoijaaGreatDoor
open Go.RowKit

theorem box92b (w : World) (n1 n2 : Bool) (A B : Option Addr) (n m c d : Nat) : ∃ w1, (w.alloc (.cells #[.bool n1, .slice A n c] 92)).alloc (.cells #[.bool n2, .slice B m d] 92) = w1 ∧ Below w.heap.size w w1 ∧ RowB w1 w.heap.size #[.bool n1, .slice A n c] 92 ∧ RowB w1 (w.heap.size + 1) #[.bool n2, .slice B m d] 92 ∧ w1.heap.size = w.heap.size + 1 + 1 :=
  ⟨_, rfl, below_alloc' (below_alloc' (Below.refl _ _) _) _, (RowB.new w _ _).alloc _, by
    have := RowB.new (w.alloc (.cells #[.bool n1, .slice A n c] 92)) #[.bool n2, .slice B m d] 92
    rw [alloc_size] at this; exact this, by rw [alloc_size, alloc_size]⟩
set_option maxHeartbeats 4000000 in
theorem c80a (n2 : Bool) (A B : Option Addr) (n m c d : Nat) (us bs : List Nat) (w : World) (ha : ByteR w A n c us) (hb : ByteR w B m d bs) (hn : n ≤ 100000) (hm : m ≤ 100000) (hs : sgnI false n = sgnI n2 m) :
    Calls Tryz.prog 80 #[.agg #[.bool false, .slice A n c], .agg #[.bool n2, .slice B m d]] w fun e w' => ∃ r : Int, e = .returned (.int .i64 r) ∧ (false = n2 → us = bs → r = 0) ∧ -1 ≤ r ∧ r ≤ 1 ∧ Below w.heap.size w w' := by
  obtain ⟨w1, hw1, b1, r1, r2, hsz⟩ := box92b w false n2 A B n m c d
  have x0 := r1.cell 0 _ rfl
  have x1 := r1.cell 1 _ rfl
  have y0 := r2.cell 0 _ rfl
  have y1 := r2.cell 1 _ rfl
  have hsg : false = n2 → us = bs → sgnI false n = sgnI n2 m := by
    rintro rfl rfl; rw [← ha.len, ← hb.len]
  have HSG := Lib.hid hsg
  have HA := Lib.hid ha
  have HB := Lib.hid hb
  have H7a := Lib.hid (fun W => c107 false A n c W)
  have H7b := Lib.hid (fun W => c107 n2 B m d W)
  clear hsg ha hb
  generalize sgnI false n = s1 at *
  generalize sgnI n2 m = s2 at *
  subst hs
  go_enter Tryz.func80, Tryz.ntmps80
  go_wp2_with fail
  clear hw1
  go_region_held3 (fun W => W.cell? ⟨w.heap.size, 0, none⟩ = some (.bool false) ∧ W.cell? ⟨w.heap.size, 1, none⟩ = some (.slice A n c) ∧ W.cell? ⟨w.heap.size + 1, 0, none⟩ = some (.bool n2) ∧ W.cell? ⟨w.heap.size + 1, 1, none⟩ = some (.slice B m d)) (first | exact ⟨x0, x1, y0, y1⟩)
    (first
    | (go_at_call 107; first | refine (H7a.out _).mono ?_ | refine (H7b.out _).mono ?_
       rintro e w2 ⟨rfl, hB2⟩
       first
       | (have x0 := below_cell (w := World.drew _) hB2 x0; have x1 := below_cell (w := World.drew _) hB2 x1; have y0 := below_cell (w := World.drew _) hB2 y0; have y1 := below_cell (w := World.drew _) hB2 y1; have bb := below_trans' (below_trans' b1 (below_drew1 _)) hB2; clear b1; have b1 := bb)
       | (have x0 := below_cell hB2 x0; have x1 := below_cell hB2 x1; have y0 := below_cell hB2 y0; have y1 := below_cell hB2 y1; have bb := below_trans' b1 hB2; clear b1; have b1 := bb)))
  go_wp2_with fail
  refine (c108 A B n m c d us bs w2 (HA.out.below bb) (HB.out.below bb) hn).mono ?_
  rintro e w3 ⟨r, rfl, hr, h1, h2, hB3⟩
  have b3 := below_trans' bb hB3
  have HR := Lib.hid hr
  clear hr
  go_wp2_with fail
  go_ret
  exact ⟨r, rfl, fun _ e2 => HR.out e2, h1, h2, b3⟩
set_option maxHeartbeats 4000000 in
theorem c80b (n2 : Bool) (A B : Option Addr) (n m c d : Nat) (us bs : List Nat) (w : World) (ha : ByteR w A n c us) (hb : ByteR w B m d bs) (hn : n ≤ 100000) (hm : m ≤ 100000) (hs : sgnI true n = sgnI n2 m) :
    Calls Tryz.prog 80 #[.agg #[.bool true, .slice A n c], .agg #[.bool n2, .slice B m d]] w fun e w' => ∃ r : Int, e = .returned (.int .i64 r) ∧ (true = n2 → us = bs → r = 0) ∧ -1 ≤ r ∧ r ≤ 1 ∧ Below w.heap.size w w' := by
  obtain ⟨w1, hw1, b1, r1, r2, hsz⟩ := box92b w true n2 A B n m c d
  have x0 := r1.cell 0 _ rfl
  have x1 := r1.cell 1 _ rfl
  have y0 := r2.cell 0 _ rfl
  have y1 := r2.cell 1 _ rfl
  have hsg : true = n2 → us = bs → sgnI true n = sgnI n2 m := by
    rintro rfl rfl; rw [← ha.len, ← hb.len]
  have HSG := Lib.hid hsg
  have HA := Lib.hid ha
  have HB := Lib.hid hb
  have H7a := Lib.hid (fun W => c107 true A n c W)
  have H7b := Lib.hid (fun W => c107 n2 B m d W)
  clear hsg ha hb
  generalize sgnI true n = s1 at *
  generalize sgnI n2 m = s2 at *
  subst hs
  go_enter Tryz.func80, Tryz.ntmps80
  go_wp2_with fail
  clear hw1
  go_region_held3 (fun W => W.cell? ⟨w.heap.size, 0, none⟩ = some (.bool true) ∧ W.cell? ⟨w.heap.size, 1, none⟩ = some (.slice A n c) ∧ W.cell? ⟨w.heap.size + 1, 0, none⟩ = some (.bool n2) ∧ W.cell? ⟨w.heap.size + 1, 1, none⟩ = some (.slice B m d)) (first | exact ⟨x0, x1, y0, y1⟩)
    (first
    | (go_at_call 107; first | refine (H7a.out _).mono ?_ | refine (H7b.out _).mono ?_
       rintro e w2 ⟨rfl, hB2⟩
       first
       | (have x0 := below_cell (w := World.drew _) hB2 x0; have x1 := below_cell (w := World.drew _) hB2 x1; have y0 := below_cell (w := World.drew _) hB2 y0; have y1 := below_cell (w := World.drew _) hB2 y1; have bb := below_trans' (below_trans' b1 (below_drew1 _)) hB2; clear b1; have b1 := bb)
       | (have x0 := below_cell hB2 x0; have x1 := below_cell hB2 x1; have y0 := below_cell hB2 y0; have y1 := below_cell hB2 y1; have bb := below_trans' b1 hB2; clear b1; have b1 := bb)))
  go_wp2_with fail
  refine (c108 B A m n d c bs us w2 (HB.out.below bb) (HA.out.below bb) hm).mono ?_
  rintro e w3 ⟨r, rfl, hr, h1, h2, hB3⟩
  have b3 := below_trans' bb hB3
  have HR := Lib.hid hr
  clear hr
  go_wp2_with fail
  go_ret
  exact ⟨r, rfl, fun _ e2 => HR.out e2.symm, h1, h2, b3⟩
set_option maxHeartbeats 4000000 in
theorem c80c (n1 n2 : Bool) (A B : Option Addr) (n m c d : Nat) (us bs : List Nat) (w : World) (ha : ByteR w A n c us) (hb : ByteR w B m d bs) (hn : n ≤ 100000) (hm : m ≤ 100000) (hs : sgnI n1 n < sgnI n2 m) :
    Calls Tryz.prog 80 #[.agg #[.bool n1, .slice A n c], .agg #[.bool n2, .slice B m d]] w fun e w' => ∃ r : Int, e = .returned (.int .i64 r) ∧ (n1 = n2 → us = bs → r = 0) ∧ -1 ≤ r ∧ r ≤ 1 ∧ Below w.heap.size w w' := by
  obtain ⟨w1, hw1, b1, r1, r2, hsz⟩ := box92b w n1 n2 A B n m c d
  have x0 := r1.cell 0 _ rfl
  have x1 := r1.cell 1 _ rfl
  have y0 := r2.cell 0 _ rfl
  have y1 := r2.cell 1 _ rfl
  have hsg : n1 = n2 → us = bs → sgnI n1 n = sgnI n2 m := by
    rintro rfl rfl; rw [← ha.len, ← hb.len]
  have HSG := Lib.hid hsg
  have HA := Lib.hid ha
  have HB := Lib.hid hb
  have H7a := Lib.hid (fun W => c107 n1 A n c W)
  have H7b := Lib.hid (fun W => c107 n2 B m d W)
  clear hsg ha hb
  generalize sgnI n1 n = s1 at *
  generalize sgnI n2 m = s2 at *
  have q : (s1 == s2) = false := by rw [beq_eq_false_iff_ne]; omega
  go_enter Tryz.func80, Tryz.ntmps80
  go_wp2_with fail
  clear hw1
  go_region_held3 (fun W => W.cell? ⟨w.heap.size, 0, none⟩ = some (.bool n1) ∧ W.cell? ⟨w.heap.size, 1, none⟩ = some (.slice A n c) ∧ W.cell? ⟨w.heap.size + 1, 0, none⟩ = some (.bool n2) ∧ W.cell? ⟨w.heap.size + 1, 1, none⟩ = some (.slice B m d)) (first | exact ⟨x0, x1, y0, y1⟩)
    (first
    | (go_at_call 107; first | refine (H7a.out _).mono ?_ | refine (H7b.out _).mono ?_
       rintro e w2 ⟨rfl, hB2⟩
       first
       | (have x0 := below_cell (w := World.drew _) hB2 x0; have x1 := below_cell (w := World.drew _) hB2 x1; have y0 := below_cell (w := World.drew _) hB2 y0; have y1 := below_cell (w := World.drew _) hB2 y1; have bb := below_trans' (below_trans' b1 (below_drew1 _)) hB2; clear b1; have b1 := bb)
       | (have x0 := below_cell hB2 x0; have x1 := below_cell hB2 x1; have y0 := below_cell hB2 y0; have y1 := below_cell hB2 y1; have bb := below_trans' b1 hB2; clear b1; have b1 := bb)))
  clear bb
  go_wp2_with fail
  go_region_held3 (fun W => W.cell? ⟨w.heap.size, 0, none⟩ = some (.bool n1) ∧ W.cell? ⟨w.heap.size, 1, none⟩ = some (.slice A n c) ∧ W.cell? ⟨w.heap.size + 1, 0, none⟩ = some (.bool n2) ∧ W.cell? ⟨w.heap.size + 1, 1, none⟩ = some (.slice B m d)) (first | exact ⟨x0, x1, y0, y1⟩)
    (first
    | (go_at_call 107; first | refine (H7a.out _).mono ?_ | refine (H7b.out _).mono ?_
       rintro e w2 ⟨rfl, hB2⟩
       first
       | (have x0 := below_cell (w := World.drew _) hB2 x0; have x1 := below_cell (w := World.drew _) hB2 x1; have y0 := below_cell (w := World.drew _) hB2 y0; have y1 := below_cell (w := World.drew _) hB2 y1; have bb := below_trans' (below_trans' b1 (below_drew1 _)) hB2; clear b1; have b1 := bb)
       | (have x0 := below_cell hB2 x0; have x1 := below_cell hB2 x1; have y0 := below_cell hB2 y0; have y1 := below_cell hB2 y1; have bb := below_trans' b1 hB2; clear b1; have b1 := bb)))
  go_wp2_with fail
  go_ret
  exact ⟨_, rfl, fun e1 e2 => absurd (HSG.out e1 e2) (by omega), by omega, by omega, bb⟩
set_option maxHeartbeats 4000000 in
theorem c80d (n1 n2 : Bool) (A B : Option Addr) (n m c d : Nat) (us bs : List Nat) (w : World) (ha : ByteR w A n c us) (hb : ByteR w B m d bs) (hn : n ≤ 100000) (hm : m ≤ 100000) (hs : sgnI n2 m < sgnI n1 n) :
    Calls Tryz.prog 80 #[.agg #[.bool n1, .slice A n c], .agg #[.bool n2, .slice B m d]] w fun e w' => ∃ r : Int, e = .returned (.int .i64 r) ∧ (n1 = n2 → us = bs → r = 0) ∧ -1 ≤ r ∧ r ≤ 1 ∧ Below w.heap.size w w' := by
  obtain ⟨w1, hw1, b1, r1, r2, hsz⟩ := box92b w n1 n2 A B n m c d
  have x0 := r1.cell 0 _ rfl
  have x1 := r1.cell 1 _ rfl
  have y0 := r2.cell 0 _ rfl
  have y1 := r2.cell 1 _ rfl
  have hsg : n1 = n2 → us = bs → sgnI n1 n = sgnI n2 m := by
    rintro rfl rfl; rw [← ha.len, ← hb.len]
  have HSG := Lib.hid hsg
  have HA := Lib.hid ha
  have HB := Lib.hid hb
  have H7a := Lib.hid (fun W => c107 n1 A n c W)
  have H7b := Lib.hid (fun W => c107 n2 B m d W)
  clear hsg ha hb
  generalize sgnI n1 n = s1 at *
  generalize sgnI n2 m = s2 at *
  have q : (s1 == s2) = false := by rw [beq_eq_false_iff_ne]; omega
  go_enter Tryz.func80, Tryz.ntmps80
  go_wp2_with fail
  clear hw1
  go_region_held3 (fun W => W.cell? ⟨w.heap.size, 0, none⟩ = some (.bool n1) ∧ W.cell? ⟨w.heap.size, 1, none⟩ = some (.slice A n c) ∧ W.cell? ⟨w.heap.size + 1, 0, none⟩ = some (.bool n2) ∧ W.cell? ⟨w.heap.size + 1, 1, none⟩ = some (.slice B m d)) (first | exact ⟨x0, x1, y0, y1⟩)
    (first
    | (go_at_call 107; first | refine (H7a.out _).mono ?_ | refine (H7b.out _).mono ?_
       rintro e w2 ⟨rfl, hB2⟩
       first
       | (have x0 := below_cell (w := World.drew _) hB2 x0; have x1 := below_cell (w := World.drew _) hB2 x1; have y0 := below_cell (w := World.drew _) hB2 y0; have y1 := below_cell (w := World.drew _) hB2 y1; have bb := below_trans' (below_trans' b1 (below_drew1 _)) hB2; clear b1; have b1 := bb)
       | (have x0 := below_cell hB2 x0; have x1 := below_cell hB2 x1; have y0 := below_cell hB2 y0; have y1 := below_cell hB2 y1; have bb := below_trans' b1 hB2; clear b1; have b1 := bb)))
  clear bb
  go_wp2_with fail
  go_region_held3 (fun W => W.cell? ⟨w.heap.size, 0, none⟩ = some (.bool n1) ∧ W.cell? ⟨w.heap.size, 1, none⟩ = some (.slice A n c) ∧ W.cell? ⟨w.heap.size + 1, 0, none⟩ = some (.bool n2) ∧ W.cell? ⟨w.heap.size + 1, 1, none⟩ = some (.slice B m d)) (first | exact ⟨x0, x1, y0, y1⟩)
    (first
    | (go_at_call 107; first | refine (H7a.out _).mono ?_ | refine (H7b.out _).mono ?_
       rintro e w2 ⟨rfl, hB2⟩
       first
       | (have x0 := below_cell (w := World.drew _) hB2 x0; have x1 := below_cell (w := World.drew _) hB2 x1; have y0 := below_cell (w := World.drew _) hB2 y0; have y1 := below_cell (w := World.drew _) hB2 y1; have bb := below_trans' (below_trans' b1 (below_drew1 _)) hB2; clear b1; have b1 := bb)
       | (have x0 := below_cell hB2 x0; have x1 := below_cell hB2 x1; have y0 := below_cell hB2 y0; have y1 := below_cell hB2 y1; have bb := below_trans' b1 hB2; clear b1; have b1 := bb)))
  go_wp2_with fail
  go_ret
  exact ⟨_, rfl, fun e1 e2 => absurd (HSG.out e1 e2) (by omega), by omega, by omega, bb⟩
theorem c80 (n1 n2 : Bool) (A B : Option Addr) (n m c d : Nat) (us bs : List Nat) (w : World) (ha : ByteR w A n c us) (hb : ByteR w B m d bs) (hn : n ≤ 100000) (hm : m ≤ 100000) :
    Calls Tryz.prog 80 #[.agg #[.bool n1, .slice A n c], .agg #[.bool n2, .slice B m d]] w fun e w' => ∃ r : Int, e = .returned (.int .i64 r) ∧ (n1 = n2 → us = bs → r = 0) ∧ -1 ≤ r ∧ r ≤ 1 ∧ Below w.heap.size w w' := by
  rcases Int.lt_trichotomy (sgnI n1 n) (sgnI n2 m) with h | h | h
  · exact c80c n1 n2 A B n m c d us bs w ha hb hn hm h
  · cases n1
    · exact c80a n2 A B n m c d us bs w ha hb hn hm h
    · exact c80b n2 A B n m c d us bs w ha hb hn hm h
  · exact c80d n1 n2 A B n m c d us bs w ha hb hn hm h
end Go.Proofs.YtpfihjkhgfoijaaGreatDoor
namespace Go.Proofs.YtpfihjkhgfoijaaGreatDoor
open Go.RowKit

theorem cut_low {bs : List Nat} (h : Cut bs) (hne : bs ≠ []) : 256 ^ (bs.length - 1) ≤ bval bs := by
  cases bs with
  | nil => exact absurd rfl hne
  | cons b bs =>
    have hb : b ≠ 0 := by
      rcases h with h | h
      · cases h
      · simpa using h
    rw [bval_cons, List.length_cons, Nat.add_sub_cancel]
    have : 256 ^ bs.length ≤ b * 256 ^ bs.length := Nat.le_mul_of_pos_left _ (by omega)
    omega
theorem cut_len {bs : List Nat} (h : Cut bs) (hr : ∀ b ∈ bs, b < 256) {j : Nat} (hv : bval bs < 256 ^ j) : bs.length ≤ j := by
  by_cases hne : bs = []
  · subst hne; simp
  · have h1 := cut_low h hne
    apply Classical.byContradiction
    intro hc
    have h2 : 256 ^ j ≤ 256 ^ (bs.length - 1) := Nat.pow_le_pow_right (by omega) (by omega)
    omega
theorem pow_lt2 (k n : Nat) (h : k < 8 * n) : 2 ^ k < 256 ^ n := by
  rw [show 256 = 2 ^ 8 from rfl, ← Nat.pow_mul]
  exact Nat.pow_lt_pow_right (by omega) h
theorem pow_bytes (k : Nat) (h : k ≤ 2000) : 2 ^ k < 256 ^ 251 := pow_lt2 k 251 (by omega)
theorem mul_bytes (v k i n j : Nat) (hv : v < 256 ^ i) (hk : k < 8 * n) (hj : j = i + n) : v * 2 ^ k < 256 ^ j := by
  subst hj
  rw [Nat.pow_add]
  exact Nat.mul_lt_mul_of_lt_of_le hv (Nat.le_of_lt (pow_lt2 k n hk)) (Nat.pow_pos (by omega))
def PostI (w : World) (neg : Bool) (v : Nat) (e : Ending) (w' : World) : Prop :=
  ∃ D q f bs, e = .returned (.agg #[.bool (neg && decide (0 < bs.length)), .slice D q f]) ∧ Sits w.heap.size (fun W => ByteR W D q f bs) w' ∧ Cut bs ∧ bval bs = v ∧ Below w.heap.size w w'
set_option maxHeartbeats 2000000 in
theorem c167 (n1 : Bool) (A : Option Addr) (n c k : Nat) (us : List Nat) (w : World) (ha : ByteR w A n c us) (hn : n ≤ 300) (hk : k ≤ 2000) (hz : n = 0 → n1 = false) (hcut : Cut us) :
    Calls Tryz.prog 167 #[.agg #[.bool n1, .slice A n c], .int .i64 (k : Int)] w (PostI w n1 (bval us * 2 ^ k)) := by
  obtain ⟨w1, hw1, b1, r0, r1, hsz⟩ : ∃ w1, (w.alloc (.cells #[.bool n1, .slice A n c] 92)).alloc (.cells #[.bool false, .slice none 0 0] 92) = w1 ∧ Below w.heap.size w w1 ∧
      RowB w1 w.heap.size #[.bool n1, .slice A n c] 92 ∧ RowB w1 (w.heap.size + 1) #[.bool false, .slice none 0 0] 92 ∧ w1.heap.size = w.heap.size + 1 + 1 :=
    ⟨_, rfl, below_alloc' (below_alloc' (Below.refl _ _) _) _, (RowB.new w _ _).alloc _, by
      have := RowB.new (w.alloc (.cells #[.bool n1, .slice A n c] 92)) #[.bool false, .slice none 0 0] 92
      rw [alloc_size] at this; exact this, by rw [alloc_size, alloc_size]⟩
  have e0 := r0.cell 0 _ rfl
  have e1 := r0.cell 1 _ rfl
  have HC := Lib.hid (c129 n1 A n c w1)
  have HA := Lib.hid ha
  have R1 := Lib.hid r1
  by_cases h0 : n = 0
  · obtain rfl := hz h0
    have hb0 : us = [] := List.eq_nil_of_length_eq_zero (ha.len.trans h0)
    rw [decide_eq_true h0] at HC
    have HB0 := Lib.hid hb0
    clear h0 hz ha hcut r1 hb0
    go_enter Tryz.func167, Tryz.ntmps167
    go_wp2_with fail
    clear hw1
    refine HC.out.mono ?_
    rintro e w2 ⟨rfl, hB⟩
    have b2 := below_trans' b1 hB
    have r2 := R1.out.below hB
    obtain ⟨f0, g0, f1, g1⟩ := facts2 (.bool false) r2
    have hr := Lib.hid (set2 (.bool false) (.slice none 0 0) r2)
    go_wp2_with fail
    refine bodyPost_ret (ret_row hr.out rfl _ _ rfl Tryz.underlying92 rfl i92) rfl ?_
    refine ⟨none, 0, 0, [], rfl, fun W _ _ => ByteR.empty W _ _, .inl rfl, by rw [HB0.out]; simp [bval], below_grown' b2 (set2_grown _ _ _ _) (by omega)⟩
  · rw [decide_eq_false h0] at HC
    have HP := Lib.hid (fun W => c179 k W hk)
    have HM := Lib.hid (fun (W : World) (B : Option Addr) (m d : Nat) (bs : List Nat) (h1 : ByteR W A n c us) (h2 : ByteR W B m d bs) (hm : m ≤ 300) => c178 n1 false A B n m c d us bs W h1 h2 hn hm)
    clear hz ha r1
    go_enter Tryz.func167, Tryz.ntmps167
    go_wp2_with fail
    clear hw1
    refine HC.out.mono ?_
    rintro e w2 ⟨rfl, hB⟩
    have b2 := below_trans' b1 hB
    have z0 := below_cell hB e0
    have z1 := below_cell hB e1
    clear e0 e1
    go_wp2_with fail
    go_region_law (first
      | (go_simp; go_at_call 179; refine (HP.out _).mono ?_; rintro e w3 ⟨B, m, d, bs, rfl, hS, hcu, hbv, hB3⟩
         have t0 := below_cell (w := World.drew _) hB3 z0
         have t1 := below_cell (w := World.drew _) hB3 z1
         have bb := below_trans' (below_trans' b2 (below_drew1 _)) hB3
         have r3 := Lib.hid ((RowB.drew (R1.out.below hB)).below hB3)
         have hml := cut_len hcu hS.out.rng (j := 251) (by rw [hbv]; exact pow_bytes k hk)
         rw [hS.out.len] at hml
         have HS := Lib.hid hS; have HBV := Lib.hid hbv; clear hS hbv hcu)
      | (go_simp; go_at_call 178; refine (HM.out _ _ _ _ _ (HA.out.below bb) HS.out.out (by omega)).mono ?_; rintro e w4 ⟨D, q, f, bs', rfl, hS4, hcu4, hbv4, hB4⟩
         have r4 := r3.out.below hB4
         have hng : (n1 != false) = n1 := by cases n1 <;> rfl
         rw [hng]
         clear hng
         have HNG : Hid ((n1 && decide (0 < bs'.length)) = (n1 && decide (0 < bs'.length))) := rfl
         have HS4 := Lib.hid hS4; have HBV4 := Lib.hid hbv4; have HCU4 := Lib.hid hcu4; clear hS4 hbv4 hcu4
         generalize hng : (n1 && decide (0 < bs'.length)) = ng at *
         have HG := Lib.hid hng; clear hng
         obtain ⟨f0, g0, f1, g1⟩ := facts2 (.bool ng) r4
         have hr := Lib.hid (set2 (.bool ng) (.slice D q f) r4)))
    all_goals
      have b4 := below_trans' bb hB4
      go_wp2_with fail
      refine bodyPost_ret (ret_row hr.out rfl _ _ rfl Tryz.underlying92 rfl i92) rfl ?_
      have l3 := bb.size
      have l4 := r3.out.lt
      exact ⟨D, q, f, bs', by rw [HG.out], (HS4.out.grown (set2_grown _ _ _ _) (by omega)).mono (by omega), HCU4.out, by rw [HBV4.out, HBV.out], below_grown' b4 (set2_grown _ _ _ _) (by omega)⟩
end Go.Proofs.YtpfihjkhgfoijaaGreatDoor
namespace Go.Proofs.YtpfihjkhgfoijaaGreatDoor
open Go.RowKit

/-- the integer z is worth just the float u (finite) -/
@[irreducible] def isW (z : Int) (u : Nat) : Prop := z * 2 ^ 1074 = fW u
def PostW (u : Nat) (w : World) (e : Ending) (w' : World) : Prop :=
  ∃ D q f bs ng al, e = .returned (.tuple #[.agg #[.bool (ng && decide (0 < bs.length)), .slice D q f], .bool al]) ∧ Sits w.heap.size (fun W => ByteR W D q f bs) w' ∧ Cut bs ∧ q ≤ 300 ∧ (∀ z : Int, isW z u → al = true ∧ bz (ng && decide (0 < bs.length)) bs = z) ∧ Below w.heap.size w w'
theorem bz_val {ng : Bool} {bs : List Nat} : bz (ng && decide (0 < bs.length)) bs = if ng then -(bval bs : Int) else (bval bs : Int) := by
  unfold bz
  cases bs with
  | nil => cases ng <;> simp [bval]
  | cons b bs => cases ng <;> simp
theorem pow_split (a b : Nat) (h : b ≤ a) : (2 : Int) ^ a = 2 ^ (a - b) * 2 ^ b := by rw [← Int.pow_add]; congr 1; omega
theorem cancel_pow {z m : Int} (a : Nat) (h : z * 2 ^ a = m * 2 ^ a) : z = m := Int.eq_of_mul_eq_mul_right (Int.ne_of_gt (Int.pow_pos (by omega))) h
/-- a whole float -/
theorem whole_a {u k : Nat} {z : Int} (hE : fE u = k + 1075) (h : isW z u) : z = if fS u then -((fM u * 2 ^ k : Nat) : Int) else ((fM u * 2 ^ k : Nat) : Int) := by
  unfold isW at h
  unfold fW at h
  obtain ⟨T, hT⟩ : ∃ T : Nat, T = 1074 := ⟨_, rfl⟩
  rw [← hT] at h
  rw [show fE u - 1 = k + T from by omega, Nat.pow_add, ← Nat.mul_assoc] at h
  generalize fM u * 2 ^ k = X at *
  apply cancel_pow T
  rw [h, Int.natCast_mul, Int.natCast_pow]
  cases fS u
  · rfl
  · simp only [if_true, Int.neg_mul]; rfl
theorem pow_small {M E S T : Nat} (hM : M ≤ 9007199254740992) (hE : E ≤ S) (hT : T = S + 64) : M * 2 ^ E < 2 ^ T := by
  have a : 2 ^ E ≤ 2 ^ S := Nat.pow_le_pow_right (by omega) hE
  have c := Nat.mul_le_mul hM a
  have p := Nat.two_pow_pos S
  rw [hT, Nat.pow_add, show (2 : Nat) ^ 64 = 18446744073709551616 from rfl]
  omega
/-- a float that is too small to be whole, unless it is 0 -/
theorem whole_b {u : Nat} {z : Int} (hE : fE u ≤ 1011) (h : isW z u) : z = 0 ∧ fM u = 0 := by
  unfold isW at h
  obtain ⟨T, hT⟩ : ∃ T : Nat, T = 1074 := ⟨_, rfl⟩
  rw [← hT] at h
  have h1 : fM u * 2 ^ (fE u - 1) < 2 ^ T := pow_small (S := 1010) (by have := fM_le u; omega) (by omega) (by omega)
  unfold fW at h
  have hp : (0 : Int) < 2 ^ T := Int.pow_pos (by omega)
  have hc : ((2 ^ T : Nat) : Int) = 2 ^ T := by rw [Int.natCast_pow]; rfl
  have hz : z = 0 := by
    apply Classical.byContradiction
    intro hne
    have habs : (2 : Int) ^ T ≤ z.natAbs * 2 ^ T := by
      have := Int.mul_le_mul_of_nonneg_right (show (1 : Int) ≤ (z.natAbs : Int) by omega) (Int.le_of_lt hp)
      rwa [Int.one_mul] at this
    have e : ((z.natAbs : Int) * 2 ^ T) = ((z * 2 ^ T).natAbs : Int) := by rw [Int.natAbs_mul, Int.natCast_mul, Int.natAbs_pow, Int.natCast_pow]; rfl
    rw [e, h] at habs
    generalize fM u * 2 ^ (fE u - 1) = X at *
    split at habs <;> (rw [← hc] at habs; omega)
  refine ⟨hz, ?_⟩
  rw [hz, Int.zero_mul] at h
  have hx : fM u * 2 ^ (fE u - 1) = 0 := by
    generalize fM u * 2 ^ (fE u - 1) = X at *
    split at h <;> omega
  rcases Nat.mul_eq_zero.1 hx with h | h
  · exact h
  · exact absurd h (Nat.ne_of_gt (Nat.two_pow_pos _))
/-- a float with j digits behind the point -/
theorem whole_c {u j : Nat} {z : Int} (hj : j ≤ 63) (hE : fE u + j = 1075) (h : isW z u) : fM u % 2 ^ j = 0 ∧ z = if fS u then -((fM u / 2 ^ j : Nat) : Int) else ((fM u / 2 ^ j : Nat) : Int) := by
  unfold isW at h
  have h1 : z * 2 ^ j = if fS u then -(fM u : Int) else (fM u : Int) := by
    unfold fW at h
    rw [show fE u - 1 = 1074 - j from by omega, pow_split 1074 j (by omega), Int.mul_comm (2 ^ (1074 - j)), ← Int.mul_assoc, Int.natCast_mul, Int.natCast_pow] at h
    apply cancel_pow (1074 - j)
    rw [h]
    cases fS u
    · rfl
    · simp only [if_true, Int.neg_mul]; rfl
  have h2 : fM u = z.natAbs * 2 ^ j := by
    have : (z * 2 ^ j).natAbs = fM u := by
      rw [h1]; split <;> simp
    rw [Int.natAbs_mul, Int.natAbs_pow] at this
    exact this.symm
  have hpos := Nat.two_pow_pos j
  rw [h2, Nat.mul_mod_left, Nat.mul_div_cancel _ hpos]
  refine ⟨rfl, ?_⟩
  rw [h2] at h1
  have hc : ((z.natAbs * 2 ^ j : Nat) : Int) = (z.natAbs : Int) * 2 ^ j := by rw [Int.natCast_mul, Int.natCast_pow]; rfl
  rw [hc] at h1
  cases hs : fS u
  · rw [hs] at h1
    exact cancel_pow j h1
  · rw [hs] at h1
    simp only [if_true] at h1 ⊢
    apply cancel_pow j
    rw [h1, Int.neg_mul]
end Go.Proofs.YtpfihjkhgfoijaaGreatDoor
namespace Go.Proofs.YtpfihjkhgfoijaaGreatDoor
open Go.RowKit

theorem ret_rowT {fn : Func} {p u : Tmp} {ty : TypeId} {w : World} {g : Nat} {cs : Array Value} {e : TypeId} (h : RowB w g cs e) (hr : fn.results = #[.cell p ty, .tmp u]) (tmps : Array Value) (d : TypeDesc) (v : Value) (hv : tmps.getD u undef = v)
    (hd : (match d with | .struct _ | .array _ _ => true | _ => false) = true) (hu : Tryz.prog.underlying ty = some d) (hp : tmps.getD p undef = .pointer (some ⟨g, 0, none⟩)) (hi : (Tryz.prog.info? ty).map (·.size) = some cs.size) :
    (results fn tmps).run Tryz.prog w = .ok (.tuple #[.agg cs, v]) w := by
  rw [results_cell_tmp hr, hp, hv]
  simp only [asAddr, Sem.run_pure, Result.andThen_ok]
  rw [run_loadVar_row w g e ty cs (0, 0) d h.out hu (by cases d <;> simp_all) hi]
  rfl
set_option maxHeartbeats 1000000 in
theorem c148a (u k : Nat) (w : World) (hu : u < 18446744073709551616) (hE : fE u = k + 1075) : Calls Tryz.prog 148 #[.float .f64 u] w (PostW u w) := by
  obtain ⟨w1, hw1, b1, r1, hsz⟩ : ∃ w1, w.alloc (.cells #[.bool false, .slice none 0 0] 92) = w1 ∧ Below w.heap.size w w1 ∧ RowB w1 w.heap.size #[.bool false, .slice none 0 0] 92 ∧ w1.heap.size = w.heap.size + 1 :=
    ⟨_, rfl, below_alloc' (Below.refl _ _) _, RowB.new w _ _, alloc_size _ _⟩
  have HSZ := Lib.hid hsz
  clear hsz
  have h5 := c165 u w1 hu
  rw [hE, if_neg (by omega), show ((k + 1075 : Nat) : Int) - 1075 = (k : Int) from by omega] at h5
  have H5 := Lib.hid h5
  have HE := Lib.hid hE
  have hk : k ≤ 2000 := by have := fE_le u; omega
  have hM := fM_le u
  have H6 := Lib.hid (c166 (fM u) w1 (by omega))
  have R1 := Lib.hid r1
  have HW : Hid (∀ z : Int, isW z u → z = if fS u then -((fM u * 2 ^ k : Nat) : Int) else ((fM u * 2 ^ k : Nat) : Int)) := fun z h => whole_a hE h
  clear h5 r1 hE
  generalize fM u = M at *
  generalize fS u = S at *
  go_enter Tryz.func148, Tryz.ntmps148
  go_wp2_with fail
  clear hw1
  refine H5.out.mono ?_
  rintro e w1' ⟨rfl, rfl⟩
  go_wp2_with fail
  refine H6.out.mono ?_
  rintro e w2 ⟨zs, rfl, hz, hzl, hzr, hzv, hB2⟩
  have H39 := Lib.hid (c39 S _ _ _ _ _ (ByteA.of_blk (c := 8) hz hzr (by omega)) (by omega))
  rw [hzl] at H39
  have r2 := Lib.hid (R1.out.below hB2)
  have b2 := below_trans' b1 hB2
  have HV := Lib.hid hzv
  clear hz hzl hzr hzv
  go_wp2_with fail
  refine H39.out.mono ?_
  rintro e w3 ⟨B, m, d, rfl, hS, hB3⟩
  have r3 := Lib.hid (r2.out.below hB3)
  have b3 := below_trans' b2 hB3
  have hlen := cut_len (cutL_cut zs) hS.out.rng (j := 8) (by rw [cutL_bval, HV.out]; omega)
  rw [hS.out.len] at hlen
  have hml := Lib.hid hS.out.len
  have HS := Lib.hid hS
  have hng0 : Hid (m = 0 → (S && decide (0 < (cutL zs).length)) = false) := fun h => by rw [hml.out, h]; simp
  have hngv : Hid ((S && decide (0 < (cutL zs).length)) = (S && decide (0 < (cutL zs).length))) := rfl
  clear hS
  generalize hng : (S && decide (0 < (cutL zs).length)) = ng at *
  have HNG := Lib.hid hng
  clear hng hngv
  have q4 : RowB (w3.alloc (.cells #[.bool ng, .slice B m d] 92)) w3.heap.size #[.bool ng, .slice B m d] 92 := RowB.new _ _ _
  have b4 : Below w.heap.size w (w3.alloc (.cells #[.bool ng, .slice B m d] 92)) := below_alloc' b3 _
  have r4 := Lib.hid (r3.out.alloc (.cells #[.bool ng, .slice B m d] 92))
  have hS4 := Lib.hid (HS.out.below (below_alloc' (Below.refl _ _) (.cells #[.bool ng, .slice B m d] 92)))
  have k0 := q4.cell 0 _ rfl
  have k1 := q4.cell 1 _ rfl
  have H7 := Lib.hid (fun (W : World) (hW : ByteR W B m d (cutL zs)) => c167 ng B m d k (cutL zs) W hW (by omega) hk (fun h => hng0.out h) (cutL_cut zs))
  go_wp2_with fail
  refine (H7.out _ hS4.out.out).mono ?_
  rintro e w5 ⟨D, q, f, bs, rfl, hS5, hcu, hbv, hB5⟩
  have r5 := r4.out.below hB5
  have b5 := below_trans' b4 hB5
  have l1 := b1.size
  have l2 := hB2.size
  have l3 := hB3.size
  have l4 := alloc_size w3 (.cells #[.bool ng, .slice B m d] 92)
  have hq := cut_len hcu hS5.out.rng (j := 258) (by
    rw [hbv, cutL_bval, HV.out]
    exact mul_bytes _ k 7 251 258 (by omega) (by omega) rfl)
  rw [hS5.out.len] at hq
  have HS5 := Lib.hid hS5
  have HBV := Lib.hid hbv
  have HCU := Lib.hid hcu
  have hS5l : Hid (bs = [] → M * 2 ^ k = 0) := fun h => by
    have := HBV.out; rw [h, cutL_bval, HV.out] at this; exact this.symm
  clear hS5 hbv hcu
  have hbz : Hid ((ng && decide (0 < bs.length)) = (S && decide (0 < bs.length))) := by
    show _ = _
    rw [← HNG.out]
    by_cases h0 : 0 < (cutL zs).length
    · rw [decide_eq_true h0, Bool.and_true]
    · have hz : cutL zs = [] := List.eq_nil_of_length_eq_zero (by omega)
      have : bs = [] := by
        have h1 := HBV.out
        rw [hz] at h1
        have h2 : bval bs = 0 := by rw [h1]; simp [bval]
        by_cases hb : bs = []
        · exact hb
        · have h3 := cut_low HCU.out hb
          have h4 := Nat.pow_pos (n := bs.length - 1) (show 0 < 256 by omega)
          omega
      rw [this]; simp
  obtain ⟨n5, hn5⟩ : ∃ n5, (ng && decide (0 < bs.length)) = n5 := ⟨_, rfl⟩
  have hbz2 : Hid (n5 = (S && decide (0 < bs.length))) := by show _ = _; rw [← hn5]; exact hbz.out
  rw [hn5]
  clear hn5 hbz
  obtain ⟨f0, g0, f1, g1⟩ := facts2 (.bool n5) r5
  have hr := Lib.hid (set2 (.bool n5) (.slice D q f) r5)
  go_wp2_with fail
  refine bodyPost_ret (ret_rowT hr.out rfl _ _ (.bool true) rfl rfl Tryz.underlying92 rfl i92) rfl ?_
  refine ⟨D, q, f, bs, S, true, by rw [hbz2.out], (HS5.out.grown (set2_grown _ _ _ _) (by omega)).mono (by omega), HCU.out, by omega, fun z hz => ⟨rfl, ?_⟩, below_grown' b5 (set2_grown _ _ _ _) (by omega)⟩
  rw [bz_val, HW.out z hz, HBV.out, cutL_bval, HV.out]
set_option maxHeartbeats 1000000 in
theorem c148b (u j : Nat) (w : World) (hu : u < 18446744073709551616) (hE : fE u ≤ 1011) (hj : (if fE u = 0 then -1074 else (fE u : Int) - 1075) = -(j : Int)) : Calls Tryz.prog 148 #[.float .f64 u] w (PostW u w) := by
  obtain ⟨w1, hw1, b1, r1, hsz⟩ : ∃ w1, w.alloc (.cells #[.bool false, .slice none 0 0] 92) = w1 ∧ Below w.heap.size w w1 ∧ RowB w1 w.heap.size #[.bool false, .slice none 0 0] 92 ∧ w1.heap.size = w.heap.size + 1 :=
    ⟨_, rfl, below_alloc' (Below.refl _ _) _, RowB.new w _ _, alloc_size _ _⟩
  have HSZ := Lib.hid hsz
  clear hsz
  have h5 := c165 u w1 hu
  rw [hj] at h5
  have hj64 : 64 ≤ j := by split at hj <;> omega
  have hj2 : j ≤ 1074 := by split at hj <;> omega
  have H5 := Lib.hid h5
  have HE := Lib.hid hE
  have hM := fM_le u
  have H6 := Lib.hid (c166 (fM u) w1 (by omega))
  have R1 := Lib.hid r1
  have HW : Hid (∀ z : Int, isW z u → z = 0 ∧ fM u = 0) := fun z h => whole_b hE h
  have HJ := Lib.hid hj
  clear h5 r1 hE hj
  clear HJ HE
  generalize fM u = M at *
  generalize fS u = S at *
  go_enter Tryz.func148, Tryz.ntmps148
  go_wp2_with fail
  clear hw1
  refine H5.out.mono ?_
  rintro e w1' ⟨rfl, rfl⟩
  go_wp2_with fail
  refine H6.out.mono ?_
  rintro e w2 ⟨zs, rfl, hz, hzl, hzr, hzv, hB2⟩
  have H39 := Lib.hid (c39 S _ _ _ _ _ (ByteA.of_blk (c := 8) hz hzr (by omega)) (by omega))
  rw [hzl] at H39
  have r2 := Lib.hid (R1.out.below hB2)
  have b2 := below_trans' b1 hB2
  have HV := Lib.hid hzv
  clear hz hzl hzr hzv
  go_wp2_with fail
  refine H39.out.mono ?_
  rintro e w3 ⟨B, m, d, rfl, hS, hB3⟩
  have r3 := Lib.hid (r2.out.below hB3)
  have b3 := below_trans' b2 hB3
  have hlen := cut_len (cutL_cut zs) hS.out.rng (j := 8) (by rw [cutL_bval, HV.out]; omega)
  rw [hS.out.len] at hlen
  have hml := Lib.hid hS.out.len
  have HS := Lib.hid hS
  have hng0 : Hid (m = 0 → (S && decide (0 < (cutL zs).length)) = false) := fun h => by rw [hml.out, h]; simp
  have hngv : Hid ((S && decide (0 < (cutL zs).length)) = (S && decide (0 < (cutL zs).length))) := rfl
  clear hS
  generalize hng : (S && decide (0 < (cutL zs).length)) = ng at *
  have HNG := Lib.hid hng
  clear hng hngv
  have q4 : RowB (w3.alloc (.cells #[.bool ng, .slice B m d] 92)) w3.heap.size #[.bool ng, .slice B m d] 92 := RowB.new _ _ _
  have b4 : Below w.heap.size w (w3.alloc (.cells #[.bool ng, .slice B m d] 92)) := below_alloc' b3 _
  have r4 := Lib.hid (r3.out.alloc (.cells #[.bool ng, .slice B m d] 92))
  have hS4 := Lib.hid (HS.out.below (below_alloc' (Below.refl _ _) (.cells #[.bool ng, .slice B m d] 92)))
  have k0 := q4.cell 0 _ rfl
  have k1 := q4.cell 1 _ rfl
  have l1 := b1.size
  obtain ⟨f0, g0, f1, g1⟩ := facts2 (.bool false) r4.out
  have hr := Lib.hid (set2 (.bool false) (.slice none 0 0) r4.out)
  go_wp2_with fail
  refine bodyPost_ret (ret_rowT hr.out rfl _ _ (.bool ((M : Int) == 0)) rfl rfl Tryz.underlying92 rfl i92) rfl ?_
  refine ⟨none, 0, 0, [], false, (M : Int) == 0, rfl, fun W _ _ => ByteR.empty W _ _, .inl rfl, by omega, fun z hz => ?_, below_grown' b4 (set2_grown _ _ _ _) (by omega)⟩
  obtain ⟨h1, h2⟩ := HW.out z hz
  rw [h1, h2]
  exact ⟨rfl, rfl⟩
set_option maxHeartbeats 1000000 in
theorem c148c (u j : Nat) (w : World) (hu : u < 18446744073709551616) (hE : fE u + j = 1075) (hj1 : 1 ≤ j) (hj63 : j ≤ 63) : Calls Tryz.prog 148 #[.float .f64 u] w (PostW u w) := by
  obtain ⟨w1, hw1, b1, r1, hsz⟩ : ∃ w1, w.alloc (.cells #[.bool false, .slice none 0 0] 92) = w1 ∧ Below w.heap.size w w1 ∧ RowB w1 w.heap.size #[.bool false, .slice none 0 0] 92 ∧ w1.heap.size = w.heap.size + 1 :=
    ⟨_, rfl, below_alloc' (Below.refl _ _) _, RowB.new w _ _, alloc_size _ _⟩
  have HSZ := Lib.hid hsz
  clear hsz
  have h5 := c165 u w1 hu
  rw [if_neg (by omega), show ((fE u : Nat) : Int) - 1075 = -(j : Int) from by omega] at h5
  have H5 := Lib.hid h5
  have HE := Lib.hid hE
  have hM := fM_le u
  have H6 := Lib.hid (c166 (fM u) w1 (by omega))
  have R1 := Lib.hid r1
  have HW : Hid (∀ z : Int, isW z u → fM u % 2 ^ j = 0 ∧ z = if fS u then -((fM u / 2 ^ j : Nat) : Int) else ((fM u / 2 ^ j : Nat) : Int)) := fun z h => whole_c hj63 hE h
  clear h5 r1 hE
  generalize fM u = M at *
  generalize fS u = S at *
  go_enter Tryz.func148, Tryz.ntmps148
  go_wp2_with fail
  clear hw1
  refine H5.out.mono ?_
  rintro e w1' ⟨rfl, rfl⟩
  go_wp2_with fail
  refine H6.out.mono ?_
  rintro e w2 ⟨zs, rfl, hz, hzl, hzr, hzv, hB2⟩
  have H39 := Lib.hid (c39 S _ _ _ _ _ (ByteA.of_blk (c := 8) hz hzr (by omega)) (by omega))
  rw [hzl] at H39
  have r2 := Lib.hid (R1.out.below hB2)
  have b2 := below_trans' b1 hB2
  have HV := Lib.hid hzv
  clear hz hzl hzr hzv
  go_wp2_with fail
  refine H39.out.mono ?_
  rintro e w3 ⟨B, m, d, rfl, hS, hB3⟩
  have r3 := Lib.hid (r2.out.below hB3)
  have b3 := below_trans' b2 hB3
  have hlen := cut_len (cutL_cut zs) hS.out.rng (j := 8) (by rw [cutL_bval, HV.out]; omega)
  rw [hS.out.len] at hlen
  have hml := Lib.hid hS.out.len
  have HS := Lib.hid hS
  have hng0 : Hid (m = 0 → (S && decide (0 < (cutL zs).length)) = false) := fun h => by rw [hml.out, h]; simp
  have hngv : Hid ((S && decide (0 < (cutL zs).length)) = (S && decide (0 < (cutL zs).length))) := rfl
  clear hS
  generalize hng : (S && decide (0 < (cutL zs).length)) = ng at *
  have HNG := Lib.hid hng
  clear hng hngv
  have q4 : RowB (w3.alloc (.cells #[.bool ng, .slice B m d] 92)) w3.heap.size #[.bool ng, .slice B m d] 92 := RowB.new _ _ _
  have b4 : Below w.heap.size w (w3.alloc (.cells #[.bool ng, .slice B m d] 92)) := below_alloc' b3 _
  have r4 := Lib.hid (r3.out.alloc (.cells #[.bool ng, .slice B m d] 92))
  have hS4 := Lib.hid (HS.out.below (below_alloc' (Below.refl _ _) (.cells #[.bool ng, .slice B m d] 92)))
  have k0 := q4.cell 0 _ rfl
  have k1 := q4.cell 1 _ rfl
  have hand : bits .and .u64 (M : Int) ((2 ^ j - 1 : Nat) : Int) = ((M % 2 ^ j : Nat) : Int) := and_mask64 M j (by omega) (by omega)
  have hp1 : 2 ^ j ≤ 2 ^ 63 := Nat.pow_le_pow_right (by omega) hj63
  have hp0 := Nat.two_pow_pos j
  have hcast : ((2 ^ j : Nat) : Int) = (2 : Int) ^ j := by rw [Int.natCast_pow]; rfl
  have hdiv : (M : Int) / 2 ^ j = ((M / 2 ^ j : Nat) : Int) := by rw [← hcast, Int.natCast_ediv]
  have hwr : IntKind.u64.wrap (IntKind.u64.wrap ((2 : Int) ^ j) - 1) = ((2 ^ j - 1 : Nat) : Int) := by
    rw [← hcast]
    generalize 2 ^ j = P at *
    simp only [IntKind.wrap_u64]
    omega
  have hml2 : M / 2 ^ j < 18446744073709551616 := Nat.lt_of_le_of_lt (Nat.div_le_self _ _) (by omega)
  have H6b := Lib.hid (c166 (M / 2 ^ j) (w3.alloc (.cells #[.bool ng, .slice B m d] 92)) hml2)
  have HAND := Lib.hid hand
  have HDIV := Lib.hid hdiv
  have HWR := Lib.hid hwr
  clear hand hdiv hwr hcast
  go_wp2_with fail
  rw [HWR.out, HAND.out, HDIV.out]
  obtain ⟨q0, hq0⟩ : ∃ q0, q0 = M % 2 ^ j := ⟨_, rfl⟩
  rw [← hq0]
  have HQ0 := Lib.hid hq0
  clear hq0
  refine H6b.out.mono ?_
  rintro e w5 ⟨zs5, rfl, hz5, hzl5, hzr5, hzv5, hB5⟩
  have H39b := Lib.hid (c39 S _ _ _ _ _ (ByteA.of_blk (c := 8) hz5 hzr5 (by omega)) (by omega))
  rw [hzl5] at H39b
  have r5 := Lib.hid (r4.out.below hB5)
  have b5 := below_trans' b4 hB5
  have HV5 := Lib.hid hzv5
  have hw3 : Hid ((w3.alloc (.cells #[.bool ng, .slice B m d] 92)).heap.size = w3.heap.size + 1) := alloc_size _ _
  have e5 : (⟨(w3.alloc (.cells #[.bool ng, .slice B m d] 92)).heap.size, 0, none⟩ : Addr) = ⟨w3.heap.size + 1, 0, none⟩ := by rw [hw3.out]
  clear hz5 hzl5 hzr5 hzv5
  go_wp2_with fail
  try rw [e5] at H39b
  clear e5
  refine H39b.out.mono ?_
  rintro e w6 ⟨D, q, f, rfl, hS6, hB6⟩
  have r6 := r5.out.below hB6
  have b6 := below_trans' b5 hB6
  have hlen6 := cut_len (cutL_cut zs5) hS6.out.rng (j := 8) (by rw [cutL_bval, HV5.out]; omega)
  rw [hS6.out.len] at hlen6
  have HS6 := Lib.hid hS6
  have l1 := b1.size
  have l2 := b5.size
  clear hS6
  generalize hng6 : (S && decide (0 < (cutL zs5).length)) = n6 at *
  have HNG6 := Lib.hid hng6
  clear hng6
  obtain ⟨f0, g0, f1, g1⟩ := facts2 (.bool n6) r6
  have hr := Lib.hid (set2 (.bool n6) (.slice D q f) r6)
  have lr := r5.out.lt
  go_wp2_with fail
  refine bodyPost_ret (ret_rowT hr.out rfl _ _ (.bool ((q0 : Int) == 0)) rfl rfl Tryz.underlying92 rfl i92) rfl ?_
  refine ⟨D, q, f, cutL zs5, S, (q0 : Int) == 0, by rw [HNG6.out], (HS6.out.grown (set2_grown _ _ _ _) (by omega)).mono (by omega), cutL_cut _, by omega, fun z hz => ?_, below_grown' b6 (set2_grown _ _ _ _) (by omega)⟩
  obtain ⟨h1, h2⟩ := HW.out z hz
  refine ⟨by rw [HQ0.out, h1]; rfl, ?_⟩
  rw [bz_val, h2, cutL_bval, HV5.out]
theorem c148 (u : Nat) (w : World) (hu : u < 18446744073709551616) : Calls Tryz.prog 148 #[.float .f64 u] w (PostW u w) := by
  by_cases h1 : fE u ≤ 1011
  · by_cases h0 : fE u = 0
    · exact c148b u 1074 w hu h1 (by rw [if_pos h0]; rfl)
    · exact c148b u (1075 - fE u) w hu h1 (by rw [if_neg h0]; omega)
  · by_cases h2 : fE u < 1075
    · exact c148c u (1075 - fE u) w hu (by omega) (by omega) (by omega)
    · exact c148a u (fE u - 1075) w hu (by omega)
end Go.Proofs.YtpfihjkhgfoijaaGreatDoor
namespace Go.Proofs.YtpfihjkhgfoijaaGreatDoor
open Go.RowKit

theorem bval_inj {a b : List Nat} (ha : ∀ x ∈ a, x < 256) (hb : ∀ x ∈ b, x < 256) (hl : a.length = b.length) (h : bval a = bval b) : a = b := by
  induction a generalizing b with
  | nil => cases b with
    | nil => rfl
    | cons => simp at hl
  | cons x xs ih => cases b with
    | nil => simp at hl
    | cons y ys =>
      rw [bval_cons, bval_cons] at h
      have hl' : xs.length = ys.length := by simpa using hl
      have h1 := bval_lt fun z hz => ha z (List.mem_cons_of_mem _ hz)
      have h2 := bval_lt fun z hz => hb z (List.mem_cons_of_mem _ hz)
      rw [hl'] at h h1
      have hxy : x = y := by
        have e1 : (x * 256 ^ ys.length + bval xs) / 256 ^ ys.length = x := by
          rw [Nat.mul_comm, Nat.mul_add_div (Nat.pow_pos (by omega)), Nat.div_eq_of_lt h1, Nat.add_zero]
        have e2 : (y * 256 ^ ys.length + bval ys) / 256 ^ ys.length = y := by
          rw [Nat.mul_comm, Nat.mul_add_div (Nat.pow_pos (by omega)), Nat.div_eq_of_lt h2, Nat.add_zero]
        rw [← e1, h, e2]
      subst hxy
      rw [ih (fun z hz => ha z (List.mem_cons_of_mem _ hz)) (fun z hz => hb z (List.mem_cons_of_mem _ hz)) hl' (by omega)]
theorem cut_inj {a b : List Nat} (ca : Cut a) (cb : Cut b) (ha : ∀ x ∈ a, x < 256) (hb : ∀ x ∈ b, x < 256) (h : bval a = bval b) : a = b := by
  refine bval_inj ha hb ?_ h
  have h1 := cut_len ca ha (j := b.length) (by rw [h]; exact bval_lt hb)
  have h2 := cut_len cb hb (j := a.length) (by rw [← h]; exact bval_lt ha)
  omega
theorem bz_inj {n1 n2 : Bool} {a b : List Nat} (ca : Cut a) (cb : Cut b) (ha : ∀ x ∈ a, x < 256) (hb : ∀ x ∈ b, x < 256) (z1 : a = [] → n1 = false) (z2 : b = [] → n2 = false) (h : bz n1 a = bz n2 b) : n1 = n2 ∧ a = b := by
  have pos : ∀ l : List Nat, Cut l → l ≠ [] → 0 < bval l := fun l hl hne => by
    have := cut_low hl hne
    have := Nat.pow_pos (n := l.length - 1) (show 0 < 256 by omega)
    omega
  have habs : bval a = bval b := by
    unfold bz at h
    cases n1 <;> cases n2 <;> simp at h <;> omega
  have hab := cut_inj ca cb ha hb habs
  subst hab
  refine ⟨?_, rfl⟩
  by_cases hne : a = []
  · rw [z1 hne, z2 hne]
  · have := pos a ca hne
    unfold bz at h
    cases n1 <;> cases n2 <;> simp at h ⊢ <;> omega
def PostC (P : Prop) (w : World) (e : Ending) (w' : World) : Prop := ∃ r : Int, e = .returned (.int .i64 r) ∧ (P → r = 0) ∧ -1 ≤ r ∧ r ≤ 1 ∧ Below w.heap.size w w'
set_option maxHeartbeats 2000000 in
theorem c130 (n1 : Bool) (A : Option Addr) (n c u : Nat) (us : List Nat) (w : World) (ha : ByteR w A n c us) (hn : n ≤ 300) (hu : u < 18446744073709551616) (hcu : Cut us) (hz : us = [] → n1 = false) :
    Calls Tryz.prog 130 #[.agg #[.bool n1, .slice A n c], .float .f64 u] w (PostC (fFin u ∧ isW (bz n1 us) u) w) := by
  obtain ⟨w1, hw1, b1, r1, hsz⟩ := box92 w n1 A n c
  have e0 := r1.cell 0 _ rfl
  have e1 := r1.cell 1 _ rfl
  have HSZ := Lib.hid hsz
  have HA := Lib.hid ha
  have H81 := Lib.hid (fun W => c81 u W)
  have HI := Lib.hid (fun (s : Int) W => c147 u s W hu)
  have HW := Lib.hid (fun W => c148 u W hu)
  have hnan : fFin u → (Ieee.double.order u u != some .eq) = false := fun h => by rw [ord_self h]; rfl
  have HN := Lib.hid hnan
  have R1 := Lib.hid r1
  obtain ⟨P, hP⟩ : ∃ P : Prop, P = (fFin u ∧ isW (bz n1 us) u) := ⟨_, rfl⟩
  have HP1 : Hid (P → fFin u) := fun h => by rw [hP] at h; exact h.1
  have HP2 : Hid (P → isW (bz n1 us) u) := fun h => by rw [hP] at h; exact h.2
  rw [← hP]
  have HCU := Lib.hid hcu
  have HZ := Lib.hid hz
  clear hP hnan ha r1 hsz hcu hz
  generalize (Ieee.double.order u u != some .eq) = bn at *
  cases bn
  case true =>
    go_enter Tryz.func130, Tryz.ntmps130
    go_wp2_with fail
    refine (H81.out _).mono ?_
    rintro e w2 ⟨rfl, rfl⟩
    go_wp2_with fail
    go_ret
    exact ⟨_, rfl, (fun h => Bool.noConfusion (HN.out (HP1.out h))), by omega, by omega, b1⟩
  case false =>
    go_enter Tryz.func130, Tryz.ntmps130
    go_wp2_with fail
    refine (H81.out _).mono ?_
    rintro e w2 ⟨rfl, rfl⟩
    go_wp2_with fail
    refine (HI.out _ _).mono ?_
    rintro e w2 ⟨bi, rfl, hf1, -, rfl⟩
    have HF1 := Lib.hid hf1
    clear hf1
    cases bi
    case true =>
      go_wp2_with fail
      go_ret
      exact ⟨_, rfl, (fun h => Bool.noConfusion (HF1.out (HP1.out h))), by omega, by omega, b1⟩
    case false =>
      go_wp2_with fail
      refine (HI.out _ _).mono ?_
      rintro e w2 ⟨bi, rfl, hf2, -, rfl⟩
      have HF2 := Lib.hid hf2
      clear hf2
      cases bi
      case true =>
        go_wp2_with fail
        go_ret
        exact ⟨_, rfl, (fun h => Bool.noConfusion (HF2.out (HP1.out h))), by omega, by omega, b1⟩
      case false =>
        go_wp2_with fail
        refine (HW.out _).mono ?_
        rintro e w2 ⟨D, q, f, bs, ng, al, rfl, hS, hcb, hq, hall, hB2⟩
        have k0 := below_cell hB2 e0
        have k1 := below_cell hB2 e1
        have b2 := below_trans' b1 hB2
        obtain ⟨n2, hn2⟩ : ∃ n2, (ng && decide (0 < bs.length)) = n2 := ⟨_, rfl⟩
        rw [hn2] at hall ⊢
        have z2 : bs = [] → n2 = false := fun h => by rw [← hn2, h]; simp
        have hS3 := hS.below (below_alloc' (Below.refl _ _) (.cells #[.bool n2, .slice D q f] 92))
        have b3 : Below w.heap.size w (w2.alloc (.cells #[.bool n2, .slice D q f] 92)) := below_alloc' b2 _
        have q3 : RowB (w2.alloc (.cells #[.bool n2, .slice D q f] 92)) w2.heap.size #[.bool n2, .slice D q f] 92 := RowB.new _ _ _
        have t0 := q3.cell 0 _ rfl
        have t1 := q3.cell 1 _ rfl
        have HC := Lib.hid (c80 n1 n2 A D n q c f us bs _ (HA.out.below b3) hS3.out (by omega) (by omega))
        have HE : Hid (P → al = true ∧ (n1 = n2 ∧ us = bs)) := fun h => by
          obtain ⟨h1, h2⟩ := hall _ (HP2.out h)
          exact ⟨h1, bz_inj HCU.out hcb HA.out.rng hS.out.rng HZ.out z2 h2.symm⟩
        clear hn2 hS hS3 hall hcb z2 e0 e1
        have kk0 := below_cell (below_alloc' (Below.refl _ _) (.cells #[.bool n2, .slice D q f] 92)) k0
        have kk1 := below_cell (below_alloc' (Below.refl _ _) (.cells #[.bool n2, .slice D q f] 92)) k1
        go_wp2_with fail
        refine HC.out.mono ?_
        rintro e w4 ⟨r, rfl, hr, h1, h2, hB4⟩
        have b4 := below_trans' b3 hB4
        have HR := Lib.hid hr
        clear hr kk0 kk1 k0 k1 t0 t1
        by_cases h0 : r = 0
        · subst h0
          cases al
          case true =>
            go_wp2_with fail
            go_ret
            exact ⟨_, rfl, fun _ => rfl, by omega, by omega, b4⟩
          case false =>
            generalize hlt : (Ieee.double.order u 0 == some .lt) = lt at *
            go_wp2_with fail
            all_goals
              go_ret
              exact ⟨_, rfl, (fun h => Bool.noConfusion (HE.out h).1), by omega, by omega, b4⟩
        · have q0 : (r == 0) = false := by rw [beq_eq_false_iff_ne]; exact h0
          go_wp2_with fail
          go_ret
          exact ⟨_, rfl, (fun h => absurd (HR.out (HE.out h).2.1 (HE.out h).2.2) h0), h1, h2, b4⟩
end Go.Proofs.YtpfihjkhgfoijaaGreatDoor

/- Contract of spec.Same: of a tree and itself. -/
import Derived.Test.YtpfihjkhgfoijaaGreatDoorQ20
set_option linter.unusedVariables false
set_option linter.unusedSimpArgs false
set_option maxRecDepth 100000
namespace Go.Proofs.YtpfihjkhgfoijaaGreatDoor
open Go.RowKit

theorem c83z (K K' : Option Addr) (d d' : Nat) (w : World) : Calls Tryz.prog 83 #[.slice K 0 d, .slice K' 0 d'] w fun e w' => e = .returned (.bool true) ∧ Below w.heap.size w w' := by
  go_enter Tryz.func83, Tryz.ntmps83
  go_wp2_with fail
  go_loop [5] (fun v => v = .int .i64 0) (fun _ => 0)
  case atStart => rfl
  case round =>
    subst hrel
    go_wp2_with fail
    go_ret
    exact ⟨rfl, Below.refl _ _⟩
set_option maxHeartbeats 2000000 in
theorem c36f (t : VT) (A1 A2 : Option Addr) (n1 c1 c2 : Nat) (K1 K2 : Option Addr) (m d1 d2 : Nat) (w : World) : Calls Tryz.prog 36 #[.agg #[.int .i64 3, .bool t.neg, .slice A1 n1 c1, .int .u64 (t.bits : Int), .string t.text, .slice K1 m d1], .agg #[.int .i64 3, .bool t.neg, .slice A2 n1 c2, .int .u64 (t.bits : Int), .string t.text, .slice K2 m d2]] w fun e w' => e = .returned (.bool true) ∧ Below w.heap.size w w' := by
  obtain ⟨w1, hw1, b1, r0, r1, hsz⟩ := two36 w #[.int .i64 3, .bool t.neg, .slice A1 n1 c1, .int .u64 (t.bits : Int), .string t.text, .slice K1 m d1] #[.int .i64 3, .bool t.neg, .slice A2 n1 c2, .int .u64 (t.bits : Int), .string t.text, .slice K2 m d2]
  have HSZ := Lib.hid hsz
  clear hsz
  have x0 := r0.cell 0 _ rfl
  have x1 := r0.cell 1 _ rfl
  have x2 := r0.cell 2 _ rfl
  have x3 := r0.cell 3 _ rfl
  have x4 := r0.cell 4 _ rfl
  have x5 := r0.cell 5 _ rfl
  have y0 := r1.cell 0 _ rfl
  have y1 := r1.cell 1 _ rfl
  have y2 := r1.cell 2 _ rfl
  have y3 := r1.cell 3 _ rfl
  have y4 := r1.cell 4 _ rfl
  have y5 := r1.cell 5 _ rfl
  clear r0 r1
  go_enter Tryz.func36, Tryz.ntmps36
  go_wp2_with fail
  go_ret
  exact ⟨rfl, b1⟩
set_option maxHeartbeats 2000000 in
theorem c36b (t : VT) (A1 A2 : Option Addr) (n1 c1 c2 : Nat) (K1 K2 : Option Addr) (m d1 d2 : Nat) (w : World) : Calls Tryz.prog 36 #[.agg #[.int .i64 1, .bool t.neg, .slice A1 n1 c1, .int .u64 (t.bits : Int), .string t.text, .slice K1 m d1], .agg #[.int .i64 1, .bool t.neg, .slice A2 n1 c2, .int .u64 (t.bits : Int), .string t.text, .slice K2 m d2]] w fun e w' => e = .returned (.bool true) ∧ Below w.heap.size w w' := by
  obtain ⟨w1, hw1, b1, r0, r1, hsz⟩ := two36 w #[.int .i64 1, .bool t.neg, .slice A1 n1 c1, .int .u64 (t.bits : Int), .string t.text, .slice K1 m d1] #[.int .i64 1, .bool t.neg, .slice A2 n1 c2, .int .u64 (t.bits : Int), .string t.text, .slice K2 m d2]
  have HSZ := Lib.hid hsz
  clear hsz
  have x0 := r0.cell 0 _ rfl
  have x1 := r0.cell 1 _ rfl
  have x2 := r0.cell 2 _ rfl
  have x3 := r0.cell 3 _ rfl
  have x4 := r0.cell 4 _ rfl
  have x5 := r0.cell 5 _ rfl
  have y0 := r1.cell 0 _ rfl
  have y1 := r1.cell 1 _ rfl
  have y2 := r1.cell 2 _ rfl
  have y3 := r1.cell 3 _ rfl
  have y4 := r1.cell 4 _ rfl
  have y5 := r1.cell 5 _ rfl
  clear r0 r1
  go_enter Tryz.func36, Tryz.ntmps36
  go_wp2_with fail
  go_ret
  exact ⟨rfl, b1⟩
set_option maxHeartbeats 2000000 in
theorem c36o (t : VT) (A1 A2 : Option Addr) (n1 c1 c2 : Nat) (K1 K2 : Option Addr) (m d1 d2 : Nat) (w : World) (hk : t.kind ≠ 1 ∧ t.kind ≠ 2 ∧ t.kind ≠ 3) (H : ∀ W, Below w.heap.size w W → Calls Tryz.prog 83 #[.slice K1 m d1, .slice K2 m d2] W fun e w' => e = .returned (.bool true) ∧ Below W.heap.size W w') : Calls Tryz.prog 36 #[.agg #[.int .i64 t.kind, .bool t.neg, .slice A1 n1 c1, .int .u64 (t.bits : Int), .string t.text, .slice K1 m d1], .agg #[.int .i64 t.kind, .bool t.neg, .slice A2 n1 c2, .int .u64 (t.bits : Int), .string t.text, .slice K2 m d2]] w fun e w' => e = .returned (.bool true) ∧ Below w.heap.size w w' := by
  obtain ⟨w1, hw1, b1, r0, r1, hsz⟩ := two36 w #[.int .i64 t.kind, .bool t.neg, .slice A1 n1 c1, .int .u64 (t.bits : Int), .string t.text, .slice K1 m d1] #[.int .i64 t.kind, .bool t.neg, .slice A2 n1 c2, .int .u64 (t.bits : Int), .string t.text, .slice K2 m d2]
  have HSZ := Lib.hid hsz
  clear hsz
  have x0 := r0.cell 0 _ rfl
  have x1 := r0.cell 1 _ rfl
  have x2 := r0.cell 2 _ rfl
  have x3 := r0.cell 3 _ rfl
  have x4 := r0.cell 4 _ rfl
  have x5 := r0.cell 5 _ rfl
  have y0 := r1.cell 0 _ rfl
  have y1 := r1.cell 1 _ rfl
  have y2 := r1.cell 2 _ rfl
  have y3 := r1.cell 3 _ rfl
  have y4 := r1.cell 4 _ rfl
  have y5 := r1.cell 5 _ rfl
  have q1 : (t.kind == 1) = false := by rw [beq_eq_false_iff_ne]; exact hk.1
  have q2 : (t.kind == 2) = false := by rw [beq_eq_false_iff_ne]; exact hk.2.1
  have q3 : (t.kind == 3) = false := by rw [beq_eq_false_iff_ne]; exact hk.2.2
  have HH := Lib.hid H
  clear r0 r1 H hk
  generalize t.kind = kd at *
  go_enter Tryz.func36, Tryz.ntmps36
  go_wp2_with fail
  clear hw1
  refine (HH.out _ b1).mono ?_
  rintro e w2 ⟨rfl, hB2⟩
  have b2 := below_trans' b1 hB2
  go_wp2_with fail
  go_ret
  exact ⟨rfl, b2⟩
set_option maxHeartbeats 8000000 in
theorem c36i (t : VT) (A1 A2 : Option Addr) (n1 c1 c2 : Nat) (K1 K2 : Option Addr) (m d1 d2 : Nat) (w : World) (ha : ByteA w A1 n1 c1 t.mag) (hb : ByteA w A2 n1 c2 t.mag) (ho : Cut t.mag ∧ t.mag.length ≤ 40 ∧ (t.mag = [] → t.neg = false)) : Calls Tryz.prog 36 #[.agg #[.int .i64 2, .bool t.neg, .slice A1 n1 c1, .int .u64 (t.bits : Int), .string t.text, .slice K1 m d1], .agg #[.int .i64 2, .bool t.neg, .slice A2 n1 c2, .int .u64 (t.bits : Int), .string t.text, .slice K2 m d2]] w fun e w' => e = .returned (.bool true) ∧ Below w.heap.size w w' := by
  obtain ⟨w1, hw1, b1, r0, r1, hsz⟩ := two36 w #[.int .i64 2, .bool t.neg, .slice A1 n1 c1, .int .u64 (t.bits : Int), .string t.text, .slice K1 m d1] #[.int .i64 2, .bool t.neg, .slice A2 n1 c2, .int .u64 (t.bits : Int), .string t.text, .slice K2 m d2]
  have HSZ := Lib.hid hsz
  clear hsz
  have x0 := r0.cell 0 _ rfl
  have x1 := r0.cell 1 _ rfl
  have x2 := r0.cell 2 _ rfl
  have x3 := r0.cell 3 _ rfl
  have x4 := r0.cell 4 _ rfl
  have x5 := r0.cell 5 _ rfl
  have y0 := r1.cell 0 _ rfl
  have y1 := r1.cell 1 _ rfl
  have y2 := r1.cell 2 _ rfl
  have y3 := r1.cell 3 _ rfl
  have y4 := r1.cell 4 _ rfl
  have y5 := r1.cell 5 _ rfl
  have HO := Lib.hid ho
  have HL := Lib.hid ha.len
  have HA := Lib.hid ha
  have HB := Lib.hid hb
  have Na : Hid (∀ W, Below w.heap.size w W → Calls Tryz.prog 79 #[.agg #[.int .i64 2, .bool t.neg, .slice A1 n1 c1, .int .u64 (t.bits : Int), .string t.text, .slice K1 m d1]] W fun e w' => ∃ B m d, e = .returned (.agg #[.bool t.neg, .slice B m d]) ∧ Sits W.heap.size (fun W => ByteR W B m d t.mag) w' ∧ Below W.heap.size W w') := fun W hW => c79c 2 t.neg A1 n1 c1 _ t.text K1 m d1 t.mag W (HA.out.below hW) (by have := HL.out; have := HO.out.2.1; omega) HO.out.1 HO.out.2.2
  have Nb : Hid (∀ W, Below w.heap.size w W → Calls Tryz.prog 79 #[.agg #[.int .i64 2, .bool t.neg, .slice A2 n1 c2, .int .u64 (t.bits : Int), .string t.text, .slice K2 m d2]] W fun e w' => ∃ B m d, e = .returned (.agg #[.bool t.neg, .slice B m d]) ∧ Sits W.heap.size (fun W => ByteR W B m d t.mag) w' ∧ Below W.heap.size W w') := fun W hW => c79c 2 t.neg A2 n1 c2 _ t.text K2 m d2 t.mag W (HB.out.below hW) (by have := HL.out; have := HO.out.2.1; omega) HO.out.1 HO.out.2.2
  clear ha hb ho r0 r1 HA HB
  go_enter Tryz.func36, Tryz.ntmps36
  go_wp2_with fail
  clear hw1
  go_region_held3 (fun W => W.cell? ⟨w.heap.size, 0, none⟩ = some (.int .i64 2) ∧ W.cell? ⟨w.heap.size, 1, none⟩ = some (.bool t.neg) ∧ W.cell? ⟨w.heap.size, 2, none⟩ = some (.slice A1 n1 c1) ∧ W.cell? ⟨w.heap.size, 3, none⟩ = some (.int .u64 (t.bits : Int)) ∧ W.cell? ⟨w.heap.size, 4, none⟩ = some (.string t.text) ∧ W.cell? ⟨w.heap.size, 5, none⟩ = some (.slice K1 m d1) ∧ W.cell? ⟨w.heap.size + 1, 0, none⟩ = some (.int .i64 2) ∧ W.cell? ⟨w.heap.size + 1, 1, none⟩ = some (.bool t.neg) ∧ W.cell? ⟨w.heap.size + 1, 2, none⟩ = some (.slice A2 n1 c2) ∧ W.cell? ⟨w.heap.size + 1, 3, none⟩ = some (.int .u64 (t.bits : Int)) ∧ W.cell? ⟨w.heap.size + 1, 4, none⟩ = some (.string t.text) ∧ W.cell? ⟨w.heap.size + 1, 5, none⟩ = some (.slice K2 m d2)) (first | exact ⟨x0, x1, x2, x3, x4, x5, y0, y1, y2, y3, y4, y5⟩)
    (first
      | (go_at_call 79
         (first | with_reducible refine (Na.out _ (below_trans' b1 (below_drew1 _))).mono ?_ | with_reducible refine (Na.out _ b1).mono ?_)
         rintro e w2 ⟨Ba, qa, fa, rfl, hS, hB2⟩
         have HSa := Lib.hid hS; clear hS
         (try (have HT := Lib.hid (HSb.out.below hB2); clear HSb; have HSb := HT; clear HT))
         (first
         | (have x0 := below_cell (w := World.drew _) hB2 x0; have x1 := below_cell (w := World.drew _) hB2 x1; have x2 := below_cell (w := World.drew _) hB2 x2; have x3 := below_cell (w := World.drew _) hB2 x3; have x4 := below_cell (w := World.drew _) hB2 x4; have x5 := below_cell (w := World.drew _) hB2 x5; have y0 := below_cell (w := World.drew _) hB2 y0; have y1 := below_cell (w := World.drew _) hB2 y1; have y2 := below_cell (w := World.drew _) hB2 y2; have y3 := below_cell (w := World.drew _) hB2 y3; have y4 := below_cell (w := World.drew _) hB2 y4; have y5 := below_cell (w := World.drew _) hB2 y5; have bb := below_trans' (below_trans' b1 (below_drew1 _)) hB2; clear b1; have b1 := bb; clear bb)
         | (have x0 := below_cell hB2 x0; have x1 := below_cell hB2 x1; have x2 := below_cell hB2 x2; have x3 := below_cell hB2 x3; have x4 := below_cell hB2 x4; have x5 := below_cell hB2 x5; have y0 := below_cell hB2 y0; have y1 := below_cell hB2 y1; have y2 := below_cell hB2 y2; have y3 := below_cell hB2 y3; have y4 := below_cell hB2 y4; have y5 := below_cell hB2 y5; have bb := below_trans' b1 hB2; clear b1; have b1 := bb; clear bb)))
      | (go_at_call 79
         (first | with_reducible refine (Nb.out _ (below_trans' b1 (below_drew1 _))).mono ?_ | with_reducible refine (Nb.out _ b1).mono ?_)
         rintro e w2 ⟨Bb, qb, fb, rfl, hS, hB2⟩
         have HSb := Lib.hid hS; clear hS
         (try (have HT := Lib.hid (HSa.out.below hB2); clear HSa; have HSa := HT; clear HT))
         (first
         | (have x0 := below_cell (w := World.drew _) hB2 x0; have x1 := below_cell (w := World.drew _) hB2 x1; have x2 := below_cell (w := World.drew _) hB2 x2; have x3 := below_cell (w := World.drew _) hB2 x3; have x4 := below_cell (w := World.drew _) hB2 x4; have x5 := below_cell (w := World.drew _) hB2 x5; have y0 := below_cell (w := World.drew _) hB2 y0; have y1 := below_cell (w := World.drew _) hB2 y1; have y2 := below_cell (w := World.drew _) hB2 y2; have y3 := below_cell (w := World.drew _) hB2 y3; have y4 := below_cell (w := World.drew _) hB2 y4; have y5 := below_cell (w := World.drew _) hB2 y5; have bb := below_trans' (below_trans' b1 (below_drew1 _)) hB2; clear b1; have b1 := bb; clear bb)
         | (have x0 := below_cell hB2 x0; have x1 := below_cell hB2 x1; have x2 := below_cell hB2 x2; have x3 := below_cell hB2 x3; have x4 := below_cell hB2 x4; have x5 := below_cell hB2 x5; have y0 := below_cell hB2 y0; have y1 := below_cell hB2 y1; have y2 := below_cell hB2 y2; have y3 := below_cell hB2 y3; have y4 := below_cell hB2 y4; have y5 := below_cell hB2 y5; have bb := below_trans' b1 hB2; clear b1; have b1 := bb; clear bb)))
      | (go_at_call 80; refine (c80 t.neg t.neg Ba Bb qa qb fa fb t.mag t.mag _ HSa.out.out HSb.out.out (by have := HSa.out.out.len; have := HO.out.2.1; omega) (by have := HSb.out.out.len; have := HO.out.2.1; omega)).mono ?_
         rintro e w2 ⟨r, rfl, hr, hr1, hr2, hB2⟩
         obtain rfl := hr rfl rfl
         clear hr hr1 hr2
         (first
         | (have x0 := below_cell (w := World.drew _) hB2 x0; have x1 := below_cell (w := World.drew _) hB2 x1; have x2 := below_cell (w := World.drew _) hB2 x2; have x3 := below_cell (w := World.drew _) hB2 x3; have x4 := below_cell (w := World.drew _) hB2 x4; have x5 := below_cell (w := World.drew _) hB2 x5; have y0 := below_cell (w := World.drew _) hB2 y0; have y1 := below_cell (w := World.drew _) hB2 y1; have y2 := below_cell (w := World.drew _) hB2 y2; have y3 := below_cell (w := World.drew _) hB2 y3; have y4 := below_cell (w := World.drew _) hB2 y4; have y5 := below_cell (w := World.drew _) hB2 y5; have bb := below_trans' (below_trans' b1 (below_drew1 _)) hB2; clear b1; have b1 := bb; clear bb)
         | (have x0 := below_cell hB2 x0; have x1 := below_cell hB2 x1; have x2 := below_cell hB2 x2; have x3 := below_cell hB2 x3; have x4 := below_cell hB2 x4; have x5 := below_cell hB2 x5; have y0 := below_cell hB2 y0; have y1 := below_cell hB2 y1; have y2 := below_cell hB2 y2; have y3 := below_cell hB2 y3; have y4 := below_cell hB2 y4; have y5 := below_cell hB2 y5; have bb := below_trans' b1 hB2; clear b1; have b1 := bb; clear bb))))
  go_wp2_with fail
  go_ret
  exact ⟨rfl, b1⟩
end Go.Proofs.YtpfihjkhgfoijaaGreatDoor

/- Contract of spec.Clean on lists and tuples. -/
import Derived.Outline
import Derived.Test.YtpfihjkhgfoijaaGreatDoorQ21
import Derived.Test.YtpfihjkhgfoijaaGreatDoorQ33
import Derived.Test.YtpfihjkhgfoijaaGreatDoorQ25
set_option linter.unusedVariables false
set_option linter.unusedSimpArgs false
set_option maxRecDepth 100000
namespace Go.Proofs.YtpfihjkhgfoijaaGreatDoor
open Go.RowKit
set_option maxHeartbeats 4000000 in
theorem clean6 (n : Nat) (hn : n ≤ 100) (ih : CleanC n) (w : World) (k : Int) (ng : Bool) (A : Option Addr) (a c u : Nat) (t : ByteArray) (K : Option Addr) (m d : Nat) (hd1 : m ≤ d) (hd2 : d ≤ 140737488355328)
    (hk : m = 0 ∨ ∃ x : Addr, K = some x ∧ ∀ i, i < m → ∃ cs' : Array Value, (∀ j, j < 6 → w.cell? (x.add (i * 6 + j)) = cs'[j]?) ∧ IV n w cs') (hq : (k.tmod 10 + 10) % 10 = 6) : Calls Tryz.prog 17 #[.agg #[.int .i64 k, .bool ng, .slice A a c, .int .u64 ((u : Nat) : Int), .string t, .slice K m d], .int .i64 (((n + 1 : Nat)) : Int)] w (PostT (n + 1) w) := by
  obtain ⟨D, hD⟩ : ∃ D : Int, ((n + 1 : Nat) : Int) = D := ⟨_, rfl⟩
  have hDp : 0 < D := by omega
  have hDle : D ≤ 101 := by omega
  have HD : Hid (D - 1 = (n : Int)) := by show _ = _; omega
  rw [hD]
  clear hD
  have hwD : IntKind.i64.wrap (D - 1) = (n : Int) := by rw [HD.out, IntKind.wrap_i64]; omega
  have HWD := Lib.hid hwD
  obtain ⟨w1, hw1, b1, r0, r1, r2, hsz⟩ := three36 w #[.int .i64 k, .bool ng, .slice A a c, .int .u64 ((u : Nat) : Int), .string t, .slice K m d] zero36 zero36
  unfold zero36 at hw1 r1 r2
  have R0 := Lib.hid r0
  have R1 := Lib.hid r1
  have R2 := Lib.hid r2
  have HSZ := Lib.hid hsz
  have HSZ1 : w.heap.size + 1 + 1 + 1 ≤ w1.heap.size := by omega
  have e0 := r0.cell 0 _ rfl
  obtain ⟨f0, g0, f1, g1, f2, g2, f3, g3, f4, g4, f5, g5⟩ := facts36 R2.out (.int .i64 6) (.bool false) (.slice none 0 0) (.int .u64 0) (.string ⟨#[]⟩)
  obtain ⟨hr1, hr2⟩ := kd_rng k
  have HK := Lib.hid hk
  have HIH := Lib.hid ih
  clear hsz r0 r1 r2 hk ih
  go_enter Tryz.func17, Tryz.ntmps17
  go_wp2_with fail
  clear hw1 e0 f0 g0 f1 g1 f2 g2 f3 g3 f4 g4 f5 g5
  go_loopw [7] (fun vi wr => ∃ (i : Nat) (v : Value) (ts : List VT), i ≤ m ∧ i ≤ 8 ∧ vi = .int .i64 (i : Int) ∧ Hid (RowB wr w.heap.size #[.int .i64 k, .bool ng, .slice A a c, .int .u64 ((u : Nat) : Int), .string t, .slice K m d] 36) ∧ Hid (RowB wr (w.heap.size + 1) #[.int .i64 0, .bool false, .slice none 0 0, .int .u64 0, .string ⟨#[]⟩, .slice none 0 0] 36) ∧ Hid (RowB wr (w.heap.size + 1 + 1) #[.int .i64 6, .bool false, .slice none 0 0, .int .u64 0, .string ⟨#[]⟩, v] 36) ∧
      Kin n (w.heap.size + 1 + 1 + 1) (fun k => w.heap.size + 1 + 1 + 1 ≤ k) wr v i ts ∧ Below w.heap.size w wr ∧ w.heap.size + 1 + 1 + 1 ≤ wr.heap.size ∧ (∀ k ∈ ts, VT.ok n k ∧ KK n k)) (fun vi _ => 8 - (intOf vi).toNat)
  case atStart => exact ⟨0, _, [], by omega, by omega, rfl, R0.out.grown (set36_grown _ _ _ _ _ _ _ _) (by omega), R1.out.grown (set36_grown _ _ _ _ _ _ _ _) (by omega), set36 _ _ _ _ _ _ R2.out, Kin.nil _ _ _ _, below_grown' b1 (set36_grown _ _ _ _ _ _ _ _) (by omega), by have := (set36_grown w1 (w.heap.size + 1 + 1) (.int .i64 6) (.bool false) (.slice none 0 0) (.int .u64 0) (.string ⟨#[]⟩) (.slice none 0 0)).size; exact Nat.le_trans (by omega) this, by simp⟩
  case round =>
    obtain ⟨i, v, ts, hi, hi8, rfl, r0, r1, r2, hK, hB, hsize, hts⟩ := hrel
    have e5 := r0.out.cell 5 _ rfl
    by_cases hlt : i < m ∧ i < 8
    · obtain ⟨hlt, hlt8⟩ := hlt
      obtain ⟨x, rfl, hkid⟩ := HK.out.resolve_left (by omega)
      obtain ⟨cs, hcs, hIV⟩ := hkid i hlt
      have hIVw := hIV.below hB
      obtain ⟨k2, ng2, A2, a2, c2, u2, t2, K2, m2, d2, bs2, rfl, _⟩ : ∃ k ng A a c u t K m d bs, cs = #[.int .i64 k, .bool ng, .slice A a c, .int .u64 ((u : Nat) : Int), .string t, .slice K m d] ∧ ByteA w A a c bs := by
        cases n <;> (obtain ⟨k, ng, A, a, c, u, t, K, m, d, bs, e, h1, h2, _⟩ := hIV; exact ⟨k, ng, A, a, c, u, t, K, m, d, bs, e, h2⟩)
      have y0 : w.cell? (x.add (i * 6)) = some (.int .i64 k2) := hcs 0 (by omega)
      have y1 : w.cell? ⟨(x.add (i * 6)).block, (x.add (i * 6)).off + 1, none⟩ = some (.bool ng2) := by
        have z := hcs 1 (by omega)
        rw [← add_add', add_pos _ 1 (by omega)] at z
        exact z
      have y2 : w.cell? ⟨(x.add (i * 6)).block, (x.add (i * 6)).off + 2, none⟩ = some (.slice A2 a2 c2) := by
        have z := hcs 2 (by omega)
        rw [← add_add', add_pos _ 2 (by omega)] at z
        exact z
      have y3 : w.cell? ⟨(x.add (i * 6)).block, (x.add (i * 6)).off + 3, none⟩ = some (.int .u64 ((u2 : Nat) : Int)) := by
        have z := hcs 3 (by omega)
        rw [← add_add', add_pos _ 3 (by omega)] at z
        exact z
      have y4 : w.cell? ⟨(x.add (i * 6)).block, (x.add (i * 6)).off + 4, none⟩ = some (.string t2) := by
        have z := hcs 4 (by omega)
        rw [← add_add', add_pos _ 4 (by omega)] at z
        exact z
      have y5 : w.cell? ⟨(x.add (i * 6)).block, (x.add (i * 6)).off + 5, none⟩ = some (.slice K2 m2 d2) := by
        have z := hcs 5 (by omega)
        rw [← add_add', add_pos _ 5 (by omega)] at z
        exact z
      obtain ⟨yb, yo, hxa⟩ := cell_addr y0
      rw [hxa] at y0 y1 y2 y3 y4 y5
      have q1 : (i : Int) < (m : Int) := by omega
      have q2 : (i : Int) < 8 := by omega
      obtain ⟨Kv, dv, rfl, hdv1, hdv2, hKv⟩ := hK.shape
      have HC := Lib.hid (HIH.out wr.drew _ (hIVw.below (below_drew1 wr)))
      have KD := Lib.hid hK.drew
      have KB : Hid (∀ x, (Value.slice Kv i dv).ownBlock = some x → w.heap.size + 1 + 1 + 1 ≤ x ∧ x < wr.heap.size) := fun x hx => hK.block x hx
      have BD := Lib.hid (below_trans' hB (below_drew1 wr))
      have r0d := Lib.hid r0.out.drew
      have r1d := Lib.hid r1.out.drew
      have r2d := Lib.hid r2.out.drew
      have e25 := r2.out.cell 5 _ rfl
      have HSAT : Hid (∀ W, Below w.heap.size w W → RowB W w.heap.size #[.int .i64 k, .bool ng, .slice A a c, .int .u64 ((u : Nat) : Int), .string t, .slice (some x) m d] 36 → W.cell? ⟨w.heap.size, 5, none⟩ = some (.slice (some x) m d) ∧ W.cell? ⟨yb, yo, none⟩ = some (.int .i64 k2) ∧ W.cell? ⟨yb, yo + 1, none⟩ = some (.bool ng2) ∧ W.cell? ⟨yb, yo + 2, none⟩ = some (.slice A2 a2 c2) ∧ W.cell? ⟨yb, yo + 3, none⟩ = some (.int .u64 ((u2 : Nat) : Int)) ∧ W.cell? ⟨yb, yo + 4, none⟩ = some (.string t2) ∧ W.cell? ⟨yb, yo + 5, none⟩ = some (.slice K2 m2 d2)) := fun W hW hR =>
        ⟨hR.cell 5 _ rfl, below_cell hW y0, below_cell hW y1, below_cell hW y2, below_cell hW y3, below_cell hW y4, below_cell hW y5⟩
      have sA := And.intro (show wr.drew.cell? ⟨w.heap.size + 1 + 1, 5, none⟩ = some (.slice Kv i dv) from r2d.out.cell 5 _ rfl) (HSAT.out wr.drew BD.out r0d.out)
      clear hIV hIVw hcs hkid hK y0 y1 y2 y3 y4 y5
      go_upto_region 20 with (fail)
      refine wp_region_K (fun W => W.cell? ⟨w.heap.size + 1 + 1, 5, none⟩ = some (.slice Kv i dv) ∧ W.cell? ⟨w.heap.size, 5, none⟩ = some (.slice (some x) m d) ∧ W.cell? ⟨yb, yo, none⟩ = some (.int .i64 k2) ∧ W.cell? ⟨yb, yo + 1, none⟩ = some (.bool ng2) ∧ W.cell? ⟨yb, yo + 2, none⟩ = some (.slice A2 a2 c2) ∧ W.cell? ⟨yb, yo + 3, none⟩ = some (.int .u64 ((u2 : Nat) : Int)) ∧ W.cell? ⟨yb, yo + 4, none⟩ = some (.string t2) ∧ W.cell? ⟨yb, yo + 5, none⟩ = some (.slice K2 m2 d2)) 13 (by kernel_rfl) ?_
      refine wpAnyK_take 0 (v := ?kv0) rfl (by kernel_rfl) (by kernel_rfl) (by kernel_rfl) (by kernel_rfl) (fun _ _ _ h => h) sA (yieldsIf_run (by rfl) ?ky0) ?kr0
      case ky0 => (intro w hSw; (try dsimp only at hSw); go_simp; all_goals with_reducible rfl)
      try simp only [Act.put, List.setIfInBounds_toArray, List.set_cons_zero, List.set_cons_succ]
      refine wpAnyK_take 1 (v := ?kv1) rfl (by kernel_rfl) (by kernel_rfl) (by kernel_rfl) (by kernel_rfl) (fun _ _ _ h => h) sA (yieldsIf_run (by rfl) ?ky1) ?kr1
      case ky1 => (intro w hSw; (try dsimp only at hSw); go_simp; all_goals with_reducible rfl)
      try simp only [Act.put, List.setIfInBounds_toArray, List.set_cons_zero, List.set_cons_succ]
      refine wpAnyK_take 2 (v := ?kv2) rfl (by kernel_rfl) (by kernel_rfl) (by kernel_rfl) (by kernel_rfl) (fun _ _ _ h => h) sA (yieldsIf_run (by rfl) ?ky2) ?kr2
      case ky2 => (intro w hSw; (try dsimp only at hSw); go_simp; all_goals with_reducible rfl)
      try simp only [Act.put, List.setIfInBounds_toArray, List.set_cons_zero, List.set_cons_succ]
      refine wpAnyK_take 3 (v := ?kv3) rfl (by kernel_rfl) (by kernel_rfl) (by kernel_rfl) (by kernel_rfl) (fun _ _ _ h => h) sA (yieldsIf_run (by rfl) ?ky3) ?kr3
      case ky3 => (intro w hSw; (try dsimp only at hSw); go_simp; all_goals with_reducible rfl)
      try simp only [Act.put, List.setIfInBounds_toArray, List.set_cons_zero, List.set_cons_succ]
      refine wpAnyK_take 4 (v := ?kv4) rfl (by kernel_rfl) (by kernel_rfl) (by kernel_rfl) (by kernel_rfl) (fun _ _ _ h => h) sA (yieldsIf_run (by rfl) ?ky4) ?kr4
      case ky4 => (intro w hSw; (try dsimp only at hSw); go_simp; all_goals with_reducible rfl)
      try simp only [Act.put, List.setIfInBounds_toArray, List.set_cons_zero, List.set_cons_succ]
      refine wpAnyK_take 5 (v := ?kv5) rfl (by kernel_rfl) (by kernel_rfl) (by kernel_rfl) (by kernel_rfl) (fun _ _ _ h => h) sA (yieldsIf_run (by rfl) ?ky5) ?kr5
      case ky5 => (intro w hSw; (try dsimp only at hSw); go_simp; all_goals with_reducible rfl)
      try simp only [Act.put, List.setIfInBounds_toArray, List.set_cons_zero, List.set_cons_succ]
      refine wpAnyK_take 6 (v := ?kv6) rfl (by kernel_rfl) (by kernel_rfl) (by kernel_rfl) (by kernel_rfl) (fun _ _ _ h => h) sA (yieldsIf_run (by rfl) ?ky6) ?kr6
      case ky6 => (intro w hSw; (try dsimp only at hSw); go_simp; all_goals with_reducible rfl)
      try simp only [Act.put, List.setIfInBounds_toArray, List.set_cons_zero, List.set_cons_succ]
      refine wpAnyK_take 7 (v := ?kv7) rfl (by kernel_rfl) (by kernel_rfl) (by kernel_rfl) (by kernel_rfl) (fun _ _ _ h => h) sA (yieldsIf_run (by rfl) ?ky7) ?kr7
      case ky7 => (intro w hSw; (try dsimp only at hSw); go_simp; all_goals with_reducible rfl)
      try simp only [Act.put, List.setIfInBounds_toArray, List.set_cons_zero, List.set_cons_succ]
      refine wpAnyK_take 8 (v := ?kv8) rfl (by kernel_rfl) (by kernel_rfl) (by kernel_rfl) (by kernel_rfl) (fun _ _ _ h => h) sA (yieldsIf_run (by rfl) ?ky8) ?kr8
      case ky8 => (intro w hSw; (try dsimp only at hSw); go_simp; all_goals with_reducible rfl)
      try simp only [Act.put, List.setIfInBounds_toArray, List.set_cons_zero, List.set_cons_succ]
      refine wpAnyK_one 9 (by kernel_rfl) rfl (fun K' hK => ?_)
      go_simp
      go_at_call 17
      (try rw [HWD.out])
      (with_reducible refine HC.out.mono ?_)
      rintro e w2 ⟨t', cs', rfl, hok', hkk', hV', hB2⟩
      obtain ⟨A3, a3, c3, K3, m3, d3, rfl, _⟩ := VC.head (n := n) hV'
      have p25 := (r2d.out.below hB2).cell 5 _ rfl
      have p26 := ((r2d.out.below hB2).alloc (.cells #[.int .i64 t'.kind, .bool t'.neg, .slice A3 a3 c3, .int .u64 (t'.bits : Int), .string t'.text, .slice K3 m3 d3] 36)).cell 5 _ rfl
      have bw2 := Lib.hid (below_trans' BD.out hB2)
      have sB := And.intro (show w2.cell? ⟨w.heap.size + 1 + 1, 5, none⟩ = some (.slice Kv i dv) from p25) (HSAT.out w2 bw2.out (r0d.out.below hB2))
      have sC := And.intro (show World.cell? _ ⟨w.heap.size + 1 + 1, 5, none⟩ = some (.slice Kv i dv) from p26) (HSAT.out (w2.alloc (.cells #[.int .i64 t'.kind, .bool t'.neg, .slice A3 a3 c3, .int .u64 (t'.bits : Int), .string t'.text, .slice K3 m3 d3] 36)) (below_alloc' bw2.out _) ((r0d.out.below hB2).alloc _))
      have HV := Lib.hid hV'; have HO := Lib.hid hok'; have HY := Lib.hid hkk'; clear hV' hok' hkk'
      go_wp2_with fail
      refine hK.out _ _ (fun _ => sB) ?_
      clear hK K'
      try simp only [Act.put, List.setIfInBounds_toArray, List.set_cons_zero, List.set_cons_succ]
      refine wpAnyK_one 10 (by kernel_rfl) rfl (fun K' hK => ?_)
      go_simp
      refine hK.out _ _ (fun _ => sC) ?_
      clear hK K'
      try simp only [Act.put, List.setIfInBounds_toArray, List.set_cons_zero, List.set_cons_succ]
      refine wpAnyK_one 11 (by kernel_rfl) rfl (fun K' hK => ?_)
      have l2 := hB2.size
      have hdz : wr.drew.heap.size = wr.heap.size := rfl
      obtain ⟨v', w3, hrun, hK3, hg3⟩ := app36 (KD.out.below hB2) t' _ (blks wr.drew.heap.size w2.heap.size) (fun k hk => ⟨hk.2, by have := hk.1; omega⟩) HV.out (fun x hx hc => by have := hc.1; have := KB.out x hx; omega) (by omega) (by omega) 34
      obtain ⟨K4, d4, rfl, hd41, hd42, hK4⟩ := hK3.shape
      have r3 := Lib.hid (((r2d.out.below hB2).alloc (.cells #[.int .i64 t'.kind, .bool t'.neg, .slice A3 a3 c3, .int .u64 (t'.bits : Int), .string t'.text, .slice K3 m3 d3] 36)).grownO hg3 (fun x hx => by have := KB.out x hx; omega))
      have r03 := Lib.hid (((r0d.out.below hB2).alloc (.cells #[.int .i64 t'.kind, .bool t'.neg, .slice A3 a3 c3, .int .u64 (t'.bits : Int), .string t'.text, .slice K3 m3 d3] 36)).grownO hg3 (fun x hx => by have := KB.out x hx; omega))
      have b3 : Hid (Below w.heap.size w w3) := below_own (below_alloc' bw2.out (.cells #[.int .i64 t'.kind, .bool t'.neg, .slice A3 a3 c3, .int .u64 (t'.bits : Int), .string t'.text, .slice K3 m3 d3] 36)) hg3 (fun x hx => by have := KB.out x hx; omega)
      have hg5 := Lib.hid (grown_set (grown_refl w3 (some (w.heap.size + 1 + 1))) 5 (.slice K4 (i + 1) d4))
      have y25 := r3.out.cell 5 _ rfl
      have sD := And.intro (show w3.cell? ⟨w.heap.size + 1 + 1, 5, none⟩ = some (.slice Kv i dv) from y25) (HSAT.out w3 b3.out r03.out)
      have x25 := r3.out.free 5
      have HK3 := Lib.hid hK3
      clear hK3
      refine step_append rfl (.tmp 76) (.tmp 85) 34 rfl _ _ _ _ rfl rfl hrun ?_
      refine hK.out _ _ (fun _ => sD) ?_
      clear hK K'
      try simp only [Act.put, List.setIfInBounds_toArray, List.set_cons_zero, List.set_cons_succ]
      refine wpAnyK_take 12 (v := ?kv12) rfl (by kernel_rfl) (by kernel_rfl) (by kernel_rfl) (by kernel_rfl) (fun _ _ _ h => h) sD (yieldsIf_run (by rfl) ?ky12) ?kr12
      case ky12 => (intro w hSw; (try dsimp only at hSw); go_simp; all_goals with_reducible rfl)
      try simp only [Act.put, List.setIfInBounds_toArray, List.set_cons_zero, List.set_cons_succ]
      refine wpAnyK_free 13 (by kernel_rfl) rfl (by kernel_rfl) (fun K' hK => ?_)
      go_simp
      refine hK.out _ _ ?_
      clear hK K'
      try simp only [Act.put, List.setIfInBounds_toArray, List.set_cons_zero, List.set_cons_succ]
      refine wpAnyK_done (by kernel_rfl) ?_ _
      all_goals
        go_wp2_with fail
        have l2 := hB2.size
        have hdz : wr.drew.heap.size = wr.heap.size := rfl
        replace r03 := r03.out
        have r13 := ((r1d.out.below hB2).alloc (.cells #[.int .i64 t'.kind, .bool t'.neg, .slice A3 a3 c3, .int .u64 (t'.bits : Int), .string t'.text, .slice K3 m3 d3] 36)).grownO hg3 (fun x hx => by have := KB.out x hx; omega)
        replace b3 := b3.out
        replace hg5 := hg5.out
        have l3 := hg3.size
        have l4 := alloc_size w2 (.cells #[.int .i64 t'.kind, .bool t'.neg, .slice A3 a3 c3, .int .u64 (t'.bits : Int), .string t'.text, .slice K3 m3 d3] 36)
        go_roundw
        case rel =>
          refine ⟨i + 1, _, ts ++ [t'], by omega, by omega, by go_num, r03.grown hg5 (by omega), r13.grown hg5 (by omega), r3.out.set 5 _ _ rfl, HK3.out.grown hg5 (by omega) (fun h => by omega), below_grown' b3 hg5 (by omega), Nat.le_trans (by omega) hg5.size, ?_⟩
          intro k hk
          rcases List.mem_append.1 hk with h | h
          · exact hts k h
          · rw [List.mem_singleton.1 h]; exact ⟨HO.out, HY.out⟩
        case measure => simp [intOf]; omega
    · obtain ⟨Kv, dv, rfl, hdv1, hdv2, hKv⟩ := hK.shape
      have k0 := r2.out.cell 0 _ rfl
      have k1 := r2.out.cell 1 _ rfl
      have k2 := r2.out.cell 2 _ rfl
      have k3 := r2.out.cell 3 _ rfl
      have k4 := r2.out.cell 4 _ rfl
      have k5 := r2.out.cell 5 _ rfl
      obtain ⟨f0, g0, f1, g1, f2, g2, f3, g3, f4, g4, f5, g5⟩ := facts36 r1.out (.int .i64 6) (.bool false) (.slice none 0 0) (.int .u64 0) (.string ⟨#[]⟩)
      have HKf := Lib.hid hK
      have KL := Lib.hid hK.len
      have ki := Lib.hid hi8
      clear hK
      have HFIN : Hid (∀ W', W' = set36W wr (w.heap.size + 1) (.int .i64 6) (.bool false) (.slice none 0 0) (.int .u64 0) (.string ⟨#[]⟩) (.slice Kv i dv) → PostT (n + 1) w (.returned (.agg #[.int .i64 6, .bool false, .slice none 0 0, .int .u64 0, .string ⟨#[]⟩, .slice Kv i dv])) W') := by
        rintro W' rfl
        have hgr := set36_grown wr (w.heap.size + 1) (.int .i64 6) (.bool false) (.slice none 0 0) (.int .u64 0) (.string ⟨#[]⟩) (.slice Kv i dv)
        have hKg := HKf.out.grown hgr (by omega) (fun h => by omega)
        refine ⟨⟨6, false, [], 0, ⟨#[]⟩, ts⟩, _, rfl, ?_, ⟨(fun e => by cases e), (fun e => by cases e), fun k hk => (hts k hk).2⟩, VC.kidsOf (hKg.get _ (fun k h1 h2 => ⟨by omega, h2⟩) (fun k h1 h2 => ⟨by omega, h2⟩)) hdv1, below_grown' hB hgr (by omega)⟩
        unfold VT.ok
        refine ⟨by simp, by simp, .inr (.inr (.inr (.inr (.inr ⟨by show (6 : Int) ≤ 6; omega, by show (6 : Int) ≤ 9; omega, rfl, rfl, rfl, rfl, ?_, (fun e => by cases e), fun k hk => (hts k hk).1⟩))))⟩
        show ts.length ≤ _
        rw [KL.out]
        have := ki.out
        split <;> omega
      by_cases h1 : i < m
      · have q1 : (i : Int) < (m : Int) := by omega
        have hi8' : i = 8 := by omega
        subst hi8'
        go_wp2_with fail
        refine bodyPost_ret (ret_row (set36 _ _ _ _ _ _ r1.out) rfl _ _ rfl Tryz.underlying36 rfl i36) rfl (HFIN.out _ rfl)
      · have q1 : ¬ (i : Int) < (m : Int) := by omega
        go_wp2_with fail
        refine bodyPost_ret (ret_row (set36 _ _ _ _ _ _ r1.out) rfl _ _ rfl Tryz.underlying36 rfl i36) rfl (HFIN.out _ rfl)
set_option maxHeartbeats 4000000 in
theorem clean7 (n : Nat) (hn : n ≤ 100) (ih : CleanC n) (w : World) (k : Int) (ng : Bool) (A : Option Addr) (a c u : Nat) (t : ByteArray) (K : Option Addr) (m d : Nat) (hd1 : m ≤ d) (hd2 : d ≤ 140737488355328)
    (hk : m = 0 ∨ ∃ x : Addr, K = some x ∧ ∀ i, i < m → ∃ cs' : Array Value, (∀ j, j < 6 → w.cell? (x.add (i * 6 + j)) = cs'[j]?) ∧ IV n w cs') (hq : (k.tmod 10 + 10) % 10 = 7) : Calls Tryz.prog 17 #[.agg #[.int .i64 k, .bool ng, .slice A a c, .int .u64 ((u : Nat) : Int), .string t, .slice K m d], .int .i64 (((n + 1 : Nat)) : Int)] w (PostT (n + 1) w) := by
  obtain ⟨D, hD⟩ : ∃ D : Int, ((n + 1 : Nat) : Int) = D := ⟨_, rfl⟩
  have hDp : 0 < D := by omega
  have hDle : D ≤ 101 := by omega
  have HD : Hid (D - 1 = (n : Int)) := by show _ = _; omega
  rw [hD]
  clear hD
  have hwD : IntKind.i64.wrap (D - 1) = (n : Int) := by rw [HD.out, IntKind.wrap_i64]; omega
  have HWD := Lib.hid hwD
  obtain ⟨w1, hw1, b1, r0, r1, r2, hsz⟩ := three36 w #[.int .i64 k, .bool ng, .slice A a c, .int .u64 ((u : Nat) : Int), .string t, .slice K m d] zero36 zero36
  unfold zero36 at hw1 r1 r2
  have R0 := Lib.hid r0
  have R1 := Lib.hid r1
  have R2 := Lib.hid r2
  have HSZ := Lib.hid hsz
  have HSZ1 : w.heap.size + 1 + 1 + 1 ≤ w1.heap.size := by omega
  have e0 := r0.cell 0 _ rfl
  obtain ⟨f0, g0, f1, g1, f2, g2, f3, g3, f4, g4, f5, g5⟩ := facts36 R2.out (.int .i64 7) (.bool false) (.slice none 0 0) (.int .u64 0) (.string ⟨#[]⟩)
  obtain ⟨hr1, hr2⟩ := kd_rng k
  have HK := Lib.hid hk
  have HIH := Lib.hid ih
  clear hsz r0 r1 r2 hk ih
  go_enter Tryz.func17, Tryz.ntmps17
  go_wp2_with fail
  clear hw1 e0 f0 g0 f1 g1 f2 g2 f3 g3 f4 g4 f5 g5
  go_loopw [7] (fun vi wr => ∃ (i : Nat) (v : Value) (ts : List VT), i ≤ m ∧ i ≤ 8 ∧ vi = .int .i64 (i : Int) ∧ Hid (RowB wr w.heap.size #[.int .i64 k, .bool ng, .slice A a c, .int .u64 ((u : Nat) : Int), .string t, .slice K m d] 36) ∧ Hid (RowB wr (w.heap.size + 1) #[.int .i64 0, .bool false, .slice none 0 0, .int .u64 0, .string ⟨#[]⟩, .slice none 0 0] 36) ∧ Hid (RowB wr (w.heap.size + 1 + 1) #[.int .i64 7, .bool false, .slice none 0 0, .int .u64 0, .string ⟨#[]⟩, v] 36) ∧
      Kin n (w.heap.size + 1 + 1 + 1) (fun k => w.heap.size + 1 + 1 + 1 ≤ k) wr v i ts ∧ Below w.heap.size w wr ∧ w.heap.size + 1 + 1 + 1 ≤ wr.heap.size ∧ (∀ k ∈ ts, VT.ok n k ∧ KK n k)) (fun vi _ => 8 - (intOf vi).toNat)
  case atStart => exact ⟨0, _, [], by omega, by omega, rfl, R0.out.grown (set36_grown _ _ _ _ _ _ _ _) (by omega), R1.out.grown (set36_grown _ _ _ _ _ _ _ _) (by omega), set36 _ _ _ _ _ _ R2.out, Kin.nil _ _ _ _, below_grown' b1 (set36_grown _ _ _ _ _ _ _ _) (by omega), by have := (set36_grown w1 (w.heap.size + 1 + 1) (.int .i64 7) (.bool false) (.slice none 0 0) (.int .u64 0) (.string ⟨#[]⟩) (.slice none 0 0)).size; exact Nat.le_trans (by omega) this, by simp⟩
  case round =>
    obtain ⟨i, v, ts, hi, hi8, rfl, r0, r1, r2, hK, hB, hsize, hts⟩ := hrel
    have e5 := r0.out.cell 5 _ rfl
    by_cases hlt : i < m ∧ i < 8
    · obtain ⟨hlt, hlt8⟩ := hlt
      obtain ⟨x, rfl, hkid⟩ := HK.out.resolve_left (by omega)
      obtain ⟨cs, hcs, hIV⟩ := hkid i hlt
      have hIVw := hIV.below hB
      obtain ⟨k2, ng2, A2, a2, c2, u2, t2, K2, m2, d2, bs2, rfl, _⟩ : ∃ k ng A a c u t K m d bs, cs = #[.int .i64 k, .bool ng, .slice A a c, .int .u64 ((u : Nat) : Int), .string t, .slice K m d] ∧ ByteA w A a c bs := by
        cases n <;> (obtain ⟨k, ng, A, a, c, u, t, K, m, d, bs, e, h1, h2, _⟩ := hIV; exact ⟨k, ng, A, a, c, u, t, K, m, d, bs, e, h2⟩)
      have y0 : w.cell? (x.add (i * 6)) = some (.int .i64 k2) := hcs 0 (by omega)
      have y1 : w.cell? ⟨(x.add (i * 6)).block, (x.add (i * 6)).off + 1, none⟩ = some (.bool ng2) := by
        have z := hcs 1 (by omega)
        rw [← add_add', add_pos _ 1 (by omega)] at z
        exact z
      have y2 : w.cell? ⟨(x.add (i * 6)).block, (x.add (i * 6)).off + 2, none⟩ = some (.slice A2 a2 c2) := by
        have z := hcs 2 (by omega)
        rw [← add_add', add_pos _ 2 (by omega)] at z
        exact z
      have y3 : w.cell? ⟨(x.add (i * 6)).block, (x.add (i * 6)).off + 3, none⟩ = some (.int .u64 ((u2 : Nat) : Int)) := by
        have z := hcs 3 (by omega)
        rw [← add_add', add_pos _ 3 (by omega)] at z
        exact z
      have y4 : w.cell? ⟨(x.add (i * 6)).block, (x.add (i * 6)).off + 4, none⟩ = some (.string t2) := by
        have z := hcs 4 (by omega)
        rw [← add_add', add_pos _ 4 (by omega)] at z
        exact z
      have y5 : w.cell? ⟨(x.add (i * 6)).block, (x.add (i * 6)).off + 5, none⟩ = some (.slice K2 m2 d2) := by
        have z := hcs 5 (by omega)
        rw [← add_add', add_pos _ 5 (by omega)] at z
        exact z
      obtain ⟨yb, yo, hxa⟩ := cell_addr y0
      rw [hxa] at y0 y1 y2 y3 y4 y5
      have q1 : (i : Int) < (m : Int) := by omega
      have q2 : (i : Int) < 8 := by omega
      obtain ⟨Kv, dv, rfl, hdv1, hdv2, hKv⟩ := hK.shape
      have HC := Lib.hid (HIH.out wr.drew _ (hIVw.below (below_drew1 wr)))
      have KD := Lib.hid hK.drew
      have KB : Hid (∀ x, (Value.slice Kv i dv).ownBlock = some x → w.heap.size + 1 + 1 + 1 ≤ x ∧ x < wr.heap.size) := fun x hx => hK.block x hx
      have BD := Lib.hid (below_trans' hB (below_drew1 wr))
      have r0d := Lib.hid r0.out.drew
      have r1d := Lib.hid r1.out.drew
      have r2d := Lib.hid r2.out.drew
      have e25 := r2.out.cell 5 _ rfl
      have HSAT : Hid (∀ W, Below w.heap.size w W → RowB W w.heap.size #[.int .i64 k, .bool ng, .slice A a c, .int .u64 ((u : Nat) : Int), .string t, .slice (some x) m d] 36 → W.cell? ⟨w.heap.size, 5, none⟩ = some (.slice (some x) m d) ∧ W.cell? ⟨yb, yo, none⟩ = some (.int .i64 k2) ∧ W.cell? ⟨yb, yo + 1, none⟩ = some (.bool ng2) ∧ W.cell? ⟨yb, yo + 2, none⟩ = some (.slice A2 a2 c2) ∧ W.cell? ⟨yb, yo + 3, none⟩ = some (.int .u64 ((u2 : Nat) : Int)) ∧ W.cell? ⟨yb, yo + 4, none⟩ = some (.string t2) ∧ W.cell? ⟨yb, yo + 5, none⟩ = some (.slice K2 m2 d2)) := fun W hW hR =>
        ⟨hR.cell 5 _ rfl, below_cell hW y0, below_cell hW y1, below_cell hW y2, below_cell hW y3, below_cell hW y4, below_cell hW y5⟩
      have sA := And.intro (show wr.drew.cell? ⟨w.heap.size + 1 + 1, 5, none⟩ = some (.slice Kv i dv) from r2d.out.cell 5 _ rfl) (HSAT.out wr.drew BD.out r0d.out)
      clear hIV hIVw hcs hkid hK y0 y1 y2 y3 y4 y5
      go_upto_region 20 with (fail)
      refine wp_region_K (fun W => W.cell? ⟨w.heap.size + 1 + 1, 5, none⟩ = some (.slice Kv i dv) ∧ W.cell? ⟨w.heap.size, 5, none⟩ = some (.slice (some x) m d) ∧ W.cell? ⟨yb, yo, none⟩ = some (.int .i64 k2) ∧ W.cell? ⟨yb, yo + 1, none⟩ = some (.bool ng2) ∧ W.cell? ⟨yb, yo + 2, none⟩ = some (.slice A2 a2 c2) ∧ W.cell? ⟨yb, yo + 3, none⟩ = some (.int .u64 ((u2 : Nat) : Int)) ∧ W.cell? ⟨yb, yo + 4, none⟩ = some (.string t2) ∧ W.cell? ⟨yb, yo + 5, none⟩ = some (.slice K2 m2 d2)) 13 (by kernel_rfl) ?_
      refine wpAnyK_take 0 (v := ?kv0) rfl (by kernel_rfl) (by kernel_rfl) (by kernel_rfl) (by kernel_rfl) (fun _ _ _ h => h) sA (yieldsIf_run (by rfl) ?ky0) ?kr0
      case ky0 => (intro w hSw; (try dsimp only at hSw); go_simp; all_goals with_reducible rfl)
      try simp only [Act.put, List.setIfInBounds_toArray, List.set_cons_zero, List.set_cons_succ]
      refine wpAnyK_take 1 (v := ?kv1) rfl (by kernel_rfl) (by kernel_rfl) (by kernel_rfl) (by kernel_rfl) (fun _ _ _ h => h) sA (yieldsIf_run (by rfl) ?ky1) ?kr1
      case ky1 => (intro w hSw; (try dsimp only at hSw); go_simp; all_goals with_reducible rfl)
      try simp only [Act.put, List.setIfInBounds_toArray, List.set_cons_zero, List.set_cons_succ]
      refine wpAnyK_take 2 (v := ?kv2) rfl (by kernel_rfl) (by kernel_rfl) (by kernel_rfl) (by kernel_rfl) (fun _ _ _ h => h) sA (yieldsIf_run (by rfl) ?ky2) ?kr2
      case ky2 => (intro w hSw; (try dsimp only at hSw); go_simp; all_goals with_reducible rfl)
      try simp only [Act.put, List.setIfInBounds_toArray, List.set_cons_zero, List.set_cons_succ]
      refine wpAnyK_take 3 (v := ?kv3) rfl (by kernel_rfl) (by kernel_rfl) (by kernel_rfl) (by kernel_rfl) (fun _ _ _ h => h) sA (yieldsIf_run (by rfl) ?ky3) ?kr3
      case ky3 => (intro w hSw; (try dsimp only at hSw); go_simp; all_goals with_reducible rfl)
      try simp only [Act.put, List.setIfInBounds_toArray, List.set_cons_zero, List.set_cons_succ]
      refine wpAnyK_take 4 (v := ?kv4) rfl (by kernel_rfl) (by kernel_rfl) (by kernel_rfl) (by kernel_rfl) (fun _ _ _ h => h) sA (yieldsIf_run (by rfl) ?ky4) ?kr4
      case ky4 => (intro w hSw; (try dsimp only at hSw); go_simp; all_goals with_reducible rfl)
      try simp only [Act.put, List.setIfInBounds_toArray, List.set_cons_zero, List.set_cons_succ]
      refine wpAnyK_take 5 (v := ?kv5) rfl (by kernel_rfl) (by kernel_rfl) (by kernel_rfl) (by kernel_rfl) (fun _ _ _ h => h) sA (yieldsIf_run (by rfl) ?ky5) ?kr5
      case ky5 => (intro w hSw; (try dsimp only at hSw); go_simp; all_goals with_reducible rfl)
      try simp only [Act.put, List.setIfInBounds_toArray, List.set_cons_zero, List.set_cons_succ]
      refine wpAnyK_take 6 (v := ?kv6) rfl (by kernel_rfl) (by kernel_rfl) (by kernel_rfl) (by kernel_rfl) (fun _ _ _ h => h) sA (yieldsIf_run (by rfl) ?ky6) ?kr6
      case ky6 => (intro w hSw; (try dsimp only at hSw); go_simp; all_goals with_reducible rfl)
      try simp only [Act.put, List.setIfInBounds_toArray, List.set_cons_zero, List.set_cons_succ]
      refine wpAnyK_take 7 (v := ?kv7) rfl (by kernel_rfl) (by kernel_rfl) (by kernel_rfl) (by kernel_rfl) (fun _ _ _ h => h) sA (yieldsIf_run (by rfl) ?ky7) ?kr7
      case ky7 => (intro w hSw; (try dsimp only at hSw); go_simp; all_goals with_reducible rfl)
      try simp only [Act.put, List.setIfInBounds_toArray, List.set_cons_zero, List.set_cons_succ]
      refine wpAnyK_take 8 (v := ?kv8) rfl (by kernel_rfl) (by kernel_rfl) (by kernel_rfl) (by kernel_rfl) (fun _ _ _ h => h) sA (yieldsIf_run (by rfl) ?ky8) ?kr8
      case ky8 => (intro w hSw; (try dsimp only at hSw); go_simp; all_goals with_reducible rfl)
      try simp only [Act.put, List.setIfInBounds_toArray, List.set_cons_zero, List.set_cons_succ]
      refine wpAnyK_one 9 (by kernel_rfl) rfl (fun K' hK => ?_)
      go_simp
      go_at_call 17
      (try rw [HWD.out])
      (with_reducible refine HC.out.mono ?_)
      rintro e w2 ⟨t', cs', rfl, hok', hkk', hV', hB2⟩
      obtain ⟨A3, a3, c3, K3, m3, d3, rfl, _⟩ := VC.head (n := n) hV'
      have p25 := (r2d.out.below hB2).cell 5 _ rfl
      have p26 := ((r2d.out.below hB2).alloc (.cells #[.int .i64 t'.kind, .bool t'.neg, .slice A3 a3 c3, .int .u64 (t'.bits : Int), .string t'.text, .slice K3 m3 d3] 36)).cell 5 _ rfl
      have bw2 := Lib.hid (below_trans' BD.out hB2)
      have sB := And.intro (show w2.cell? ⟨w.heap.size + 1 + 1, 5, none⟩ = some (.slice Kv i dv) from p25) (HSAT.out w2 bw2.out (r0d.out.below hB2))
      have sC := And.intro (show World.cell? _ ⟨w.heap.size + 1 + 1, 5, none⟩ = some (.slice Kv i dv) from p26) (HSAT.out (w2.alloc (.cells #[.int .i64 t'.kind, .bool t'.neg, .slice A3 a3 c3, .int .u64 (t'.bits : Int), .string t'.text, .slice K3 m3 d3] 36)) (below_alloc' bw2.out _) ((r0d.out.below hB2).alloc _))
      have HV := Lib.hid hV'; have HO := Lib.hid hok'; have HY := Lib.hid hkk'; clear hV' hok' hkk'
      go_wp2_with fail
      refine hK.out _ _ (fun _ => sB) ?_
      clear hK K'
      try simp only [Act.put, List.setIfInBounds_toArray, List.set_cons_zero, List.set_cons_succ]
      refine wpAnyK_one 10 (by kernel_rfl) rfl (fun K' hK => ?_)
      go_simp
      refine hK.out _ _ (fun _ => sC) ?_
      clear hK K'
      try simp only [Act.put, List.setIfInBounds_toArray, List.set_cons_zero, List.set_cons_succ]
      refine wpAnyK_one 11 (by kernel_rfl) rfl (fun K' hK => ?_)
      have l2 := hB2.size
      have hdz : wr.drew.heap.size = wr.heap.size := rfl
      obtain ⟨v', w3, hrun, hK3, hg3⟩ := app36 (KD.out.below hB2) t' _ (blks wr.drew.heap.size w2.heap.size) (fun k hk => ⟨hk.2, by have := hk.1; omega⟩) HV.out (fun x hx hc => by have := hc.1; have := KB.out x hx; omega) (by omega) (by omega) 34
      obtain ⟨K4, d4, rfl, hd41, hd42, hK4⟩ := hK3.shape
      have r3 := Lib.hid (((r2d.out.below hB2).alloc (.cells #[.int .i64 t'.kind, .bool t'.neg, .slice A3 a3 c3, .int .u64 (t'.bits : Int), .string t'.text, .slice K3 m3 d3] 36)).grownO hg3 (fun x hx => by have := KB.out x hx; omega))
      have r03 := Lib.hid (((r0d.out.below hB2).alloc (.cells #[.int .i64 t'.kind, .bool t'.neg, .slice A3 a3 c3, .int .u64 (t'.bits : Int), .string t'.text, .slice K3 m3 d3] 36)).grownO hg3 (fun x hx => by have := KB.out x hx; omega))
      have b3 : Hid (Below w.heap.size w w3) := below_own (below_alloc' bw2.out (.cells #[.int .i64 t'.kind, .bool t'.neg, .slice A3 a3 c3, .int .u64 (t'.bits : Int), .string t'.text, .slice K3 m3 d3] 36)) hg3 (fun x hx => by have := KB.out x hx; omega)
      have hg5 := Lib.hid (grown_set (grown_refl w3 (some (w.heap.size + 1 + 1))) 5 (.slice K4 (i + 1) d4))
      have y25 := r3.out.cell 5 _ rfl
      have sD := And.intro (show w3.cell? ⟨w.heap.size + 1 + 1, 5, none⟩ = some (.slice Kv i dv) from y25) (HSAT.out w3 b3.out r03.out)
      have x25 := r3.out.free 5
      have HK3 := Lib.hid hK3
      clear hK3
      refine step_append rfl (.tmp 76) (.tmp 85) 34 rfl _ _ _ _ rfl rfl hrun ?_
      refine hK.out _ _ (fun _ => sD) ?_
      clear hK K'
      try simp only [Act.put, List.setIfInBounds_toArray, List.set_cons_zero, List.set_cons_succ]
      refine wpAnyK_take 12 (v := ?kv12) rfl (by kernel_rfl) (by kernel_rfl) (by kernel_rfl) (by kernel_rfl) (fun _ _ _ h => h) sD (yieldsIf_run (by rfl) ?ky12) ?kr12
      case ky12 => (intro w hSw; (try dsimp only at hSw); go_simp; all_goals with_reducible rfl)
      try simp only [Act.put, List.setIfInBounds_toArray, List.set_cons_zero, List.set_cons_succ]
      refine wpAnyK_free 13 (by kernel_rfl) rfl (by kernel_rfl) (fun K' hK => ?_)
      go_simp
      refine hK.out _ _ ?_
      clear hK K'
      try simp only [Act.put, List.setIfInBounds_toArray, List.set_cons_zero, List.set_cons_succ]
      refine wpAnyK_done (by kernel_rfl) ?_ _
      all_goals
        go_wp2_with fail
        have l2 := hB2.size
        have hdz : wr.drew.heap.size = wr.heap.size := rfl
        replace r03 := r03.out
        have r13 := ((r1d.out.below hB2).alloc (.cells #[.int .i64 t'.kind, .bool t'.neg, .slice A3 a3 c3, .int .u64 (t'.bits : Int), .string t'.text, .slice K3 m3 d3] 36)).grownO hg3 (fun x hx => by have := KB.out x hx; omega)
        replace b3 := b3.out
        replace hg5 := hg5.out
        have l3 := hg3.size
        have l4 := alloc_size w2 (.cells #[.int .i64 t'.kind, .bool t'.neg, .slice A3 a3 c3, .int .u64 (t'.bits : Int), .string t'.text, .slice K3 m3 d3] 36)
        go_roundw
        case rel =>
          refine ⟨i + 1, _, ts ++ [t'], by omega, by omega, by go_num, r03.grown hg5 (by omega), r13.grown hg5 (by omega), r3.out.set 5 _ _ rfl, HK3.out.grown hg5 (by omega) (fun h => by omega), below_grown' b3 hg5 (by omega), Nat.le_trans (by omega) hg5.size, ?_⟩
          intro k hk
          rcases List.mem_append.1 hk with h | h
          · exact hts k h
          · rw [List.mem_singleton.1 h]; exact ⟨HO.out, HY.out⟩
        case measure => simp [intOf]; omega
    · obtain ⟨Kv, dv, rfl, hdv1, hdv2, hKv⟩ := hK.shape
      have k0 := r2.out.cell 0 _ rfl
      have k1 := r2.out.cell 1 _ rfl
      have k2 := r2.out.cell 2 _ rfl
      have k3 := r2.out.cell 3 _ rfl
      have k4 := r2.out.cell 4 _ rfl
      have k5 := r2.out.cell 5 _ rfl
      obtain ⟨f0, g0, f1, g1, f2, g2, f3, g3, f4, g4, f5, g5⟩ := facts36 r1.out (.int .i64 7) (.bool false) (.slice none 0 0) (.int .u64 0) (.string ⟨#[]⟩)
      have HKf := Lib.hid hK
      have KL := Lib.hid hK.len
      have ki := Lib.hid hi8
      clear hK
      have HFIN : Hid (∀ W', W' = set36W wr (w.heap.size + 1) (.int .i64 7) (.bool false) (.slice none 0 0) (.int .u64 0) (.string ⟨#[]⟩) (.slice Kv i dv) → PostT (n + 1) w (.returned (.agg #[.int .i64 7, .bool false, .slice none 0 0, .int .u64 0, .string ⟨#[]⟩, .slice Kv i dv])) W') := by
        rintro W' rfl
        have hgr := set36_grown wr (w.heap.size + 1) (.int .i64 7) (.bool false) (.slice none 0 0) (.int .u64 0) (.string ⟨#[]⟩) (.slice Kv i dv)
        have hKg := HKf.out.grown hgr (by omega) (fun h => by omega)
        refine ⟨⟨7, false, [], 0, ⟨#[]⟩, ts⟩, _, rfl, ?_, ⟨(fun e => by cases e), (fun e => by cases e), fun k hk => (hts k hk).2⟩, VC.kidsOf (hKg.get _ (fun k h1 h2 => ⟨by omega, h2⟩) (fun k h1 h2 => ⟨by omega, h2⟩)) hdv1, below_grown' hB hgr (by omega)⟩
        unfold VT.ok
        refine ⟨by simp, by simp, .inr (.inr (.inr (.inr (.inr ⟨by show (6 : Int) ≤ 7; omega, by show (7 : Int) ≤ 9; omega, rfl, rfl, rfl, rfl, ?_, (fun e => by cases e), fun k hk => (hts k hk).1⟩))))⟩
        show ts.length ≤ _
        rw [KL.out]
        have := ki.out
        split <;> omega
      by_cases h1 : i < m
      · have q1 : (i : Int) < (m : Int) := by omega
        have hi8' : i = 8 := by omega
        subst hi8'
        go_wp2_with fail
        refine bodyPost_ret (ret_row (set36 _ _ _ _ _ _ r1.out) rfl _ _ rfl Tryz.underlying36 rfl i36) rfl (HFIN.out _ rfl)
      · have q1 : ¬ (i : Int) < (m : Int) := by omega
        go_wp2_with fail
        refine bodyPost_ret (ret_row (set36 _ _ _ _ _ _ r1.out) rfl _ _ rfl Tryz.underlying36 rfl i36) rfl (HFIN.out _ rfl)
end Go.Proofs.YtpfihjkhgfoijaaGreatDoor

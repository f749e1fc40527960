/- Contract of spec.cleanDict. -/
import Derived.Outline
import Derived.Test.YtpfihjkhgfoijaaGreatDoorQ35
import Derived.Test.YtpfihjkhgfoijaaGreatDoorQ25
set_option linter.unusedVariables false
set_option linter.unusedSimpArgs false
set_option maxRecDepth 100000
namespace Go.Proofs.YtpfihjkhgfoijaaGreatDoor
open Go.RowKit

set_option maxHeartbeats 4000000 in
theorem c40 (n : Nat) (hn : n ≤ 100) (ih : CleanC n) (w : World) (k : Int) (ng : Bool) (A : Option Addr) (a c u : Nat) (t : ByteArray) (K : Option Addr) (m d : Nat) (hd1 : m ≤ d) (hd2 : d ≤ 140737488355328)
    (hk : m = 0 ∨ ∃ x : Addr, K = some x ∧ ∀ i, i < m → ∃ cs' : Array Value, (∀ j, j < 6 → w.cell? (x.add (i * 6 + j)) = cs'[j]?) ∧ IV n w cs') : Calls Tryz.prog 40 #[.agg #[.int .i64 k, .bool ng, .slice A a c, .int .u64 ((u : Nat) : Int), .string t, .slice K m d], .int .i64 (((n + 1 : Nat)) : Int)] w (PostT (n + 1) w) := by
  obtain ⟨D, hD⟩ : ∃ D : Int, ((n + 1 : Nat) : Int) = D := ⟨_, rfl⟩
  have hDp : 0 < D := by omega
  have hDle : D ≤ 101 := by omega
  have HD : Hid (D - 1 = (n : Int)) := by show _ = _; omega
  rw [hD]
  clear hD
  have hwD : IntKind.i64.wrap (D - 1) = (n : Int) := by rw [HD.out, IntKind.wrap_i64]; omega
  have HWD := Lib.hid hwD
  obtain ⟨w1, hw1, b1, r0, r1, r2, hsz⟩ := three36 w #[.int .i64 k, .bool ng, .slice A a c, .int .u64 ((u : Nat) : Int), .string t, .slice K m d] zero36 zero36
  unfold zero36 at hw1 r1 r2
  have R0 := Lib.hid r0
  have R1 := Lib.hid r1
  have R2 := Lib.hid r2
  have HSZ := Lib.hid hsz
  have HSZ1 : w.heap.size + 1 + 1 + 1 ≤ w1.heap.size := by omega
  obtain ⟨f0, g0, f1, g1, f2, g2, f3, g3, f4, g4, f5, g5⟩ := facts36 R2.out (.int .i64 8) (.bool false) (.slice none 0 0) (.int .u64 0) (.string ⟨#[]⟩)
  have HK := Lib.hid hk
  have HIH := Lib.hid ih
  clear hsz r0 r1 r2 hk ih
  go_enter Tryz.func40, Tryz.ntmps40
  go_wp2_with fail
  clear hw1 f0 g0 f1 g1 f2 g2 f3 g3 f4 g4 f5 g5
  go_loopw [6] (fun vi wr => ∃ (i jj : Nat) (v : Value) (ts : List VT), i ≤ 16 ∧ jj ≤ i ∧ i % 2 = 0 ∧ jj % 2 = 0 ∧ vi = .int .i64 (i : Int) ∧ Hid (RowB wr w.heap.size #[.int .i64 k, .bool ng, .slice A a c, .int .u64 ((u : Nat) : Int), .string t, .slice K m d] 36) ∧ Hid (RowB wr (w.heap.size + 1) #[.int .i64 0, .bool false, .slice none 0 0, .int .u64 0, .string ⟨#[]⟩, .slice none 0 0] 36) ∧ Hid (RowB wr (w.heap.size + 1 + 1) #[.int .i64 8, .bool false, .slice none 0 0, .int .u64 0, .string ⟨#[]⟩, v] 36) ∧
      Kin n (w.heap.size + 1 + 1 + 1) (fun k => w.heap.size + 1 + 1 + 1 ≤ k) wr v jj ts ∧ Below w.heap.size w wr ∧ w.heap.size + 1 + 1 + 1 ≤ wr.heap.size ∧ Hid (∀ j, j < ts.length → VT.ok n (ts.getD j default) ∧ KK n (ts.getD j default) ∧ (j % 2 = 0 → VT.key n (ts.getD j default)))) (fun vi _ => 16 - (intOf vi).toNat)
  case atStart => exact ⟨0, 0, _, [], by omega, by omega, by omega, by omega, rfl, R0.out.grown (set36_grown _ _ _ _ _ _ _ _) (by omega), R1.out.grown (set36_grown _ _ _ _ _ _ _ _) (by omega), set36 _ _ _ _ _ _ R2.out, Kin.nil _ _ _ _, below_grown' b1 (set36_grown _ _ _ _ _ _ _ _) (by omega), by have := (set36_grown w1 (w.heap.size + 1 + 1) (.int .i64 8) (.bool false) (.slice none 0 0) (.int .u64 0) (.string ⟨#[]⟩) (.slice none 0 0)).size; exact Nat.le_trans (by omega) this, fun j hj => by simp at hj⟩
  case round =>
    obtain ⟨i, jj, v, ts, hi16, hjj, hi2, hj2, rfl, r0, r1, r2, hK, hB, hsize, hts⟩ := hrel
    have e5 := r0.out.cell 5 _ rfl
    have qw : IntKind.i64.wrap ((i : Int) + 1) = (i : Int) + 1 := by rw [IntKind.wrap_i64]; omega
    have q5 : (0 : Int) ≤ (i : Int) + 1 := by omega
    have q6 : ((i : Int) + 1).toNat = i + 1 := by omega
    by_cases hlt : i + 1 < m ∧ i < 16
    · obtain ⟨hlt, hlt8⟩ := hlt
      obtain ⟨x, rfl, hkid⟩ := HK.out.resolve_left (by omega)
      obtain ⟨cs8, hcs8, hIV8⟩ := hkid i (by omega)
      obtain ⟨k8, ng8, A8, a8, c8, u8, tx8, K8, m8, d8, bs8, rfl, _⟩ : ∃ k ng A a c u t K m d bs, cs8 = #[.int .i64 k, .bool ng, .slice A a c, .int .u64 ((u : Nat) : Int), .string t, .slice K m d] ∧ ByteA w A a c bs := by
        cases n <;> (obtain ⟨k, ng, A, a, c, u, t, K, m, d, bs, e, h1, h2, _⟩ := hIV8; exact ⟨k, ng, A, a, c, u, t, K, m, d, bs, e, h2⟩)
      have y80 : w.cell? (x.add (i * 6)) = some (.int .i64 k8) := hcs8 0 (by omega)
      have y81 : w.cell? ⟨(x.add (i * 6)).block, (x.add (i * 6)).off + 1, none⟩ = some (.bool ng8) := by
        have z := hcs8 1 (by omega)
        rw [← add_add', add_pos _ 1 (by omega)] at z
        exact z
      have y82 : w.cell? ⟨(x.add (i * 6)).block, (x.add (i * 6)).off + 2, none⟩ = some (.slice A8 a8 c8) := by
        have z := hcs8 2 (by omega)
        rw [← add_add', add_pos _ 2 (by omega)] at z
        exact z
      have y83 : w.cell? ⟨(x.add (i * 6)).block, (x.add (i * 6)).off + 3, none⟩ = some (.int .u64 ((u8 : Nat) : Int)) := by
        have z := hcs8 3 (by omega)
        rw [← add_add', add_pos _ 3 (by omega)] at z
        exact z
      have y84 : w.cell? ⟨(x.add (i * 6)).block, (x.add (i * 6)).off + 4, none⟩ = some (.string tx8) := by
        have z := hcs8 4 (by omega)
        rw [← add_add', add_pos _ 4 (by omega)] at z
        exact z
      have y85 : w.cell? ⟨(x.add (i * 6)).block, (x.add (i * 6)).off + 5, none⟩ = some (.slice K8 m8 d8) := by
        have z := hcs8 5 (by omega)
        rw [← add_add', add_pos _ 5 (by omega)] at z
        exact z
      obtain ⟨cs9, hcs9, hIV9⟩ := hkid (i + 1) (by omega)
      obtain ⟨k9, ng9, A9, a9, c9, u9, tx9, K9, m9, d9, bs9, rfl, _⟩ : ∃ k ng A a c u t K m d bs, cs9 = #[.int .i64 k, .bool ng, .slice A a c, .int .u64 ((u : Nat) : Int), .string t, .slice K m d] ∧ ByteA w A a c bs := by
        cases n <;> (obtain ⟨k, ng, A, a, c, u, t, K, m, d, bs, e, h1, h2, _⟩ := hIV9; exact ⟨k, ng, A, a, c, u, t, K, m, d, bs, e, h2⟩)
      have y90 : w.cell? (x.add ((i + 1) * 6)) = some (.int .i64 k9) := hcs9 0 (by omega)
      have y91 : w.cell? ⟨(x.add ((i + 1) * 6)).block, (x.add ((i + 1) * 6)).off + 1, none⟩ = some (.bool ng9) := by
        have z := hcs9 1 (by omega)
        rw [← add_add', add_pos _ 1 (by omega)] at z
        exact z
      have y92 : w.cell? ⟨(x.add ((i + 1) * 6)).block, (x.add ((i + 1) * 6)).off + 2, none⟩ = some (.slice A9 a9 c9) := by
        have z := hcs9 2 (by omega)
        rw [← add_add', add_pos _ 2 (by omega)] at z
        exact z
      have y93 : w.cell? ⟨(x.add ((i + 1) * 6)).block, (x.add ((i + 1) * 6)).off + 3, none⟩ = some (.int .u64 ((u9 : Nat) : Int)) := by
        have z := hcs9 3 (by omega)
        rw [← add_add', add_pos _ 3 (by omega)] at z
        exact z
      have y94 : w.cell? ⟨(x.add ((i + 1) * 6)).block, (x.add ((i + 1) * 6)).off + 4, none⟩ = some (.string tx9) := by
        have z := hcs9 4 (by omega)
        rw [← add_add', add_pos _ 4 (by omega)] at z
        exact z
      have y95 : w.cell? ⟨(x.add ((i + 1) * 6)).block, (x.add ((i + 1) * 6)).off + 5, none⟩ = some (.slice K9 m9 d9) := by
        have z := hcs9 5 (by omega)
        rw [← add_add', add_pos _ 5 (by omega)] at z
        exact z
      obtain ⟨yb8, yo8, hxa8⟩ := cell_addr y80
      rw [hxa8] at y80 y81 y82 y83 y84 y85
      obtain ⟨yb, yo, hxa⟩ := cell_addr y90
      rw [hxa] at y90 y91 y92 y93 y94 y95
      have HC := Lib.hid (HIH.out wr _ (hIV8.below hB))
      have HC9 : Hid (∀ W, Below w.heap.size w W → Calls Tryz.prog 17 #[.agg #[.int .i64 k9, .bool ng9, .slice A9 a9 c9, .int .u64 ((u9 : Nat) : Int), .string tx9, .slice K9 m9 d9], .int .i64 (n : Int)] W (PostT n W)) := fun W hW => HIH.out W _ (hIV9.below hW)
      have HSAT9 : Hid (∀ W, Below w.heap.size w W → W.cell? ⟨yb, yo, none⟩ = some (.int .i64 k9) ∧ W.cell? ⟨yb, yo + 1, none⟩ = some (.bool ng9) ∧ W.cell? ⟨yb, yo + 2, none⟩ = some (.slice A9 a9 c9) ∧ W.cell? ⟨yb, yo + 3, none⟩ = some (.int .u64 ((u9 : Nat) : Int)) ∧ W.cell? ⟨yb, yo + 4, none⟩ = some (.string tx9) ∧ W.cell? ⟨yb, yo + 5, none⟩ = some (.slice K9 m9 d9)) := fun W hW => ⟨below_cell hW y90, below_cell hW y91, below_cell hW y92, below_cell hW y93, below_cell hW y94, below_cell hW y95⟩
      replace y80 := below_cell hB y80
      replace y81 := below_cell hB y81
      replace y82 := below_cell hB y82
      replace y83 := below_cell hB y83
      replace y84 := below_cell hB y84
      replace y85 := below_cell hB y85
      have q1 : (i : Int) + 1 < (m : Int) := by omega
      have q3 : (i : Int) < (m : Int) := by omega
      have q2 : (i : Int) < 16 := by omega
      obtain ⟨Kv, dv, rfl, hdv1, hdv2, hKv⟩ := hK.shape
      have KD := Lib.hid hK
      have KB : Hid (∀ x, (Value.slice Kv jj dv).ownBlock = some x → w.heap.size + 1 + 1 + 1 ≤ x ∧ x < wr.heap.size) := fun x hx => hK.block x hx
      clear hIV8 hIV9 hcs8 hcs9 hkid hK y90 y91 y92 y93 y94 y95
      go_wp2_with fail
      (try rw [HD.out])
      refine HC.out.mono ?_
      rintro e w2 ⟨t1, cs1, rfl, hok1, hkk1, hV1, hB2⟩
      clear hkk1
      have HKEY := Lib.hid (KeyC_all n w2 t1 cs1 _ hV1 hok1 (fun k hk => hk.2))
      clear hV1 hok1 e5 y80 y81 y82 y83 y84 y85 HC
      go_wp2_with fail
      refine HKEY.out.mono ?_
      rintro e w3 ⟨t2, cs2, rfl, hok2, hkey2, hV2, hB3⟩
      clear HKEY
      obtain ⟨A3, a3, c3, K3, m3, d3, rfl, _⟩ := VC.head (n := n) hV2
      have l2 := hB2.size
      have l3 := hB3.size
      have hB23 := below_trans' hB2 hB3
      have R6 := Lib.hid (RowB.new w3 #[.int .i64 t2.kind, .bool t2.neg, .slice A3 a3 c3, .int .u64 (t2.bits : Int), .string t2.text, .slice K3 m3 d3] 36)
      have HB5 := Lib.hid (below_alloc' (Below.refl w3.heap.size w3) (.cells #[.int .i64 t2.kind, .bool t2.neg, .slice A3 a3 c3, .int .u64 (t2.bits : Int), .string t2.text, .slice K3 m3 d3] 36))
      have HV2 := Lib.hid hV2
      have HO2 := Lib.hid hok2
      have HY2 := Lib.hid hkey2
      clear hV2 hok2 hkey2
      go_upto_region 6 with (fail)
      generalize w3.alloc (.cells #[.int .i64 t2.kind, .bool t2.neg, .slice A3 a3 c3, .int .u64 (t2.bits : Int), .string t2.text, .slice K3 m3 d3] 36) = w5 at *
      have hB5 := HB5.out
      have l5 := hB5.size
      have bw5 := below_trans' hB23 hB5
      have HK5 := Lib.hid (KD.out.below bw5)
      have HVX5 := Lib.hid (HV2.out.below hB5 (fun k hk => hk.elim (fun h => by have := h.2; omega) (fun h => h.2)))
      have HV5 := Lib.hid (HVX5.out.mono (S' := blks (w.heap.size + 1 + 1 + 1) w5.heap.size) (fun k hk => hk.elim (fun h => ⟨by have := h.1; omega, by have := h.2; omega⟩) (fun h => ⟨by have := h.1; omega, by have := h.2; omega⟩)))
      have r05 := Lib.hid (r0.out.below bw5)
      have r15 := Lib.hid (r1.out.below bw5)
      have r25 := Lib.hid (r2.out.below bw5)
      have BW5 := Lib.hid (below_trans' hB bw5)
      have e25 := r25.out.cell 5 _ rfl
      have z0 := R6.out.cell 0 _ rfl
      have z1 := R6.out.cell 1 _ rfl
      have z2 := R6.out.cell 2 _ rfl
      have z3 := R6.out.cell 3 _ rfl
      have z4 := R6.out.cell 4 _ rfl
      have z5 := R6.out.cell 5 _ rfl
      have HF := Lib.hid (c43 n (EqC_all n) Kv jj dv ts 2 t2 #[.int .i64 t2.kind, .bool t2.neg, .slice A3 a3 c3, .int .u64 (t2.bits : Int), .string t2.text, .slice K3 m3 d3] (blks (w.heap.size + 1 + 1 + 1) w5.heap.size) (blks (w.heap.size + 1 + 1 + 1) w5.heap.size) w5
        (HK5.out.get _ (fun k h1 h2 => ⟨h1, h2⟩) (fun k h1 h2 => ⟨h1, h2⟩)) HV5.out (fun k hk => hk.2) (fun k hk => hk.2) (by omega) (by omega) (by omega)
        (fun q hq h2 => ⟨(hts.out q (by rw [HK5.out.len]; exact hq)).1, (hts.out q (by rw [HK5.out.len]; exact hq)).2.2 h2⟩) HO2.out HY2.out)
      have hw35 : w3.heap.size < w5.heap.size := R6.out.lt
      clear hB5 hB23 hB2 hB3 bw5 KD r0 r1 r2 HV2 HB5 hB
      go_wp2_with fail
      refine HF.out.mono ?_
      rintro e w6 ⟨r, rfl, _, hB6⟩
      clear HF e25 z0 z1 z2 z3 z4 z5
      have l6 := hB6.size
      have HK6 := Lib.hid (HK5.out.below hB6)
      have HVX6 := Lib.hid (HVX5.out.below hB6 (fun k hk => hk.elim (fun h => by have := h.2; omega) (fun h => by have := h.2; omega)))
      have r06 := Lib.hid (r05.out.below hB6)
      have r16 := Lib.hid (r15.out.below hB6)
      have r26 := Lib.hid (r25.out.below hB6)
      have R66 := Lib.hid (R6.out.below hB6)
      have BW6 := Lib.hid (below_trans' BW5.out hB6)
      clear HK5 HV5 HVX5 r05 r15 r25 R6 BW5 hB6
      by_cases hr : r < 0
      · obtain ⟨kb, hkb⟩ : ∃ kb, kb = w3.heap.size := ⟨_, rfl⟩
        rw [← hkb] at R66
        have e25 := r26.out.cell 5 _ rfl
        have r0d := Lib.hid r06.out.drew
        have r1d := Lib.hid r16.out.drew
        have r2d := Lib.hid r26.out.drew
        have RKd := Lib.hid R66.out.drew
        have BD := Lib.hid (below_trans' BW6.out (below_drew1 w6))
        have HCB := Lib.hid (HC9.out w6.drew BD.out)
        have KD6 := Lib.hid HK6.out.drew
        have HVd : Hid (VC n (ext (blks wr.heap.size w2.heap.size) w2.heap.size w3.heap.size) w6.drew t2 #[.int .i64 t2.kind, .bool t2.neg, .slice A3 a3 c3, .int .u64 (t2.bits : Int), .string t2.text, .slice K3 m3 d3]) := HVX6.out.below (below_drew1 w6) (fun k hk => hk.elim (fun h => by have := h.2; omega) (fun h => by have := h.2; omega))
        have HSAT : Hid (∀ W, Below w.heap.size w W → RowB W w.heap.size #[.int .i64 k, .bool ng, .slice A a c, .int .u64 ((u : Nat) : Int), .string t, .slice (some x) m d] 36 → RowB W kb #[.int .i64 t2.kind, .bool t2.neg, .slice A3 a3 c3, .int .u64 (t2.bits : Int), .string t2.text, .slice K3 m3 d3] 36 → W.cell? ⟨w.heap.size, 5, none⟩ = some (.slice (some x) m d) ∧ W.cell? ⟨yb, yo, none⟩ = some (.int .i64 k9) ∧ W.cell? ⟨yb, yo + 1, none⟩ = some (.bool ng9) ∧ W.cell? ⟨yb, yo + 2, none⟩ = some (.slice A9 a9 c9) ∧ W.cell? ⟨yb, yo + 3, none⟩ = some (.int .u64 ((u9 : Nat) : Int)) ∧ W.cell? ⟨yb, yo + 4, none⟩ = some (.string tx9) ∧ W.cell? ⟨yb, yo + 5, none⟩ = some (.slice K9 m9 d9) ∧ W.cell? ⟨kb, 0, none⟩ = some (.int .i64 t2.kind) ∧ W.cell? ⟨kb, 1, none⟩ = some (.bool t2.neg) ∧ W.cell? ⟨kb, 2, none⟩ = some (.slice A3 a3 c3) ∧ W.cell? ⟨kb, 3, none⟩ = some (.int .u64 (t2.bits : Int)) ∧ W.cell? ⟨kb, 4, none⟩ = some (.string t2.text) ∧ W.cell? ⟨kb, 5, none⟩ = some (.slice K3 m3 d3)) := fun W hW hR hR2 => by
          obtain ⟨s0, s1, s2, s3, s4, s5⟩ := HSAT9.out W hW
          exact ⟨hR.cell 5 _ rfl, s0, s1, s2, s3, s4, s5, hR2.cell 0 _ rfl, hR2.cell 1 _ rfl, hR2.cell 2 _ rfl, hR2.cell 3 _ rfl, hR2.cell 4 _ rfl, hR2.cell 5 _ rfl⟩
        have sA := And.intro (show w6.drew.cell? ⟨w.heap.size + 1 + 1, 5, none⟩ = some (.slice Kv jj dv) from r2d.out.cell 5 _ rfl) (HSAT.out w6.drew BD.out r0d.out RKd.out)
        have HKB := Lib.hid hkb
        rw [← hkb]
        clear hkb
        go_upto_region 7 with (fail)
        refine wp_region_K (fun W => W.cell? ⟨w.heap.size + 1 + 1, 5, none⟩ = some (.slice Kv jj dv) ∧ W.cell? ⟨w.heap.size, 5, none⟩ = some (.slice (some x) m d) ∧ W.cell? ⟨yb, yo, none⟩ = some (.int .i64 k9) ∧ W.cell? ⟨yb, yo + 1, none⟩ = some (.bool ng9) ∧ W.cell? ⟨yb, yo + 2, none⟩ = some (.slice A9 a9 c9) ∧ W.cell? ⟨yb, yo + 3, none⟩ = some (.int .u64 ((u9 : Nat) : Int)) ∧ W.cell? ⟨yb, yo + 4, none⟩ = some (.string tx9) ∧ W.cell? ⟨yb, yo + 5, none⟩ = some (.slice K9 m9 d9) ∧ W.cell? ⟨kb, 0, none⟩ = some (.int .i64 t2.kind) ∧ W.cell? ⟨kb, 1, none⟩ = some (.bool t2.neg) ∧ W.cell? ⟨kb, 2, none⟩ = some (.slice A3 a3 c3) ∧ W.cell? ⟨kb, 3, none⟩ = some (.int .u64 (t2.bits : Int)) ∧ W.cell? ⟨kb, 4, none⟩ = some (.string t2.text) ∧ W.cell? ⟨kb, 5, none⟩ = some (.slice K3 m3 d3)) 15 (by kernel_rfl) ?_
        refine wpAnyK_take 0 (v := ?kv0) rfl (by kernel_rfl) (by kernel_rfl) (by kernel_rfl) (by kernel_rfl) (fun _ _ _ h => h) sA (yieldsIf_run (by rfl) ?ky0) ?kr0
        case ky0 => (intro w hSw; (try dsimp only at hSw); go_simp; all_goals with_reducible rfl)
        try simp only [Act.put, List.setIfInBounds_toArray, List.set_cons_zero, List.set_cons_succ]
        refine wpAnyK_take 1 (v := ?kv1) rfl (by kernel_rfl) (by kernel_rfl) (by kernel_rfl) (by kernel_rfl) (fun _ _ _ h => h) sA (yieldsIf_run (by rfl) ?ky1) ?kr1
        case ky1 => (intro w hSw; (try dsimp only at hSw); go_simp; all_goals with_reducible rfl)
        try simp only [Act.put, List.setIfInBounds_toArray, List.set_cons_zero, List.set_cons_succ]
        refine wpAnyK_take 2 (v := ?kv2) rfl (by kernel_rfl) (by kernel_rfl) (by kernel_rfl) (by kernel_rfl) (fun _ _ _ h => h) sA (yieldsIf_run (by rfl) ?ky2) ?kr2
        case ky2 => (intro w hSw; (try dsimp only at hSw); go_simp; all_goals with_reducible rfl)
        try simp only [Act.put, List.setIfInBounds_toArray, List.set_cons_zero, List.set_cons_succ]
        refine wpAnyK_take 3 (v := ?kv3) rfl (by kernel_rfl) (by kernel_rfl) (by kernel_rfl) (by kernel_rfl) (fun _ _ _ h => h) sA (yieldsIf_run (by rfl) ?ky3) ?kr3
        case ky3 => (intro w hSw; (try dsimp only at hSw); go_simp; all_goals with_reducible rfl)
        try simp only [Act.put, List.setIfInBounds_toArray, List.set_cons_zero, List.set_cons_succ]
        refine wpAnyK_take 4 (v := ?kv4) rfl (by kernel_rfl) (by kernel_rfl) (by kernel_rfl) (by kernel_rfl) (fun _ _ _ h => h) sA (yieldsIf_run (by rfl) ?ky4) ?kr4
        case ky4 => (intro w hSw; (try dsimp only at hSw); go_simp; all_goals with_reducible rfl)
        try simp only [Act.put, List.setIfInBounds_toArray, List.set_cons_zero, List.set_cons_succ]
        refine wpAnyK_take 5 (v := ?kv5) rfl (by kernel_rfl) (by kernel_rfl) (by kernel_rfl) (by kernel_rfl) (fun _ _ _ h => h) sA (yieldsIf_run (by rfl) ?ky5) ?kr5
        case ky5 => (intro w hSw; (try dsimp only at hSw); go_simp; all_goals with_reducible rfl)
        try simp only [Act.put, List.setIfInBounds_toArray, List.set_cons_zero, List.set_cons_succ]
        refine wpAnyK_take 6 (v := ?kv6) rfl (by kernel_rfl) (by kernel_rfl) (by kernel_rfl) (by kernel_rfl) (fun _ _ _ h => h) sA (yieldsIf_run (by rfl) ?ky6) ?kr6
        case ky6 => (intro w hSw; (try dsimp only at hSw); go_simp; all_goals with_reducible rfl)
        try simp only [Act.put, List.setIfInBounds_toArray, List.set_cons_zero, List.set_cons_succ]
        refine wpAnyK_take 7 (v := ?kv7) rfl (by kernel_rfl) (by kernel_rfl) (by kernel_rfl) (by kernel_rfl) (fun _ _ _ h => h) sA (yieldsIf_run (by rfl) ?ky7) ?kr7
        case ky7 => (intro w hSw; (try dsimp only at hSw); go_simp; all_goals with_reducible rfl)
        try simp only [Act.put, List.setIfInBounds_toArray, List.set_cons_zero, List.set_cons_succ]
        refine wpAnyK_take 8 (v := ?kv8) rfl (by kernel_rfl) (by kernel_rfl) (by kernel_rfl) (by kernel_rfl) (fun _ _ _ h => h) sA (yieldsIf_run (by rfl) ?ky8) ?kr8
        case ky8 => (intro w hSw; (try dsimp only at hSw); go_simp; all_goals with_reducible rfl)
        try simp only [Act.put, List.setIfInBounds_toArray, List.set_cons_zero, List.set_cons_succ]
        refine wpAnyK_take 9 (v := ?kv9) rfl (by kernel_rfl) (by kernel_rfl) (by kernel_rfl) (by kernel_rfl) (fun _ _ _ h => h) sA (yieldsIf_run (by rfl) ?ky9) ?kr9
        case ky9 => (intro w hSw; (try dsimp only at hSw); go_simp; all_goals with_reducible rfl)
        try simp only [Act.put, List.setIfInBounds_toArray, List.set_cons_zero, List.set_cons_succ]
        refine wpAnyK_take 10 (v := ?kv10) rfl (by kernel_rfl) (by kernel_rfl) (by kernel_rfl) (by kernel_rfl) (fun _ _ _ h => h) sA (yieldsIf_run (by rfl) ?ky10) ?kr10
        case ky10 => (intro w hSw; (try dsimp only at hSw); go_simp; all_goals with_reducible rfl)
        try simp only [Act.put, List.setIfInBounds_toArray, List.set_cons_zero, List.set_cons_succ]
        refine wpAnyK_one 11 (by kernel_rfl) rfl (fun K' hK => ?_)
        go_simp
        go_at_call 17
        (try rw [HWD.out])
        (with_reducible refine HCB.out.mono ?_)
        rintro e w7 ⟨t4, cs4, rfl, hok4, hkk4, hV4, hB7⟩
        obtain ⟨A5, a5, c5, K5, m5, d5, rfl, _⟩ := VC.head (n := n) hV4
        have p25 := (r2d.out.below hB7).cell 5 _ rfl
        have p26 := ((r2d.out.below hB7).alloc (.cells #[.int .i64 t2.kind, .bool t2.neg, .slice A3 a3 c3, .int .u64 (t2.bits : Int), .string t2.text, .slice K3 m3 d3, .int .i64 t4.kind, .bool t4.neg, .slice A5 a5 c5, .int .u64 (t4.bits : Int), .string t4.text, .slice K5 m5 d5] 36)).cell 5 _ rfl
        have bw7 := Lib.hid (below_trans' BD.out hB7)
        have sB := And.intro (show w7.cell? ⟨w.heap.size + 1 + 1, 5, none⟩ = some (.slice Kv jj dv) from p25) (HSAT.out w7 bw7.out (r0d.out.below hB7) (RKd.out.below hB7))
        have sC := And.intro (show World.cell? _ ⟨w.heap.size + 1 + 1, 5, none⟩ = some (.slice Kv jj dv) from p26) (HSAT.out (w7.alloc (.cells #[.int .i64 t2.kind, .bool t2.neg, .slice A3 a3 c3, .int .u64 (t2.bits : Int), .string t2.text, .slice K3 m3 d3, .int .i64 t4.kind, .bool t4.neg, .slice A5 a5 c5, .int .u64 (t4.bits : Int), .string t4.text, .slice K5 m5 d5] 36)) (below_alloc' bw7.out _) ((r0d.out.below hB7).alloc _) ((RKd.out.below hB7).alloc _))
        have HV4 := Lib.hid hV4; have HO4 := Lib.hid hok4; have HY4 := Lib.hid hkk4; clear hV4 hok4 hkk4
        go_wp2_with fail
        refine hK.out _ _ (fun _ => sB) ?_
        clear hK K'
        try simp only [Act.put, List.setIfInBounds_toArray, List.set_cons_zero, List.set_cons_succ]
        refine wpAnyK_one 12 (by kernel_rfl) rfl (fun K' hK => ?_)
        go_simp
        refine hK.out _ _ (fun _ => sC) ?_
        clear hK K'
        try simp only [Act.put, List.setIfInBounds_toArray, List.set_cons_zero, List.set_cons_succ]
        refine wpAnyK_one 13 (by kernel_rfl) rfl (fun K' hK => ?_)
        have l7 := hB7.size
        have hdz : w6.drew.heap.size = w6.heap.size := rfl
        obtain ⟨v', w8, hrun, hK8, hg8⟩ := app36b (KD6.out.below hB7) t2 t4 _ _ (ext (blks wr.heap.size w2.heap.size) w2.heap.size w3.heap.size) (blks w6.drew.heap.size w7.heap.size)
          (fun k hk => hk.elim (fun h => ⟨by have := h.2; omega, by have := h.1; show _ ≤ k; omega⟩) (fun h => ⟨by have := h.2; omega, by have := h.1; show _ ≤ k; omega⟩)) (fun k hk => ⟨hk.2, by have := hk.1; show _ ≤ k; omega⟩)
          (HVd.out.below hB7 (fun k hk => hk.elim (fun h => by have := h.2; omega) (fun h => by have := h.2; omega))) HV4.out
          (fun y hy hc => by have := KB.out y hy; exact hc.elim (fun h => by have := h.1; omega) (fun h => by have := h.1; omega)) (fun y hy hc => by have := KB.out y hy; have := hc.1; omega) (by omega) (by omega) 34 #[.int .i64 t2.kind, .bool t2.neg, .slice A3 a3 c3, .int .u64 (t2.bits : Int), .string t2.text, .slice K3 m3 d3, .int .i64 t4.kind, .bool t4.neg, .slice A5 a5 c5, .int .u64 (t4.bits : Int), .string t4.text, .slice K5 m5 d5] rfl
        obtain ⟨K4, d4, rfl, hd41, hd42, hK4⟩ := hK8.shape
        have hne8 : ∀ y, (Value.slice Kv jj dv).ownBlock = some y → w.heap.size + 1 + 1 + 1 ≤ y ∧ y < wr.heap.size := KB.out
        have r3 := Lib.hid (((r2d.out.below hB7).alloc (.cells #[.int .i64 t2.kind, .bool t2.neg, .slice A3 a3 c3, .int .u64 (t2.bits : Int), .string t2.text, .slice K3 m3 d3, .int .i64 t4.kind, .bool t4.neg, .slice A5 a5 c5, .int .u64 (t4.bits : Int), .string t4.text, .slice K5 m5 d5] 36)).grownO hg8 (fun y hy => by have := hne8 y hy; omega))
        have r03 := Lib.hid (((r0d.out.below hB7).alloc (.cells #[.int .i64 t2.kind, .bool t2.neg, .slice A3 a3 c3, .int .u64 (t2.bits : Int), .string t2.text, .slice K3 m3 d3, .int .i64 t4.kind, .bool t4.neg, .slice A5 a5 c5, .int .u64 (t4.bits : Int), .string t4.text, .slice K5 m5 d5] 36)).grownO hg8 (fun y hy => by have := hne8 y hy; omega))
        have rk3 := Lib.hid (((RKd.out.below hB7).alloc (.cells #[.int .i64 t2.kind, .bool t2.neg, .slice A3 a3 c3, .int .u64 (t2.bits : Int), .string t2.text, .slice K3 m3 d3, .int .i64 t4.kind, .bool t4.neg, .slice A5 a5 c5, .int .u64 (t4.bits : Int), .string t4.text, .slice K5 m5 d5] 36)).grownO hg8 (fun y hy => by have := hne8 y hy; have := HKB.out; omega))
        have b3 : Hid (Below w.heap.size w w8) := below_own (below_alloc' bw7.out (.cells #[.int .i64 t2.kind, .bool t2.neg, .slice A3 a3 c3, .int .u64 (t2.bits : Int), .string t2.text, .slice K3 m3 d3, .int .i64 t4.kind, .bool t4.neg, .slice A5 a5 c5, .int .u64 (t4.bits : Int), .string t4.text, .slice K5 m5 d5] 36)) hg8 (fun y hy => by have := hne8 y hy; omega)
        have hg5 := Lib.hid (grown_set (grown_refl w8 (some (w.heap.size + 1 + 1))) 5 (.slice K4 (jj + 2) d4))
        have y25 := r3.out.cell 5 _ rfl
        have sD := And.intro (show w8.cell? ⟨w.heap.size + 1 + 1, 5, none⟩ = some (.slice Kv jj dv) from y25) (HSAT.out w8 b3.out r03.out rk3.out)
        have x25 := r3.out.free 5
        have HK8 := Lib.hid hK8
        clear hK8 hne8
        refine step_append rfl (.tmp 36) (.tmp 47) 34 rfl _ _ _ _ rfl rfl hrun ?_
        refine hK.out _ _ (fun _ => sD) ?_
        clear hK K'
        try simp only [Act.put, List.setIfInBounds_toArray, List.set_cons_zero, List.set_cons_succ]
        refine wpAnyK_take 14 (v := ?kv14) rfl (by kernel_rfl) (by kernel_rfl) (by kernel_rfl) (by kernel_rfl) (fun _ _ _ h => h) sD (yieldsIf_run (by rfl) ?ky14) ?kr14
        case ky14 => (intro w hSw; (try dsimp only at hSw); go_simp; all_goals with_reducible rfl)
        try simp only [Act.put, List.setIfInBounds_toArray, List.set_cons_zero, List.set_cons_succ]
        refine wpAnyK_free 15 (by kernel_rfl) rfl (by kernel_rfl) (fun K' hK => ?_)
        go_simp
        refine hK.out _ _ ?_
        clear hK K'
        try simp only [Act.put, List.setIfInBounds_toArray, List.set_cons_zero, List.set_cons_succ]
        refine wpAnyK_done (by kernel_rfl) ?_ _
        all_goals
          go_wp2_with fail
          have l7 := hB7.size
          have hdz : w6.drew.heap.size = w6.heap.size := rfl
          replace r03 := r03.out
          have r13 := ((r1d.out.below hB7).alloc (.cells #[.int .i64 t2.kind, .bool t2.neg, .slice A3 a3 c3, .int .u64 (t2.bits : Int), .string t2.text, .slice K3 m3 d3, .int .i64 t4.kind, .bool t4.neg, .slice A5 a5 c5, .int .u64 (t4.bits : Int), .string t4.text, .slice K5 m5 d5] 36)).grownO hg8 (fun y hy => by have := KB.out y hy; omega)
          replace b3 := b3.out
          replace hg5 := hg5.out
          have l8 := hg8.size
          have l4 := alloc_size w7 (.cells #[.int .i64 t2.kind, .bool t2.neg, .slice A3 a3 c3, .int .u64 (t2.bits : Int), .string t2.text, .slice K3 m3 d3, .int .i64 t4.kind, .bool t4.neg, .slice A5 a5 c5, .int .u64 (t4.bits : Int), .string t4.text, .slice K5 m5 d5] 36)
          have hlen := HK6.out.len
          go_roundw
          case rel =>
            refine ⟨i + 2, jj + 2, _, ts ++ [t2, t4], by omega, by omega, by omega, by omega, by go_num, r03.grown hg5 (by omega), r13.grown hg5 (by omega), r3.out.set 5 _ _ rfl, HK8.out.grown hg5 (by omega) (fun h => by omega), below_grown' b3 hg5 (by omega), Nat.le_trans (by omega) hg5.size, ?_⟩
            intro j hj
            rw [List.length_append] at hj
            rcases Nat.lt_or_ge j ts.length with h | h
            · rw [List.getD_eq_getElem?_getD, List.getElem?_append_left h, ← List.getD_eq_getElem?_getD]; exact hts.out j h
            · rw [List.getD_eq_getElem?_getD, List.getElem?_append_right h]
              rcases (by simp at hj; omega : j - ts.length = 0 ∨ j - ts.length = 1) with e | e
              · rw [e]; exact ⟨HO2.out, key_KK HO2.out HY2.out, fun _ => HY2.out⟩
              · rw [e]; exact ⟨HO4.out, HY4.out, fun h2 => by omega⟩
          case measure => simp [intOf]; omega
      · go_wp2_with fail
        go_roundw
        case rel => exact ⟨i + 2, jj, _, ts, by omega, by omega, by omega, by omega, by go_num, r06, r16, r26, HK6.out, BW6.out, by omega, hts⟩
        case measure => simp [intOf]; omega
    · obtain ⟨Kv, dv, rfl, hdv1, hdv2, hKv⟩ := hK.shape
      have k0 := r2.out.cell 0 _ rfl
      have k1 := r2.out.cell 1 _ rfl
      have k2 := r2.out.cell 2 _ rfl
      have k3 := r2.out.cell 3 _ rfl
      have k4 := r2.out.cell 4 _ rfl
      have k5 := r2.out.cell 5 _ rfl
      obtain ⟨f0, g0, f1, g1, f2, g2, f3, g3, f4, g4, f5, g5⟩ := facts36 r1.out (.int .i64 8) (.bool false) (.slice none 0 0) (.int .u64 0) (.string ⟨#[]⟩)
      have HKf := Lib.hid hK
      have KL := Lib.hid hK.len
      have ki := Lib.hid (And.intro (Nat.le_trans hjj hi16) hj2)
      clear hK
      have HFIN : Hid (∀ W', W' = set36W wr (w.heap.size + 1) (.int .i64 8) (.bool false) (.slice none 0 0) (.int .u64 0) (.string ⟨#[]⟩) (.slice Kv jj dv) → PostT (n + 1) w (.returned (.agg #[.int .i64 8, .bool false, .slice none 0 0, .int .u64 0, .string ⟨#[]⟩, .slice Kv jj dv])) W') := by
        rintro W' rfl
        have hgr := set36_grown wr (w.heap.size + 1) (.int .i64 8) (.bool false) (.slice none 0 0) (.int .u64 0) (.string ⟨#[]⟩) (.slice Kv jj dv)
        have hKg := HKf.out.grown hgr (by omega) (fun h => by omega)
        have hall : ∀ k ∈ ts, VT.ok n k ∧ KK n k := fun k hk => by
          obtain ⟨j, hj, e⟩ := List.getElem_of_mem hk
          have := hts.out j hj
          rw [List.getD_eq_getElem?_getD, List.getElem?_eq_getElem hj, Option.getD_some, e] at this
          exact ⟨this.1, this.2.1⟩
        refine ⟨⟨8, false, [], 0, ⟨#[]⟩, ts⟩, _, rfl, ?_, ⟨fun _ j hj h2 => (hts.out j hj).2.2 h2, (fun e => by cases e), fun k hk => (hall k hk).2⟩, VC.kidsOf (hKg.get _ (fun k h1 h2 => ⟨by omega, h2⟩) (fun k h1 h2 => ⟨by omega, h2⟩)) hdv1, below_grown' hB hgr (by omega)⟩
        have hl2 : ts.length ≤ 16 ∧ ts.length % 2 = 0 := by rw [KL.out]; exact ki.out
        unfold VT.ok
        refine ⟨by simp, by simp, .inr (.inr (.inr (.inr (.inr ⟨by show (6 : Int) ≤ 8; omega, by show (8 : Int) ≤ 9; omega, rfl, rfl, rfl, rfl, ?_, (fun _ => hl2.2), fun k hk => (hall k hk).1⟩))))⟩
        show ts.length ≤ _
        simp; omega
      by_cases h1 : i + 1 < m
      · have q1 : (i : Int) + 1 < (m : Int) := by omega
        have hi8' : i = 16 := by omega
        subst hi8'
        go_wp2_with fail
        refine bodyPost_ret (ret_row (set36 _ _ _ _ _ _ r1.out) rfl _ _ rfl Tryz.underlying36 rfl i36) rfl (HFIN.out _ rfl)
      · have q1 : ¬ (i : Int) + 1 < (m : Int) := by omega
        go_wp2_with fail
        refine bodyPost_ret (ret_row (set36 _ _ _ _ _ _ r1.out) rfl _ _ rfl Tryz.underlying36 rfl i36) rfl (HFIN.out _ rfl)
end Go.Proofs.YtpfihjkhgfoijaaGreatDoor

/- Contract of spec.cleanSet. -/
import Derived.Outline
import Derived.Test.YtpfihjkhgfoijaaGreatDoorQ33
import Derived.Test.YtpfihjkhgfoijaaGreatDoorQ20
set_option linter.unusedVariables false
set_option linter.unusedSimpArgs false
set_option maxRecDepth 100000
namespace Go.Proofs.YtpfihjkhgfoijaaGreatDoor
open Go.RowKit

theorem KeyC_all (n : Nat) : KeyC n := by
  induction n with
  | zero => exact c85 0 fun m h => by omega
  | succ n ih => exact c85 (n + 1) fun m h => by cases h; exact ih
set_option maxHeartbeats 4000000 in
theorem c41 (n : Nat) (hn : n ≤ 100) (ih : CleanC n) (w : World) (k : Int) (ng : Bool) (A : Option Addr) (a c u : Nat) (t : ByteArray) (K : Option Addr) (m d : Nat) (hd1 : m ≤ d) (hd2 : d ≤ 140737488355328)
    (hk : m = 0 ∨ ∃ x : Addr, K = some x ∧ ∀ i, i < m → ∃ cs' : Array Value, (∀ j, j < 6 → w.cell? (x.add (i * 6 + j)) = cs'[j]?) ∧ IV n w cs') : Calls Tryz.prog 41 #[.agg #[.int .i64 k, .bool ng, .slice A a c, .int .u64 ((u : Nat) : Int), .string t, .slice K m d], .int .i64 (((n + 1 : Nat)) : Int)] w (PostT (n + 1) w) := by
  obtain ⟨D, hD⟩ : ∃ D : Int, ((n + 1 : Nat) : Int) = D := ⟨_, rfl⟩
  have hDp : 0 < D := by omega
  have hDle : D ≤ 101 := by omega
  have HD : Hid (D - 1 = (n : Int)) := by show _ = _; omega
  rw [hD]
  clear hD
  obtain ⟨w1, hw1, b1, r0, r1, r2, hsz⟩ := three36 w #[.int .i64 k, .bool ng, .slice A a c, .int .u64 ((u : Nat) : Int), .string t, .slice K m d] zero36 zero36
  unfold zero36 at hw1 r1 r2
  have R0 := Lib.hid r0
  have R1 := Lib.hid r1
  have R2 := Lib.hid r2
  have HSZ := Lib.hid hsz
  have HSZ1 : w.heap.size + 1 + 1 + 1 ≤ w1.heap.size := by omega
  obtain ⟨f0, g0, f1, g1, f2, g2, f3, g3, f4, g4, f5, g5⟩ := facts36 R2.out (.int .i64 9) (.bool false) (.slice none 0 0) (.int .u64 0) (.string ⟨#[]⟩)
  have HK := Lib.hid hk
  have HIH := Lib.hid ih
  clear hsz r0 r1 r2 hk ih
  go_enter Tryz.func41, Tryz.ntmps41
  go_wp2_with fail
  clear hw1 f0 g0 f1 g1 f2 g2 f3 g3 f4 g4 f5 g5
  go_loopw [6] (fun vi wr => ∃ (i jj : Nat) (v : Value) (ts : List VT), i ≤ m ∧ i ≤ 8 ∧ jj ≤ i ∧ vi = .int .i64 (i : Int) ∧ Hid (RowB wr w.heap.size #[.int .i64 k, .bool ng, .slice A a c, .int .u64 ((u : Nat) : Int), .string t, .slice K m d] 36) ∧ Hid (RowB wr (w.heap.size + 1) #[.int .i64 0, .bool false, .slice none 0 0, .int .u64 0, .string ⟨#[]⟩, .slice none 0 0] 36) ∧ Hid (RowB wr (w.heap.size + 1 + 1) #[.int .i64 9, .bool false, .slice none 0 0, .int .u64 0, .string ⟨#[]⟩, v] 36) ∧
      Kin n (w.heap.size + 1 + 1 + 1) (fun k => w.heap.size + 1 + 1 + 1 ≤ k) wr v jj ts ∧ Below w.heap.size w wr ∧ w.heap.size + 1 + 1 + 1 ≤ wr.heap.size ∧ Hid (∀ k ∈ ts, VT.ok n k ∧ VT.key n k)) (fun vi _ => 8 - (intOf vi).toNat)
  case atStart => exact ⟨0, 0, _, [], by omega, by omega, by omega, rfl, R0.out.grown (set36_grown _ _ _ _ _ _ _ _) (by omega), R1.out.grown (set36_grown _ _ _ _ _ _ _ _) (by omega), set36 _ _ _ _ _ _ R2.out, Kin.nil _ _ _ _, below_grown' b1 (set36_grown _ _ _ _ _ _ _ _) (by omega), by have := (set36_grown w1 (w.heap.size + 1 + 1) (.int .i64 9) (.bool false) (.slice none 0 0) (.int .u64 0) (.string ⟨#[]⟩) (.slice none 0 0)).size; exact Nat.le_trans (by omega) this, by simp [Hid]⟩
  case round =>
    obtain ⟨i, jj, v, ts, hi, hi8, hjj, rfl, r0, r1, r2, hK, hB, hsize, hts⟩ := hrel
    have e5 := r0.out.cell 5 _ rfl
    by_cases hlt : i < m ∧ i < 8
    · obtain ⟨hlt, hlt8⟩ := hlt
      obtain ⟨x, rfl, hkid⟩ := HK.out.resolve_left (by omega)
      obtain ⟨cs, hcs, hIV⟩ := hkid i hlt
      have hIVw := hIV.below hB
      obtain ⟨k2, ng2, A2, a2, c2, u2, tx2, K2, m2, d2, bs2, rfl, _⟩ : ∃ k ng A a c u t K m d bs, cs = #[.int .i64 k, .bool ng, .slice A a c, .int .u64 ((u : Nat) : Int), .string t, .slice K m d] ∧ ByteA w A a c bs := by
        cases n <;> (obtain ⟨k, ng, A, a, c, u, t, K, m, d, bs, e, h1, h2, _⟩ := hIV; exact ⟨k, ng, A, a, c, u, t, K, m, d, bs, e, h2⟩)
      have y0 : wr.cell? (x.add (i * 6)) = some (.int .i64 k2) := below_cell hB (hcs 0 (by omega))
      have y1 : wr.cell? ⟨(x.add (i * 6)).block, (x.add (i * 6)).off + 1, none⟩ = some (.bool ng2) := by
        have z := hcs 1 (by omega)
        rw [← add_add', add_pos _ 1 (by omega)] at z
        exact below_cell hB z
      have y2 : wr.cell? ⟨(x.add (i * 6)).block, (x.add (i * 6)).off + 2, none⟩ = some (.slice A2 a2 c2) := by
        have z := hcs 2 (by omega)
        rw [← add_add', add_pos _ 2 (by omega)] at z
        exact below_cell hB z
      have y3 : wr.cell? ⟨(x.add (i * 6)).block, (x.add (i * 6)).off + 3, none⟩ = some (.int .u64 ((u2 : Nat) : Int)) := by
        have z := hcs 3 (by omega)
        rw [← add_add', add_pos _ 3 (by omega)] at z
        exact below_cell hB z
      have y4 : wr.cell? ⟨(x.add (i * 6)).block, (x.add (i * 6)).off + 4, none⟩ = some (.string tx2) := by
        have z := hcs 4 (by omega)
        rw [← add_add', add_pos _ 4 (by omega)] at z
        exact below_cell hB z
      have y5 : wr.cell? ⟨(x.add (i * 6)).block, (x.add (i * 6)).off + 5, none⟩ = some (.slice K2 m2 d2) := by
        have z := hcs 5 (by omega)
        rw [← add_add', add_pos _ 5 (by omega)] at z
        exact below_cell hB z
      obtain ⟨yb, yo, hxa⟩ := cell_addr y0
      rw [hxa] at y0 y1 y2 y3 y4 y5
      have q1 : (i : Int) < (m : Int) := by omega
      have q2 : (i : Int) < 8 := by omega
      obtain ⟨Kv, dv, rfl, hdv1, hdv2, hKv⟩ := hK.shape
      have HC := Lib.hid (HIH.out wr _ hIVw)
      have KD := Lib.hid hK
      have KB : Hid (∀ x, (Value.slice Kv jj dv).ownBlock = some x → w.heap.size + 1 + 1 + 1 ≤ x ∧ x < wr.heap.size) := fun x hx => hK.block x hx
      clear hIV hIVw hcs hkid hK
      go_wp2_with fail
      rw [HD.out]
      refine HC.out.mono ?_
      rintro e w2 ⟨t1, cs1, rfl, hok1, hkk1, hV1, hB2⟩
      clear hkk1
      have HKEY := Lib.hid (KeyC_all n w2 t1 cs1 _ hV1 hok1 (fun k hk => hk.2))
      clear hV1 hok1 e5 y0 y1 y2 y3 y4 y5 HC
      go_wp2_with fail
      refine HKEY.out.mono ?_
      rintro e w3 ⟨t2, cs2, rfl, hok2, hkey2, hV2, hB3⟩
      clear HKEY
      obtain ⟨A3, a3, c3, K3, m3, d3, rfl, _⟩ := VC.head (n := n) hV2
      have l2 := hB2.size
      have l3 := hB3.size
      have hB23 := below_trans' hB2 hB3
      have R6 := Lib.hid (RowB.new w3 #[.int .i64 t2.kind, .bool t2.neg, .slice A3 a3 c3, .int .u64 (t2.bits : Int), .string t2.text, .slice K3 m3 d3] 36)
      have HB5 := Lib.hid (below_alloc' (Below.refl w3.heap.size w3) (.cells #[.int .i64 t2.kind, .bool t2.neg, .slice A3 a3 c3, .int .u64 (t2.bits : Int), .string t2.text, .slice K3 m3 d3] 36))
      have HV2 := Lib.hid hV2
      have HO2 := Lib.hid hok2
      have HY2 := Lib.hid hkey2
      clear hV2 hok2 hkey2
      go_upto_region 6 with (fail)
      generalize w3.alloc (.cells #[.int .i64 t2.kind, .bool t2.neg, .slice A3 a3 c3, .int .u64 (t2.bits : Int), .string t2.text, .slice K3 m3 d3] 36) = w5 at *
      have hB5 := HB5.out
      have l5 := hB5.size
      have bw5 := below_trans' hB23 hB5
      have HK5 := Lib.hid (KD.out.below bw5)
      have HVX5 := Lib.hid (HV2.out.below hB5 (fun k hk => hk.elim (fun h => by have := h.2; omega) (fun h => h.2)))
      have HV5 := Lib.hid (HVX5.out.mono (S' := blks (w.heap.size + 1 + 1 + 1) w5.heap.size) (fun k hk => hk.elim (fun h => ⟨by have := h.1; omega, by have := h.2; omega⟩) (fun h => ⟨by have := h.1; omega, by have := h.2; omega⟩)))
      have r05 := Lib.hid (r0.out.below bw5)
      have r15 := Lib.hid (r1.out.below bw5)
      have r25 := Lib.hid (r2.out.below bw5)
      have BW5 := Lib.hid (below_trans' hB bw5)
      have e25 := r25.out.cell 5 _ rfl
      have z0 := R6.out.cell 0 _ rfl
      have z1 := R6.out.cell 1 _ rfl
      have z2 := R6.out.cell 2 _ rfl
      have z3 := R6.out.cell 3 _ rfl
      have z4 := R6.out.cell 4 _ rfl
      have z5 := R6.out.cell 5 _ rfl
      have HF := Lib.hid (c43 n (EqC_all n) Kv jj dv ts 1 t2 #[.int .i64 t2.kind, .bool t2.neg, .slice A3 a3 c3, .int .u64 (t2.bits : Int), .string t2.text, .slice K3 m3 d3] (blks (w.heap.size + 1 + 1 + 1) w5.heap.size) (blks (w.heap.size + 1 + 1 + 1) w5.heap.size) w5
        (HK5.out.get _ (fun k h1 h2 => ⟨h1, h2⟩) (fun k h1 h2 => ⟨h1, h2⟩)) HV5.out (fun k hk => hk.2) (fun k hk => hk.2) (by omega) (by omega) (by omega)
        (fun q hq _ => hts.out _ (by rw [List.getD_eq_getElem?_getD, List.getElem?_eq_getElem (by rw [HK5.out.len]; exact hq)]; exact List.getElem_mem (by rw [HK5.out.len]; exact hq))) HO2.out HY2.out)
      have hw35 : w3.heap.size < w5.heap.size := R6.out.lt
      clear hB5 hB23 hB2 hB3 bw5 KD r0 r1 r2 HV2 HB5 hB
      go_wp2_with fail
      refine HF.out.mono ?_
      rintro e w6 ⟨r, rfl, _, hB6⟩
      clear HF e25 z0 z1 z2 z3 z4 z5
      have l6 := hB6.size
      have HK6 := Lib.hid (HK5.out.below hB6)
      have HV6 := Lib.hid (HV5.out.below hB6 (fun k hk => hk.2))
      have HVX6 := Lib.hid (HVX5.out.below hB6 (fun k hk => hk.elim (fun h => by have := h.2; omega) (fun h => by have := h.2; omega)))
      have r06 := Lib.hid (r05.out.below hB6)
      have r16 := Lib.hid (r15.out.below hB6)
      have r26 := Lib.hid (r25.out.below hB6)
      have R66 := Lib.hid (R6.out.below hB6)
      have BW6 := Lib.hid (below_trans' BW5.out hB6)
      have KB6 : Hid (∀ x, (Value.slice Kv jj dv).ownBlock = some x → w.heap.size + 1 + 1 + 1 ≤ x ∧ x < wr.heap.size) := KB
      clear HK5 HV5 HVX5 r05 r15 r25 R6 BW5 hB6
      by_cases hr : r < 0
      · have e25 := r26.out.cell 5 _ rfl
        have z0 := R66.out.cell 0 _ rfl
        have z1 := R66.out.cell 1 _ rfl
        have z2 := R66.out.cell 2 _ rfl
        have z3 := R66.out.cell 3 _ rfl
        have z4 := R66.out.cell 4 _ rfl
        have z5 := R66.out.cell 5 _ rfl
        obtain ⟨v', w7, hrun, hK7, hg7⟩ := app36 HK6.out t2 #[.int .i64 t2.kind, .bool t2.neg, .slice A3 a3 c3, .int .u64 (t2.bits : Int), .string t2.text, .slice K3 m3 d3] (ext (blks wr.heap.size w2.heap.size) w2.heap.size w3.heap.size) (fun k hk => hk.elim (fun h => ⟨by have := h.2; omega, by have := h.1; show _ ≤ k; omega⟩) (fun h => ⟨by have := h.2; omega, by have := h.1; show _ ≤ k; omega⟩)) HVX6.out (fun y hy hc => by have := KB6.out y hy; exact hc.elim (fun h => by have := h.1; omega) (fun h => by have := h.1; omega)) (by omega) (by omega) 34
        obtain ⟨K4, d4, rfl, hd41, hd42, hK4⟩ := hK7.shape
        have hne7 : ∀ y, (Value.slice Kv jj dv).ownBlock = some y → w.heap.size + 1 + 1 + 1 ≤ y := fun y hy => (KB6.out y hy).1
        have r27 := Lib.hid ((r26.out.alloc (.cells #[.int .i64 t2.kind, .bool t2.neg, .slice A3 a3 c3, .int .u64 (t2.bits : Int), .string t2.text, .slice K3 m3 d3] 36)).grownO hg7 (fun y hy => by have := hne7 y hy; omega))
        have r07 := Lib.hid ((r06.out.alloc (.cells #[.int .i64 t2.kind, .bool t2.neg, .slice A3 a3 c3, .int .u64 (t2.bits : Int), .string t2.text, .slice K3 m3 d3] 36)).grownO hg7 (fun y hy => by have := hne7 y hy; omega))
        have r17 := Lib.hid ((r16.out.alloc (.cells #[.int .i64 t2.kind, .bool t2.neg, .slice A3 a3 c3, .int .u64 (t2.bits : Int), .string t2.text, .slice K3 m3 d3] 36)).grownO hg7 (fun y hy => by have := hne7 y hy; omega))
        have b7 : Hid (Below w.heap.size w w7) := below_own (below_alloc' BW6.out (.cells #[.int .i64 t2.kind, .bool t2.neg, .slice A3 a3 c3, .int .u64 (t2.bits : Int), .string t2.text, .slice K3 m3 d3] 36)) hg7 (fun y hy => by have := hne7 y hy; omega)
        have l7 := hg7.size
        have l4 := alloc_size w6 (.cells #[.int .i64 t2.kind, .bool t2.neg, .slice A3 a3 c3, .int .u64 (t2.bits : Int), .string t2.text, .slice K3 m3 d3] 36)
        have p25 := (r26.out.alloc (.cells #[.int .i64 t2.kind, .bool t2.neg, .slice A3 a3 c3, .int .u64 (t2.bits : Int), .string t2.text, .slice K3 m3 d3] 36)).cell 5 _ rfl
        have y25 := r27.out.cell 5 _ rfl
        have x25 := r27.out.free 5
        have HK7 := Lib.hid hK7
        have HR := Lib.hid hrun
        clear hK7 hrun hne7
        go_wp2_with (at_builtin; refine wpl_append rfl (.tmp 35) (.tmp 37) 34 rfl _ _ _ _ rfl rfl HR.out ?_)
        have hg8 := grown_set (grown_refl w7 (some (w.heap.size + 1 + 1))) 5 (.slice K4 (jj + 1) d4)
        go_roundw
        case rel =>
          refine ⟨i + 1, jj + 1, _, ts ++ [t2], by omega, by omega, by omega, by go_num, r07.out.grown hg8 (by omega), r17.out.grown hg8 (by omega), r27.out.set 5 _ _ rfl, HK7.out.grown hg8 (by omega) (fun h => by omega), below_grown' b7.out hg8 (by omega), Nat.le_trans (by omega) hg8.size, ?_⟩
          intro k hk
          rcases List.mem_append.1 hk with h | h
          · exact hts.out k h
          · rw [List.mem_singleton.1 h]; exact ⟨HO2.out, HY2.out⟩
        case measure => simp [intOf]; omega
      · go_wp2_with fail
        go_roundw
        case rel => exact ⟨i + 1, jj, _, ts, by omega, by omega, by omega, by go_num, r06, r16, r26, HK6.out, BW6.out, by omega, hts⟩
        case measure => simp [intOf]; omega
    · obtain ⟨Kv, dv, rfl, hdv1, hdv2, hKv⟩ := hK.shape
      have k0 := r2.out.cell 0 _ rfl
      have k1 := r2.out.cell 1 _ rfl
      have k2 := r2.out.cell 2 _ rfl
      have k3 := r2.out.cell 3 _ rfl
      have k4 := r2.out.cell 4 _ rfl
      have k5 := r2.out.cell 5 _ rfl
      obtain ⟨f0, g0, f1, g1, f2, g2, f3, g3, f4, g4, f5, g5⟩ := facts36 r1.out (.int .i64 9) (.bool false) (.slice none 0 0) (.int .u64 0) (.string ⟨#[]⟩)
      have HKf := Lib.hid hK
      have KL := Lib.hid hK.len
      have ki := Lib.hid (Nat.le_trans hjj hi8)
      clear hK
      have HFIN : Hid (∀ W', W' = set36W wr (w.heap.size + 1) (.int .i64 9) (.bool false) (.slice none 0 0) (.int .u64 0) (.string ⟨#[]⟩) (.slice Kv jj dv) → PostT (n + 1) w (.returned (.agg #[.int .i64 9, .bool false, .slice none 0 0, .int .u64 0, .string ⟨#[]⟩, .slice Kv jj dv])) W') := by
        rintro W' rfl
        have hgr := set36_grown wr (w.heap.size + 1) (.int .i64 9) (.bool false) (.slice none 0 0) (.int .u64 0) (.string ⟨#[]⟩) (.slice Kv jj dv)
        have hKg := HKf.out.grown hgr (by omega) (fun h => by omega)
        have hkey : ∀ j, j < ts.length → VT.key n (ts.getD j default) := fun j hj => (hts.out _ (by rw [List.getD_eq_getElem?_getD, List.getElem?_eq_getElem hj]; exact List.getElem_mem hj)).2
        refine ⟨⟨9, false, [], 0, ⟨#[]⟩, ts⟩, _, rfl, ?_, ⟨(fun e => by cases e), fun _ j hj _ => hkey j hj, fun k hk => key_KK (hts.out k hk).1 (hts.out k hk).2⟩, VC.kidsOf (hKg.get _ (fun k h1 h2 => ⟨by omega, h2⟩) (fun k h1 h2 => ⟨by omega, h2⟩)) hdv1, below_grown' hB hgr (by omega)⟩
        unfold VT.ok
        refine ⟨by simp, by simp, .inr (.inr (.inr (.inr (.inr ⟨by show (6 : Int) ≤ 9; omega, by show (9 : Int) ≤ 9; omega, rfl, rfl, rfl, rfl, ?_, (fun e => by cases e), fun k hk => (hts.out k hk).1⟩))))⟩
        show ts.length ≤ _
        rw [KL.out]
        have := ki.out
        simp; omega
      by_cases h1 : i < m
      · have q1 : (i : Int) < (m : Int) := by omega
        have hi8' : i = 8 := by omega
        subst hi8'
        go_wp2_with fail
        refine bodyPost_ret (ret_row (set36 _ _ _ _ _ _ r1.out) rfl _ _ rfl Tryz.underlying36 rfl i36) rfl (HFIN.out _ rfl)
      · have q1 : ¬ (i : Int) < (m : Int) := by omega
        go_wp2_with fail
        refine bodyPost_ret (ret_row (set36 _ _ _ _ _ _ r1.out) rfl _ _ rfl Tryz.underlying36 rfl i36) rfl (HFIN.out _ rfl)
end Go.Proofs.YtpfihjkhgfoijaaGreatDoor

/- Contract of spec.Clean on integers; Contract of spec.Clean on every value. -/
import Derived.Test.YtpfihjkhgfoijaaGreatDoorQ21
import Derived.Test.YtpfihjkhgfoijaaGreatDoorQ34
import Derived.Test.YtpfihjkhgfoijaaGreatDoorQ36
import Derived.Test.YtpfihjkhgfoijaaGreatDoorQ33
set_option linter.unusedVariables false
set_option linter.unusedSimpArgs false
set_option maxRecDepth 100000
namespace Go.Proofs.YtpfihjkhgfoijaaGreatDoor
open Go.RowKit

set_option maxHeartbeats 1000000 in
theorem c84n (A : Option Addr) (n c : Nat) (bs : List Nat) (w : World) (h : ByteA w A n c bs) (hn : n ≤ 5000) :
    Calls Tryz.prog 84 #[.slice A n c] w fun e w' => ∃ B m d, e = .returned (.slice B m d) ∧ Sits w.heap.size (fun W => ByteR W B m d (cutL bs)) w' ∧ (B = none → m = 0 ∧ d = 0) ∧ Below w.heap.size w w' := by
  have hl := Lib.hid h.len
  have hle := h.le
  have hr := Lib.hid h.rng
  have hcs := Lib.hid h.cells
  clear h
  go_enter Tryz.func84, Tryz.ntmps84
  go_wp2_with fail
  go_loop [3] (fun vi => ∃ i : Nat, i ≤ n ∧ vi = .int .i64 (i : Int) ∧ Hid ((bs.drop i).dropWhile (· == 0) = cutL bs)) (fun vi => n - (intOf vi).toNat)
  case atStart => exact ⟨0, by omega, rfl, rfl⟩
  case round =>
    obtain ⟨i, hi, rfl, hcut⟩ := hrel
    by_cases hlt : i < n
    · obtain ⟨a, rfl, hc⟩ := hcs.out.resolve_left (by rintro ⟨_, h, _⟩; omega)
      have hci := hc i hlt
      have HC := Lib.hid hc
      clear hc
      have q1 : (i : Int) < (n : Int) := by omega
      by_cases hz : bs.getD i 0 = 0
      · have hst := Lib.hid (cut_step (by rw [hl.out]; exact hlt) hz)
        rw [hz] at hci
        clear hz
        go_wp2_with fail
        go_round
        case rel => exact ⟨i + 1, by omega, by go_num, by show _ = _; rw [← hst.out, hcut.out]⟩
        case measure => simp [intOf]; omega
      · have hst := Lib.hid (cut_stop (by rw [hl.out]; exact hlt) hz)
        have q4 : (((bs.getD i 0 : Nat) : Int) == 0) = false := by rw [beq_eq_false_iff_ne]; omega
        generalize hx : bs.getD i 0 = X at *
        clear hx
        have hdl : (bs.drop i).length = n - i := by rw [List.length_drop, hl.out]
        have hb1 : Below w.heap.size w (w.alloc (.cells #[] 5)) := below_alloc' (Below.refl _ _) _
        obtain ⟨v', w', hrun, hown, hgr, hob⟩ := app5 (World.ownsRow_made (base := w.heap.size) (e := 5) (size := 1) w #[] 0 (Nat.le_refl _) (by simp [maxLen]) rfl) (a.add i) (n - i) (c - i) (bs.drop i) hdl
          (fun j hj => by rw [add_add', List.getD_eq_getElem?_getD, List.getElem?_drop, ← List.getD_eq_getElem?_getD]; exact below_cell hb1 (HC.out _ (by omega))) (by omega) (by rw [alloc_size]; omega) 32
        rw [List.nil_append, Nat.zero_add] at hown
        have hnil : ∀ B d, v' = .slice B (n - i) d → B = none → n - i = 0 ∧ d = 0 := fun B d e eB => by
          rcases hown.2 with ⟨e1, e2⟩ | ⟨g, cap, cur, e1, _⟩
          · rw [e1] at e; injection e with e3 e4 e5; exact ⟨e4.symm, e5.symm⟩
          · rw [e1] at e; cases e; cases eB
        obtain ⟨B, d, rfl, hS⟩ := own_bytes hown (fun b hb => hr.out b (List.mem_of_mem_drop hb))
        have hB : Below w.heap.size w w' := below_grown' hb1 (g := w.heap.size) hgr (Nat.le_refl _)
        have he : bs.drop i = cutL bs := by rw [← hcut.out, hst.out]
        rw [he] at hS
        have HS := Lib.hid hS
        have HR := Lib.hid hrun
        have HNIL := Lib.hid (hnil B d rfl)
        clear hnil
        clear hrun hown he hdl hst
        go_wp2_with (at_builtin; refine wpl_append rfl (.tmp 17) (.tmp 20) 32 rfl _ _ _ _ rfl rfl HR.out ?_)
        go_ret
        exact ⟨_, _, _, rfl, HS.out, HNIL.out, hB⟩
    · have e : i = n := by omega
      subst e
      have hnil : cutL bs = [] := by rw [← hcut.out, List.drop_of_length_le (by rw [hl.out]; exact Nat.le_refl _)]; rfl
      have HN := Lib.hid hnil
      clear hnil
      have hb1 : Below w.heap.size w (w.alloc (.cells #[] 5)) := below_alloc' (Below.refl _ _) _
      have q1 : (i : Int) ≤ (c : Int) := by omega
      cases A with
      | none =>
        obtain ⟨hn0, hc0⟩ : i = 0 ∧ c = 0 := by
          rcases hcs.out with ⟨_, h⟩ | ⟨a, h, _⟩
          · exact h
          · cases h
        subst hn0
        subst hc0
        go_wp2_with fail
        go_ret
        exact ⟨_, _, _, rfl, fun W _ _ => by rw [HN.out]; exact ⟨rfl, Nat.le_refl _, by simp, .inl rfl⟩, (fun e => by first | cases e | exact ⟨rfl, rfl⟩), hb1⟩
      | some a =>
        go_wp2_with fail
        all_goals
          go_ret
          exact ⟨_, _, _, rfl, fun W _ _ => by rw [HN.out]; exact ⟨rfl, Nat.le_refl _, by simp, .inl rfl⟩, (fun e => by first | cases e | exact ⟨rfl, rfl⟩), hb1⟩
set_option maxHeartbeats 1000000 in
theorem c39n (neg : Bool) (A : Option Addr) (n c : Nat) (bs : List Nat) (w : World) (h : ByteA w A n c bs) (hn : n ≤ 5000) :
    Calls Tryz.prog 39 #[.bool neg, .slice A n c] w fun e w' => ∃ B m d, e = .returned (.agg #[.bool (neg && decide (0 < (cutL bs).length)), .slice B m d]) ∧ Sits w.heap.size (fun W => ByteR W B m d (cutL bs)) w' ∧ (B = none → m = 0 ∧ d = 0) ∧ Below w.heap.size w w' := by
  have b1 : Below w.heap.size w (w.alloc (.cells #[.bool false, .slice none 0 0] 92)) := below_alloc' (Below.refl _ _) _
  have r1 := RowB.new w #[.bool false, .slice none 0 0] 92
  have H := Lib.hid (c84n A n c bs _ (h.below b1) hn)
  have hsz := alloc_size w (.cells #[.bool false, .slice none 0 0] 92)
  clear h
  go_enter Tryz.func39, Tryz.ntmps39
  go_wp2_with fail
  refine H.out.mono ?_
  rintro e w2 ⟨B, m, d, rfl, hS, hBn, hB⟩
  have b2 := below_trans' b1 hB
  have r2 := r1.below hB
  have hl : (cutL bs).length = m := hS.out.len
  have HL := Lib.hid hl
  have HS := Lib.hid hS
  have HBN := Lib.hid hBn
  clear hl H hS hBn
  have hm : ((m : Int) > 0) = (0 < m) := by simp
  have key : ∀ b : Bool, b = (neg && decide (0 < (cutL bs).length)) → ∀ W, W = (w2.setCell ⟨w.heap.size, 0, none⟩ (.bool b)).setCell ⟨w.heap.size, 1, none⟩ (.slice B m d) → RowB W w.heap.size #[.bool b, .slice B m d] 92 ∧ Sits w.heap.size (fun W => ByteR W B m d (cutL bs)) W ∧ Below w.heap.size w W := by
    rintro b rfl W rfl
    exact ⟨set2 _ _ r2, (HS.out.grown (set2_grown _ _ _ _) (by omega)).mono (by omega), below_grown' b2 (set2_grown _ _ _ _) (Nat.le_refl _)⟩
  cases neg
  · obtain ⟨f0, k0, f1, k1⟩ := facts2 (.bool false) r2
    go_wp2_with fail
    obtain ⟨h1, h2, h3⟩ := key false rfl _ rfl
    refine bodyPost_ret (ret_row h1 rfl _ _ rfl Tryz.underlying92 rfl i92) rfl ?_
    exact ⟨_, _, _, rfl, h2, (by first | exact HBN.out | simpa using HBN.out), h3⟩
  · by_cases h0 : 0 < m
    · obtain ⟨f0, k0, f1, k1⟩ := facts2 (.bool true) r2
      go_wp2_with fail
      obtain ⟨h1, h2, h3⟩ := key true (by rw [HL.out]; simp [h0]) _ rfl
      refine bodyPost_ret (ret_row h1 rfl _ _ rfl Tryz.underlying92 rfl i92) rfl ?_
      exact ⟨_, _, _, by rw [HL.out]; simp [h0], h2, (by first | exact HBN.out | simpa using HBN.out), h3⟩
    · obtain ⟨f0, k0, f1, k1⟩ := facts2 (.bool false) r2
      obtain rfl : m = 0 := by omega
      go_wp2_with fail
      obtain ⟨h1, h2, h3⟩ := key false (by rw [HL.out]; simp [h0]) _ rfl
      refine bodyPost_ret (ret_row h1 rfl _ _ rfl Tryz.underlying92 rfl i92) rfl ?_
      exact ⟨_, _, _, by rw [HL.out]; simp [h0], h2, (by first | exact HBN.out | simpa using HBN.out), h3⟩
theorem ByteA.take {w : World} {A : Option Addr} {n c x : Nat} {bs : List Nat} (h : ByteA w A n c bs) (hx : x ≤ n) : ByteA w A x c (bs.take x) := by
  have hl := h.len
  refine ⟨by rw [List.length_take]; omega, Nat.le_trans hx h.le, fun b hb => h.rng b (List.mem_of_mem_take hb), ?_⟩
  rcases h.cells with ⟨e, h1, h2⟩ | ⟨a, e, h1⟩
  · exact .inl ⟨e, by omega, h2⟩
  · refine .inr ⟨a, e, fun i hi => ?_⟩
    rw [List.getD_eq_getElem?_getD, List.getElem?_take, if_pos hi, ← List.getD_eq_getElem?_getD]
    exact h1 i (by omega)
theorem VC.int {n : Nat} {w : World} {N : Nat} (ng : Bool) (B : Option Addr) (q f : Nat) (bs : List Nat) (h : ByteS (blks N w.heap.size) w B q f bs) (hB : B = none → q = 0 ∧ f = 0) : VC n (blks N w.heap.size) w ⟨2, ng, bs, 0, ⟨#[]⟩, []⟩ #[.int .i64 2, .bool ng, .slice B q f, .int .u64 0, .string ⟨#[]⟩, .slice none 0 0] :=
  VC.ofHead ⟨B, q, f, none, 0, 0, rfl, h, hB, Nat.le_refl _, rfl, .inl rfl⟩
set_option maxHeartbeats 8000000 in
theorem clean2Az (n : Nat) (w : World) (k : Int) (ng : Bool)  (u : Nat) (t : ByteArray) (K : Option Addr) (m d : Nat) (bs : List Nat) (hA : ByteA w none 0 0 bs)  (hq : (k.tmod 10 + 10) % 10 = 2) (D : Int) (hn : D ≤ 0) : Calls Tryz.prog 17 #[.agg #[.int .i64 k, .bool ng, .slice none 0 0, .int .u64 ((u : Nat) : Int), .string t, .slice K m d], .int .i64 D] w (PostT n w) := by
  obtain ⟨w1, hw1, b1, r0, r1, hsz⟩ := two36 w #[.int .i64 k, .bool ng, .slice none 0 0, .int .u64 ((u : Nat) : Int), .string t, .slice K m d] zero36
  unfold zero36 at hw1 r1
  have R0 := Lib.hid r0
  have R1 := Lib.hid r1
  have HSZ := Lib.hid hsz
  have e0 := r0.cell 0 _ rfl
  have e1 : w1.drew.cell? ⟨w.heap.size, 1, none⟩ = some (.bool ng) := r0.cell 1 _ rfl
  have e2 : w1.drew.cell? ⟨w.heap.size, 2, none⟩ = some (.slice none 0 0) := r0.cell 2 _ rfl
  have s1 := e1
  have s2 := e2
  obtain ⟨hr1, hr2⟩ := kd_rng k
  clear hsz r0 r1
  have H39 : Hid (∀ W, Below w.heap.size w W → _) := fun W hW => c39n ng none 0 0 bs W (hA.below hW) (by omega)
  have hcl : bs.length ≤ 40 := by rw [hA.len]; omega
  generalize bs = bx at *
  have hm0 : min (0 : Int) 40 = 0 := by decide
  have HCL := Lib.hid hcl
  clear hA hcl
  go_enter Tryz.func17, Tryz.ntmps17
  go_wp2_with fail
  clear hw1
  go_region_held3 (fun W => W.cell? ⟨w.heap.size, 1, none⟩ = some (.bool ng) ∧ W.cell? ⟨w.heap.size, 2, none⟩ = some (.slice none 0 0)) (first | with_reducible exact ⟨e1, e2⟩ | with_reducible exact ⟨s1, s2⟩)
   (first
    | (go_at_call 39; refine (H39.out _ (below_trans' b1 (below_drew1 _))).mono ?_; rintro e w2 ⟨B, m1, d1, rfl, hS, hBn, hB2⟩
       have bb := below_trans' (below_trans' b1 (below_drew1 _)) hB2
       have r2 := Lib.hid ((RowB.drew R1.out).below hB2)
       have e1 := below_cell (w := World.drew _) hB2 e1; have e2 := below_cell (w := World.drew _) hB2 e2
       have HS := Lib.hid hS; have HBN := Lib.hid hBn; clear hS hBn)
    | (go_at_call 38; refine (c38n _ B m1 d1 (cutL bx) _ HS.out.out HBN.out (by have := HS.out.out.len; have := cutL_len bx; have := HCL.out; omega)).mono ?_; rintro e w3 ⟨D1, q1, f1', rfl, hS3, hBn3, hB3⟩
       have r3 := Lib.hid (r2.out.below hB3)
       have e1 := below_cell hB3 e1; have e2 := below_cell hB3 e2
       have HS3 := Lib.hid hS3; have HBN3 := Lib.hid hBn3; clear hS3 hBn3
       obtain ⟨n5, hn5⟩ : ∃ n5, n5 = (ng && decide (0 < (cutL bx).length)) := ⟨_, rfl⟩
       rw [← hn5]
       have HN5 := Lib.hid hn5; clear hn5
       obtain ⟨f0, g0, f1, g1, f2, g2, f3, g3, f4, g4, f5, g5⟩ := facts36 r3.out (.int .i64 2) (.bool n5) (.slice D1 q1 f1') (.int .u64 0) (.string ⟨#[]⟩)
       have s1 := grown_cell (set36_grown w3 (w.heap.size + 1) (.int .i64 2) (.bool n5) (.slice D1 q1 f1') (.int .u64 0) (.string ⟨#[]⟩) (.slice none 0 0)) e1 (by show w.heap.size + 1 ≠ w.heap.size; omega)
       have s2 := grown_cell (set36_grown w3 (w.heap.size + 1) (.int .i64 2) (.bool n5) (.slice D1 q1 f1') (.int .u64 0) (.string ⟨#[]⟩) (.slice none 0 0)) e2 (by show w.heap.size + 1 ≠ w.heap.size; omega)
       unfold set36W at s1 s2))
  all_goals
    have b3 := below_trans' bb hB3
    go_wp2_with fail
    refine bodyPost_ret (ret_row (set36 _ _ _ _ _ _ r3.out) rfl _ _ rfl Tryz.underlying36 rfl i36) rfl ?_
    have hg := set36_grown w3 (w.heap.size + 1) (.int .i64 2) (.bool n5) (.slice D1 q1 f1') (.int .u64 0) (.string ⟨#[]⟩) (.slice none 0 0)
    have hl2 := bb.size
    have hl3 := r2.out.lt
    have hSit := (HS3.out.grown hg (by omega)).mono (show w.heap.size ≤ _ by omega)
    refine ⟨⟨2, n5, cutL bx, 0, ⟨#[]⟩, []⟩, _, rfl, ?_, KK.low rfl (show (2 : Int) < 6 by decide), VC.int n5 D1 q1 f1' (cutL bx) (ByteR.bound hSit) HBN3.out, below_grown' b3 hg (by omega)⟩
    unfold VT.ok
    refine ⟨fun b hb => HS3.out.out.rng b hb, by simp, .inr (.inr (.inl ⟨rfl, cutL_cut _, Nat.le_trans (cutL_len _) HCL.out, fun h e => ?_, rfl, rfl, rfl⟩))⟩
    have h' : n5 = true := h
    have e' : cutL bx = [] := e
    rw [HN5.out, e'] at h'
    simp at h'
set_option maxHeartbeats 8000000 in
theorem clean2A (n : Nat) (w : World) (k : Int) (ng : Bool) (A : Addr) (a c : Nat) (u : Nat) (t : ByteArray) (K : Option Addr) (m d : Nat) (bs : List Nat) (hA : ByteA w (some A) a c bs) (hc : c ≤ 140737488355328) (hq : (k.tmod 10 + 10) % 10 = 2) (D : Int) (hn : D ≤ 0) : Calls Tryz.prog 17 #[.agg #[.int .i64 k, .bool ng, .slice (some A) a c, .int .u64 ((u : Nat) : Int), .string t, .slice K m d], .int .i64 D] w (PostT n w) := by
  obtain ⟨w1, hw1, b1, r0, r1, hsz⟩ := two36 w #[.int .i64 k, .bool ng, .slice (some A) a c, .int .u64 ((u : Nat) : Int), .string t, .slice K m d] zero36
  unfold zero36 at hw1 r1
  have R0 := Lib.hid r0
  have R1 := Lib.hid r1
  have HSZ := Lib.hid hsz
  have e0 := r0.cell 0 _ rfl
  have e1 : w1.drew.cell? ⟨w.heap.size, 1, none⟩ = some (.bool ng) := r0.cell 1 _ rfl
  have e2 : w1.drew.cell? ⟨w.heap.size, 2, none⟩ = some (.slice (some A) a c) := r0.cell 2 _ rfl
  have s1 := e1
  have s2 := e2
  obtain ⟨hr1, hr2⟩ := kd_rng k
  clear hsz r0 r1
  have hle := hA.le
  obtain ⟨x, hx⟩ : ∃ x, x = min a 40 := ⟨_, rfl⟩
  have hx1 : min (a : Int) 40 = (x : Int) := by omega
  have hx2 : (x : Int) ≤ (c : Int) := by omega
  have hx3 : x ≤ 40 := by omega
  have hx4 : x ≤ a := by omega
  clear hx
  have H39 : Hid (∀ W, Below w.heap.size w W → _) := fun W hW => c39n ng (some A) x c (bs.take x) W ((hA.below hW).take hx4) (by omega)
  have hcl : (bs.take x).length ≤ 40 := by rw [List.length_take]; omega
  generalize bs.take x = bx at *
  have HCL := Lib.hid hcl
  clear hA hcl
  go_enter Tryz.func17, Tryz.ntmps17
  go_wp2_with fail
  clear hw1
  go_region_held3 (fun W => W.cell? ⟨w.heap.size, 1, none⟩ = some (.bool ng) ∧ W.cell? ⟨w.heap.size, 2, none⟩ = some (.slice (some A) a c)) (first | with_reducible exact ⟨e1, e2⟩ | with_reducible exact ⟨s1, s2⟩)
   (first
    | (go_at_call 39; refine (H39.out _ (below_trans' b1 (below_drew1 _))).mono ?_; rintro e w2 ⟨B, m1, d1, rfl, hS, hBn, hB2⟩
       have bb := below_trans' (below_trans' b1 (below_drew1 _)) hB2
       have r2 := Lib.hid ((RowB.drew R1.out).below hB2)
       have e1 := below_cell (w := World.drew _) hB2 e1; have e2 := below_cell (w := World.drew _) hB2 e2
       have HS := Lib.hid hS; have HBN := Lib.hid hBn; clear hS hBn)
    | (go_at_call 38; refine (c38n _ B m1 d1 (cutL bx) _ HS.out.out HBN.out (by have := HS.out.out.len; have := cutL_len bx; have := HCL.out; omega)).mono ?_; rintro e w3 ⟨D1, q1, f1', rfl, hS3, hBn3, hB3⟩
       have r3 := Lib.hid (r2.out.below hB3)
       have e1 := below_cell hB3 e1; have e2 := below_cell hB3 e2
       have HS3 := Lib.hid hS3; have HBN3 := Lib.hid hBn3; clear hS3 hBn3
       obtain ⟨n5, hn5⟩ : ∃ n5, n5 = (ng && decide (0 < (cutL bx).length)) := ⟨_, rfl⟩
       rw [← hn5]
       have HN5 := Lib.hid hn5; clear hn5
       obtain ⟨f0, g0, f1, g1, f2, g2, f3, g3, f4, g4, f5, g5⟩ := facts36 r3.out (.int .i64 2) (.bool n5) (.slice D1 q1 f1') (.int .u64 0) (.string ⟨#[]⟩)
       have s1 := grown_cell (set36_grown w3 (w.heap.size + 1) (.int .i64 2) (.bool n5) (.slice D1 q1 f1') (.int .u64 0) (.string ⟨#[]⟩) (.slice none 0 0)) e1 (by show w.heap.size + 1 ≠ w.heap.size; omega)
       have s2 := grown_cell (set36_grown w3 (w.heap.size + 1) (.int .i64 2) (.bool n5) (.slice D1 q1 f1') (.int .u64 0) (.string ⟨#[]⟩) (.slice none 0 0)) e2 (by show w.heap.size + 1 ≠ w.heap.size; omega)
       unfold set36W at s1 s2))
  all_goals
    have b3 := below_trans' bb hB3
    go_wp2_with fail
    refine bodyPost_ret (ret_row (set36 _ _ _ _ _ _ r3.out) rfl _ _ rfl Tryz.underlying36 rfl i36) rfl ?_
    have hg := set36_grown w3 (w.heap.size + 1) (.int .i64 2) (.bool n5) (.slice D1 q1 f1') (.int .u64 0) (.string ⟨#[]⟩) (.slice none 0 0)
    have hl2 := bb.size
    have hl3 := r2.out.lt
    have hSit := (HS3.out.grown hg (by omega)).mono (show w.heap.size ≤ _ by omega)
    refine ⟨⟨2, n5, cutL bx, 0, ⟨#[]⟩, []⟩, _, rfl, ?_, KK.low rfl (show (2 : Int) < 6 by decide), VC.int n5 D1 q1 f1' (cutL bx) (ByteR.bound hSit) HBN3.out, below_grown' b3 hg (by omega)⟩
    unfold VT.ok
    refine ⟨fun b hb => HS3.out.out.rng b hb, by simp, .inr (.inr (.inl ⟨rfl, cutL_cut _, Nat.le_trans (cutL_len _) HCL.out, fun h e => ?_, rfl, rfl, rfl⟩))⟩
    have h' : n5 = true := h
    have e' : cutL bx = [] := e
    rw [HN5.out, e'] at h'
    simp at h'
set_option maxHeartbeats 8000000 in
theorem clean2Cz (n : Nat) (w : World) (k : Int) (ng : Bool)  (u : Nat) (t : ByteArray) (K : Option Addr) (m d : Nat) (bs : List Nat) (hA : ByteA w none 0 0 bs)  (hq : (k.tmod 10 + 10) % 10 = 2) (D : Int) (hn : 0 < D) : Calls Tryz.prog 17 #[.agg #[.int .i64 k, .bool ng, .slice none 0 0, .int .u64 ((u : Nat) : Int), .string t, .slice K m d], .int .i64 D] w (PostT n w) := by
  obtain ⟨w1, hw1, b1, r0, r1, hsz⟩ := two36 w #[.int .i64 k, .bool ng, .slice none 0 0, .int .u64 ((u : Nat) : Int), .string t, .slice K m d] zero36
  unfold zero36 at hw1 r1
  have R0 := Lib.hid r0
  have R1 := Lib.hid r1
  have HSZ := Lib.hid hsz
  have e0 := r0.cell 0 _ rfl
  have e1 : w1.drew.cell? ⟨w.heap.size, 1, none⟩ = some (.bool ng) := r0.cell 1 _ rfl
  have e2 : w1.drew.cell? ⟨w.heap.size, 2, none⟩ = some (.slice none 0 0) := r0.cell 2 _ rfl
  have s1 := e1
  have s2 := e2
  obtain ⟨hr1, hr2⟩ := kd_rng k
  clear hsz r0 r1
  have H39 : Hid (∀ W, Below w.heap.size w W → _) := fun W hW => c39n ng none 0 0 bs W (hA.below hW) (by omega)
  have hcl : bs.length ≤ 40 := by rw [hA.len]; omega
  generalize bs = bx at *
  have hm0 : min (0 : Int) 40 = 0 := by decide
  have HCL := Lib.hid hcl
  clear hA hcl
  go_enter Tryz.func17, Tryz.ntmps17
  go_wp2_with fail
  clear hw1
  go_region_held3 (fun W => W.cell? ⟨w.heap.size, 1, none⟩ = some (.bool ng) ∧ W.cell? ⟨w.heap.size, 2, none⟩ = some (.slice none 0 0)) (first | with_reducible exact ⟨e1, e2⟩ | with_reducible exact ⟨s1, s2⟩)
   (first
    | (go_at_call 39; refine (H39.out _ (below_trans' b1 (below_drew1 _))).mono ?_; rintro e w2 ⟨B, m1, d1, rfl, hS, hBn, hB2⟩
       have bb := below_trans' (below_trans' b1 (below_drew1 _)) hB2
       have r2 := Lib.hid ((RowB.drew R1.out).below hB2)
       have e1 := below_cell (w := World.drew _) hB2 e1; have e2 := below_cell (w := World.drew _) hB2 e2
       have HS := Lib.hid hS; have HBN := Lib.hid hBn; clear hS hBn)
    | (go_at_call 38; refine (c38n _ B m1 d1 (cutL bx) _ HS.out.out HBN.out (by have := HS.out.out.len; have := cutL_len bx; have := HCL.out; omega)).mono ?_; rintro e w3 ⟨D1, q1, f1', rfl, hS3, hBn3, hB3⟩
       have r3 := Lib.hid (r2.out.below hB3)
       have e1 := below_cell hB3 e1; have e2 := below_cell hB3 e2
       have HS3 := Lib.hid hS3; have HBN3 := Lib.hid hBn3; clear hS3 hBn3
       obtain ⟨n5, hn5⟩ : ∃ n5, n5 = (ng && decide (0 < (cutL bx).length)) := ⟨_, rfl⟩
       rw [← hn5]
       have HN5 := Lib.hid hn5; clear hn5
       obtain ⟨f0, g0, f1, g1, f2, g2, f3, g3, f4, g4, f5, g5⟩ := facts36 r3.out (.int .i64 2) (.bool n5) (.slice D1 q1 f1') (.int .u64 0) (.string ⟨#[]⟩)
       have s1 := grown_cell (set36_grown w3 (w.heap.size + 1) (.int .i64 2) (.bool n5) (.slice D1 q1 f1') (.int .u64 0) (.string ⟨#[]⟩) (.slice none 0 0)) e1 (by show w.heap.size + 1 ≠ w.heap.size; omega)
       have s2 := grown_cell (set36_grown w3 (w.heap.size + 1) (.int .i64 2) (.bool n5) (.slice D1 q1 f1') (.int .u64 0) (.string ⟨#[]⟩) (.slice none 0 0)) e2 (by show w.heap.size + 1 ≠ w.heap.size; omega)
       unfold set36W at s1 s2))
  all_goals
    have b3 := below_trans' bb hB3
    go_wp2_with fail
    refine bodyPost_ret (ret_row (set36 _ _ _ _ _ _ r3.out) rfl _ _ rfl Tryz.underlying36 rfl i36) rfl ?_
    have hg := set36_grown w3 (w.heap.size + 1) (.int .i64 2) (.bool n5) (.slice D1 q1 f1') (.int .u64 0) (.string ⟨#[]⟩) (.slice none 0 0)
    have hl2 := bb.size
    have hl3 := r2.out.lt
    have hSit := (HS3.out.grown hg (by omega)).mono (show w.heap.size ≤ _ by omega)
    refine ⟨⟨2, n5, cutL bx, 0, ⟨#[]⟩, []⟩, _, rfl, ?_, KK.low rfl (show (2 : Int) < 6 by decide), VC.int n5 D1 q1 f1' (cutL bx) (ByteR.bound hSit) HBN3.out, below_grown' b3 hg (by omega)⟩
    unfold VT.ok
    refine ⟨fun b hb => HS3.out.out.rng b hb, by simp, .inr (.inr (.inl ⟨rfl, cutL_cut _, Nat.le_trans (cutL_len _) HCL.out, fun h e => ?_, rfl, rfl, rfl⟩))⟩
    have h' : n5 = true := h
    have e' : cutL bx = [] := e
    rw [HN5.out, e'] at h'
    simp at h'
set_option maxHeartbeats 8000000 in
theorem clean2C (n : Nat) (w : World) (k : Int) (ng : Bool) (A : Addr) (a c : Nat) (u : Nat) (t : ByteArray) (K : Option Addr) (m d : Nat) (bs : List Nat) (hA : ByteA w (some A) a c bs) (hc : c ≤ 140737488355328) (hq : (k.tmod 10 + 10) % 10 = 2) (D : Int) (hn : 0 < D) : Calls Tryz.prog 17 #[.agg #[.int .i64 k, .bool ng, .slice (some A) a c, .int .u64 ((u : Nat) : Int), .string t, .slice K m d], .int .i64 D] w (PostT n w) := by
  obtain ⟨w1, hw1, b1, r0, r1, hsz⟩ := two36 w #[.int .i64 k, .bool ng, .slice (some A) a c, .int .u64 ((u : Nat) : Int), .string t, .slice K m d] zero36
  unfold zero36 at hw1 r1
  have R0 := Lib.hid r0
  have R1 := Lib.hid r1
  have HSZ := Lib.hid hsz
  have e0 := r0.cell 0 _ rfl
  have e1 : w1.drew.cell? ⟨w.heap.size, 1, none⟩ = some (.bool ng) := r0.cell 1 _ rfl
  have e2 : w1.drew.cell? ⟨w.heap.size, 2, none⟩ = some (.slice (some A) a c) := r0.cell 2 _ rfl
  have s1 := e1
  have s2 := e2
  obtain ⟨hr1, hr2⟩ := kd_rng k
  clear hsz r0 r1
  have hle := hA.le
  obtain ⟨x, hx⟩ : ∃ x, x = min a 40 := ⟨_, rfl⟩
  have hx1 : min (a : Int) 40 = (x : Int) := by omega
  have hx2 : (x : Int) ≤ (c : Int) := by omega
  have hx3 : x ≤ 40 := by omega
  have hx4 : x ≤ a := by omega
  clear hx
  have H39 : Hid (∀ W, Below w.heap.size w W → _) := fun W hW => c39n ng (some A) x c (bs.take x) W ((hA.below hW).take hx4) (by omega)
  have hcl : (bs.take x).length ≤ 40 := by rw [List.length_take]; omega
  generalize bs.take x = bx at *
  have HCL := Lib.hid hcl
  clear hA hcl
  go_enter Tryz.func17, Tryz.ntmps17
  go_wp2_with fail
  clear hw1
  go_region_held3 (fun W => W.cell? ⟨w.heap.size, 1, none⟩ = some (.bool ng) ∧ W.cell? ⟨w.heap.size, 2, none⟩ = some (.slice (some A) a c)) (first | with_reducible exact ⟨e1, e2⟩ | with_reducible exact ⟨s1, s2⟩)
   (first
    | (go_at_call 39; refine (H39.out _ (below_trans' b1 (below_drew1 _))).mono ?_; rintro e w2 ⟨B, m1, d1, rfl, hS, hBn, hB2⟩
       have bb := below_trans' (below_trans' b1 (below_drew1 _)) hB2
       have r2 := Lib.hid ((RowB.drew R1.out).below hB2)
       have e1 := below_cell (w := World.drew _) hB2 e1; have e2 := below_cell (w := World.drew _) hB2 e2
       have HS := Lib.hid hS; have HBN := Lib.hid hBn; clear hS hBn)
    | (go_at_call 38; refine (c38n _ B m1 d1 (cutL bx) _ HS.out.out HBN.out (by have := HS.out.out.len; have := cutL_len bx; have := HCL.out; omega)).mono ?_; rintro e w3 ⟨D1, q1, f1', rfl, hS3, hBn3, hB3⟩
       have r3 := Lib.hid (r2.out.below hB3)
       have e1 := below_cell hB3 e1; have e2 := below_cell hB3 e2
       have HS3 := Lib.hid hS3; have HBN3 := Lib.hid hBn3; clear hS3 hBn3
       obtain ⟨n5, hn5⟩ : ∃ n5, n5 = (ng && decide (0 < (cutL bx).length)) := ⟨_, rfl⟩
       rw [← hn5]
       have HN5 := Lib.hid hn5; clear hn5
       obtain ⟨f0, g0, f1, g1, f2, g2, f3, g3, f4, g4, f5, g5⟩ := facts36 r3.out (.int .i64 2) (.bool n5) (.slice D1 q1 f1') (.int .u64 0) (.string ⟨#[]⟩)
       have s1 := grown_cell (set36_grown w3 (w.heap.size + 1) (.int .i64 2) (.bool n5) (.slice D1 q1 f1') (.int .u64 0) (.string ⟨#[]⟩) (.slice none 0 0)) e1 (by show w.heap.size + 1 ≠ w.heap.size; omega)
       have s2 := grown_cell (set36_grown w3 (w.heap.size + 1) (.int .i64 2) (.bool n5) (.slice D1 q1 f1') (.int .u64 0) (.string ⟨#[]⟩) (.slice none 0 0)) e2 (by show w.heap.size + 1 ≠ w.heap.size; omega)
       unfold set36W at s1 s2))
  all_goals
    have b3 := below_trans' bb hB3
    go_wp2_with fail
    refine bodyPost_ret (ret_row (set36 _ _ _ _ _ _ r3.out) rfl _ _ rfl Tryz.underlying36 rfl i36) rfl ?_
    have hg := set36_grown w3 (w.heap.size + 1) (.int .i64 2) (.bool n5) (.slice D1 q1 f1') (.int .u64 0) (.string ⟨#[]⟩) (.slice none 0 0)
    have hl2 := bb.size
    have hl3 := r2.out.lt
    have hSit := (HS3.out.grown hg (by omega)).mono (show w.heap.size ≤ _ by omega)
    refine ⟨⟨2, n5, cutL bx, 0, ⟨#[]⟩, []⟩, _, rfl, ?_, KK.low rfl (show (2 : Int) < 6 by decide), VC.int n5 D1 q1 f1' (cutL bx) (ByteR.bound hSit) HBN3.out, below_grown' b3 hg (by omega)⟩
    unfold VT.ok
    refine ⟨fun b hb => HS3.out.out.rng b hb, by simp, .inr (.inr (.inl ⟨rfl, cutL_cut _, Nat.le_trans (cutL_len _) HCL.out, fun h e => ?_, rfl, rfl, rfl⟩))⟩
    have h' : n5 = true := h
    have e' : cutL bx = [] := e
    rw [HN5.out, e'] at h'
    simp at h'
set_option maxHeartbeats 8000000 in
theorem clean2Bz (n : Nat) (w : World) (k : Int) (ng : Bool)  (u : Nat) (t : ByteArray) (K : Option Addr) (m d : Nat) (bs : List Nat) (hA : ByteA w none 0 0 bs)  (hq : (k.tmod 10 + 10) % 10 = 8) (D : Int) (hn : D ≤ 0) : Calls Tryz.prog 17 #[.agg #[.int .i64 k, .bool ng, .slice none 0 0, .int .u64 ((u : Nat) : Int), .string t, .slice K m d], .int .i64 D] w (PostT n w) := by
  obtain ⟨w1, hw1, b1, r0, r1, hsz⟩ := two36 w #[.int .i64 k, .bool ng, .slice none 0 0, .int .u64 ((u : Nat) : Int), .string t, .slice K m d] zero36
  unfold zero36 at hw1 r1
  have R0 := Lib.hid r0
  have R1 := Lib.hid r1
  have HSZ := Lib.hid hsz
  have e0 := r0.cell 0 _ rfl
  have e1 : w1.drew.cell? ⟨w.heap.size, 1, none⟩ = some (.bool ng) := r0.cell 1 _ rfl
  have e2 : w1.drew.cell? ⟨w.heap.size, 2, none⟩ = some (.slice none 0 0) := r0.cell 2 _ rfl
  have s1 := e1
  have s2 := e2
  obtain ⟨hr1, hr2⟩ := kd_rng k
  clear hsz r0 r1
  have H39 : Hid (∀ W, Below w.heap.size w W → _) := fun W hW => c39n ng none 0 0 bs W (hA.below hW) (by omega)
  have hcl : bs.length ≤ 40 := by rw [hA.len]; omega
  generalize bs = bx at *
  have hm0 : min (0 : Int) 40 = 0 := by decide
  have HCL := Lib.hid hcl
  clear hA hcl
  go_enter Tryz.func17, Tryz.ntmps17
  go_wp2_with fail
  clear hw1
  go_region_held3 (fun W => W.cell? ⟨w.heap.size, 1, none⟩ = some (.bool ng) ∧ W.cell? ⟨w.heap.size, 2, none⟩ = some (.slice none 0 0)) (first | with_reducible exact ⟨e1, e2⟩ | with_reducible exact ⟨s1, s2⟩)
   (first
    | (go_at_call 39; refine (H39.out _ (below_trans' b1 (below_drew1 _))).mono ?_; rintro e w2 ⟨B, m1, d1, rfl, hS, hBn, hB2⟩
       have bb := below_trans' (below_trans' b1 (below_drew1 _)) hB2
       have r2 := Lib.hid ((RowB.drew R1.out).below hB2)
       have e1 := below_cell (w := World.drew _) hB2 e1; have e2 := below_cell (w := World.drew _) hB2 e2
       have HS := Lib.hid hS; have HBN := Lib.hid hBn; clear hS hBn)
    | (go_at_call 38; refine (c38n _ B m1 d1 (cutL bx) _ HS.out.out HBN.out (by have := HS.out.out.len; have := cutL_len bx; have := HCL.out; omega)).mono ?_; rintro e w3 ⟨D1, q1, f1', rfl, hS3, hBn3, hB3⟩
       have r3 := Lib.hid (r2.out.below hB3)
       have e1 := below_cell hB3 e1; have e2 := below_cell hB3 e2
       have HS3 := Lib.hid hS3; have HBN3 := Lib.hid hBn3; clear hS3 hBn3
       obtain ⟨n5, hn5⟩ : ∃ n5, n5 = (ng && decide (0 < (cutL bx).length)) := ⟨_, rfl⟩
       rw [← hn5]
       have HN5 := Lib.hid hn5; clear hn5
       obtain ⟨f0, g0, f1, g1, f2, g2, f3, g3, f4, g4, f5, g5⟩ := facts36 r3.out (.int .i64 2) (.bool n5) (.slice D1 q1 f1') (.int .u64 0) (.string ⟨#[]⟩)
       have s1 := grown_cell (set36_grown w3 (w.heap.size + 1) (.int .i64 2) (.bool n5) (.slice D1 q1 f1') (.int .u64 0) (.string ⟨#[]⟩) (.slice none 0 0)) e1 (by show w.heap.size + 1 ≠ w.heap.size; omega)
       have s2 := grown_cell (set36_grown w3 (w.heap.size + 1) (.int .i64 2) (.bool n5) (.slice D1 q1 f1') (.int .u64 0) (.string ⟨#[]⟩) (.slice none 0 0)) e2 (by show w.heap.size + 1 ≠ w.heap.size; omega)
       unfold set36W at s1 s2))
  all_goals
    have b3 := below_trans' bb hB3
    go_wp2_with fail
    refine bodyPost_ret (ret_row (set36 _ _ _ _ _ _ r3.out) rfl _ _ rfl Tryz.underlying36 rfl i36) rfl ?_
    have hg := set36_grown w3 (w.heap.size + 1) (.int .i64 2) (.bool n5) (.slice D1 q1 f1') (.int .u64 0) (.string ⟨#[]⟩) (.slice none 0 0)
    have hl2 := bb.size
    have hl3 := r2.out.lt
    have hSit := (HS3.out.grown hg (by omega)).mono (show w.heap.size ≤ _ by omega)
    refine ⟨⟨2, n5, cutL bx, 0, ⟨#[]⟩, []⟩, _, rfl, ?_, KK.low rfl (show (2 : Int) < 6 by decide), VC.int n5 D1 q1 f1' (cutL bx) (ByteR.bound hSit) HBN3.out, below_grown' b3 hg (by omega)⟩
    unfold VT.ok
    refine ⟨fun b hb => HS3.out.out.rng b hb, by simp, .inr (.inr (.inl ⟨rfl, cutL_cut _, Nat.le_trans (cutL_len _) HCL.out, fun h e => ?_, rfl, rfl, rfl⟩))⟩
    have h' : n5 = true := h
    have e' : cutL bx = [] := e
    rw [HN5.out, e'] at h'
    simp at h'
set_option maxHeartbeats 8000000 in
theorem clean2B (n : Nat) (w : World) (k : Int) (ng : Bool) (A : Addr) (a c : Nat) (u : Nat) (t : ByteArray) (K : Option Addr) (m d : Nat) (bs : List Nat) (hA : ByteA w (some A) a c bs) (hc : c ≤ 140737488355328) (hq : (k.tmod 10 + 10) % 10 = 8) (D : Int) (hn : D ≤ 0) : Calls Tryz.prog 17 #[.agg #[.int .i64 k, .bool ng, .slice (some A) a c, .int .u64 ((u : Nat) : Int), .string t, .slice K m d], .int .i64 D] w (PostT n w) := by
  obtain ⟨w1, hw1, b1, r0, r1, hsz⟩ := two36 w #[.int .i64 k, .bool ng, .slice (some A) a c, .int .u64 ((u : Nat) : Int), .string t, .slice K m d] zero36
  unfold zero36 at hw1 r1
  have R0 := Lib.hid r0
  have R1 := Lib.hid r1
  have HSZ := Lib.hid hsz
  have e0 := r0.cell 0 _ rfl
  have e1 : w1.drew.cell? ⟨w.heap.size, 1, none⟩ = some (.bool ng) := r0.cell 1 _ rfl
  have e2 : w1.drew.cell? ⟨w.heap.size, 2, none⟩ = some (.slice (some A) a c) := r0.cell 2 _ rfl
  have s1 := e1
  have s2 := e2
  obtain ⟨hr1, hr2⟩ := kd_rng k
  clear hsz r0 r1
  have hle := hA.le
  obtain ⟨x, hx⟩ : ∃ x, x = min a 40 := ⟨_, rfl⟩
  have hx1 : min (a : Int) 40 = (x : Int) := by omega
  have hx2 : (x : Int) ≤ (c : Int) := by omega
  have hx3 : x ≤ 40 := by omega
  have hx4 : x ≤ a := by omega
  clear hx
  have H39 : Hid (∀ W, Below w.heap.size w W → _) := fun W hW => c39n ng (some A) x c (bs.take x) W ((hA.below hW).take hx4) (by omega)
  have hcl : (bs.take x).length ≤ 40 := by rw [List.length_take]; omega
  generalize bs.take x = bx at *
  have HCL := Lib.hid hcl
  clear hA hcl
  go_enter Tryz.func17, Tryz.ntmps17
  go_wp2_with fail
  clear hw1
  go_region_held3 (fun W => W.cell? ⟨w.heap.size, 1, none⟩ = some (.bool ng) ∧ W.cell? ⟨w.heap.size, 2, none⟩ = some (.slice (some A) a c)) (first | with_reducible exact ⟨e1, e2⟩ | with_reducible exact ⟨s1, s2⟩)
   (first
    | (go_at_call 39; refine (H39.out _ (below_trans' b1 (below_drew1 _))).mono ?_; rintro e w2 ⟨B, m1, d1, rfl, hS, hBn, hB2⟩
       have bb := below_trans' (below_trans' b1 (below_drew1 _)) hB2
       have r2 := Lib.hid ((RowB.drew R1.out).below hB2)
       have e1 := below_cell (w := World.drew _) hB2 e1; have e2 := below_cell (w := World.drew _) hB2 e2
       have HS := Lib.hid hS; have HBN := Lib.hid hBn; clear hS hBn)
    | (go_at_call 38; refine (c38n _ B m1 d1 (cutL bx) _ HS.out.out HBN.out (by have := HS.out.out.len; have := cutL_len bx; have := HCL.out; omega)).mono ?_; rintro e w3 ⟨D1, q1, f1', rfl, hS3, hBn3, hB3⟩
       have r3 := Lib.hid (r2.out.below hB3)
       have e1 := below_cell hB3 e1; have e2 := below_cell hB3 e2
       have HS3 := Lib.hid hS3; have HBN3 := Lib.hid hBn3; clear hS3 hBn3
       obtain ⟨n5, hn5⟩ : ∃ n5, n5 = (ng && decide (0 < (cutL bx).length)) := ⟨_, rfl⟩
       rw [← hn5]
       have HN5 := Lib.hid hn5; clear hn5
       obtain ⟨f0, g0, f1, g1, f2, g2, f3, g3, f4, g4, f5, g5⟩ := facts36 r3.out (.int .i64 2) (.bool n5) (.slice D1 q1 f1') (.int .u64 0) (.string ⟨#[]⟩)
       have s1 := grown_cell (set36_grown w3 (w.heap.size + 1) (.int .i64 2) (.bool n5) (.slice D1 q1 f1') (.int .u64 0) (.string ⟨#[]⟩) (.slice none 0 0)) e1 (by show w.heap.size + 1 ≠ w.heap.size; omega)
       have s2 := grown_cell (set36_grown w3 (w.heap.size + 1) (.int .i64 2) (.bool n5) (.slice D1 q1 f1') (.int .u64 0) (.string ⟨#[]⟩) (.slice none 0 0)) e2 (by show w.heap.size + 1 ≠ w.heap.size; omega)
       unfold set36W at s1 s2))
  all_goals
    have b3 := below_trans' bb hB3
    go_wp2_with fail
    refine bodyPost_ret (ret_row (set36 _ _ _ _ _ _ r3.out) rfl _ _ rfl Tryz.underlying36 rfl i36) rfl ?_
    have hg := set36_grown w3 (w.heap.size + 1) (.int .i64 2) (.bool n5) (.slice D1 q1 f1') (.int .u64 0) (.string ⟨#[]⟩) (.slice none 0 0)
    have hl2 := bb.size
    have hl3 := r2.out.lt
    have hSit := (HS3.out.grown hg (by omega)).mono (show w.heap.size ≤ _ by omega)
    refine ⟨⟨2, n5, cutL bx, 0, ⟨#[]⟩, []⟩, _, rfl, ?_, KK.low rfl (show (2 : Int) < 6 by decide), VC.int n5 D1 q1 f1' (cutL bx) (ByteR.bound hSit) HBN3.out, below_grown' b3 hg (by omega)⟩
    unfold VT.ok
    refine ⟨fun b hb => HS3.out.out.rng b hb, by simp, .inr (.inr (.inl ⟨rfl, cutL_cut _, Nat.le_trans (cutL_len _) HCL.out, fun h e => ?_, rfl, rfl, rfl⟩))⟩
    have h' : n5 = true := h
    have e' : cutL bx = [] := e
    rw [HN5.out, e'] at h'
    simp at h'
end Go.Proofs.YtpfihjkhgfoijaaGreatDoor
namespace Go.Proofs.YtpfihjkhgfoijaaGreatDoor
open Go.RowKit

theorem IVk.below {n : Nat} {w w' : World} {K : Option Addr} {m : Nat} (h : m = 0 ∨ ∃ x : Addr, K = some x ∧ ∀ i, i < m → ∃ cs' : Array Value, (∀ j, j < 6 → w.cell? (x.add (i * 6 + j)) = cs'[j]?) ∧ IV n w cs') (hb : Below w.heap.size w w') :
    m = 0 ∨ ∃ x : Addr, K = some x ∧ ∀ i, i < m → ∃ cs' : Array Value, (∀ j, j < 6 → w'.cell? (x.add (i * 6 + j)) = cs'[j]?) ∧ IV n w' cs' := by
  rcases h with h7 | ⟨x, ex, h7⟩
  · exact .inl h7
  · refine .inr ⟨x, ex, fun i hi => ?_⟩
    obtain ⟨cs', hc, hI⟩ := h7 i hi
    have h6 : cs'.size = 6 := by
      cases n <;> (obtain ⟨k, ng, A, a, c, u, t, K, m, d, bs, e, _⟩ := hI; subst e; rfl)
    refine ⟨cs', fun j hj => ?_, hI.below hb⟩
    have := hc j hj
    rw [Array.getElem?_eq_getElem (by omega)] at this ⊢
    exact below_cell hb this
set_option maxHeartbeats 4000000 in
theorem clean8 (n : Nat) (hn : n ≤ 100) (ih : CleanC n) (w : World) (k : Int) (ng : Bool) (A : Option Addr) (a c u : Nat) (t : ByteArray) (K : Option Addr) (m d : Nat) (hd1 : m ≤ d) (hd2 : d ≤ 140737488355328) (hk : m = 0 ∨ ∃ x : Addr, K = some x ∧ ∀ i, i < m → ∃ cs' : Array Value, (∀ j, j < 6 → w.cell? (x.add (i * 6 + j)) = cs'[j]?) ∧ IV n w cs') (hq : (k.tmod 10 + 10) % 10 = 8) :
    Calls Tryz.prog 17 #[.agg #[.int .i64 k, .bool ng, .slice A a c, .int .u64 ((u : Nat) : Int), .string t, .slice K m d], .int .i64 ((n + 1 : Nat) : Int)] w (PostT (n + 1) w) := by
  obtain ⟨w1, hw1, b1, r0, r1, hsz⟩ := two36 w #[.int .i64 k, .bool ng, .slice A a c, .int .u64 ((u : Nat) : Int), .string t, .slice K m d] zero36
  unfold zero36 at hw1 r1
  have H := Lib.hid (c40 n hn ih w1 k ng A a c u t K m d hd1 hd2 (IVk.below hk b1))
  have R1 := Lib.hid r1
  have HSZ := Lib.hid hsz
  have e0 := r0.cell 0 _ rfl
  have e1 := r0.cell 1 _ rfl
  have e2 := r0.cell 2 _ rfl
  have e3 := r0.cell 3 _ rfl
  have e4 := r0.cell 4 _ rfl
  have e5 := r0.cell 5 _ rfl
  have B1 := Lib.hid b1
  obtain ⟨hr1, hr2⟩ := kd_rng k
  obtain ⟨D, hD⟩ : ∃ D : Int, ((n + 1 : Nat) : Int) = D := ⟨_, rfl⟩
  have hDp : 0 < D := by omega
  rw [hD] at H ⊢
  clear hsz r1 b1 hk hD ih
  go_enter Tryz.func17, Tryz.ntmps17
  go_wp2_with fail
  clear hw1
  refine H.out.mono ?_
  rintro e w2 ⟨t1, cs1, rfl, hok1, hkk1, hV1, hB2⟩
  obtain ⟨A3, a3, c3, K3, m3, d3, rfl, _⟩ := VC.head (n := n + 1) hV1
  have l1 := HSZ.out
  have l2 := hB2.size
  have r2 := Lib.hid (R1.out.below hB2)
  obtain ⟨f0, g0, f1, g1, f2, g2, f3, g3, f4, g4, f5, g5⟩ := facts36 r2.out (.int .i64 t1.kind) (.bool t1.neg) (.slice A3 a3 c3) (.int .u64 (t1.bits : Int)) (.string t1.text)
  have HV1 := Lib.hid hV1
  have HO1 := Lib.hid hok1
  have HK1 := Lib.hid hkk1
  have b2 := Lib.hid (below_trans' B1.out hB2)
  clear hV1 hok1 hkk1 e0 e1 e2 e3 e4 e5
  go_wp2_with fail
  refine bodyPost_ret (ret_row (set36 _ _ _ _ _ _ r2.out) rfl _ _ rfl Tryz.underlying36 rfl i36) rfl ?_
  have hgr := set36_grown w2 (w.heap.size + 1) (.int .i64 t1.kind) (.bool t1.neg) (.slice A3 a3 c3) (.int .u64 (t1.bits : Int)) (.string t1.text) (.slice K3 m3 d3)
  exact ⟨t1, _, rfl, HO1.out, HK1.out, (HV1.out.grown hgr (fun k hk => hk.2) (fun h => by have := h.1; omega)).mono (fun k hk => ⟨by have := hk.1; omega, Nat.lt_of_lt_of_le hk.2 hgr.size⟩), below_grown' b2.out hgr (by omega)⟩
set_option maxHeartbeats 4000000 in
theorem clean9 (n : Nat) (hn : n ≤ 100) (ih : CleanC n) (w : World) (k : Int) (ng : Bool) (A : Option Addr) (a c u : Nat) (t : ByteArray) (K : Option Addr) (m d : Nat) (hd1 : m ≤ d) (hd2 : d ≤ 140737488355328) (hk : m = 0 ∨ ∃ x : Addr, K = some x ∧ ∀ i, i < m → ∃ cs' : Array Value, (∀ j, j < 6 → w.cell? (x.add (i * 6 + j)) = cs'[j]?) ∧ IV n w cs') (hq : (k.tmod 10 + 10) % 10 = 9) :
    Calls Tryz.prog 17 #[.agg #[.int .i64 k, .bool ng, .slice A a c, .int .u64 ((u : Nat) : Int), .string t, .slice K m d], .int .i64 ((n + 1 : Nat) : Int)] w (PostT (n + 1) w) := by
  obtain ⟨w1, hw1, b1, r0, r1, hsz⟩ := two36 w #[.int .i64 k, .bool ng, .slice A a c, .int .u64 ((u : Nat) : Int), .string t, .slice K m d] zero36
  unfold zero36 at hw1 r1
  have H := Lib.hid (c41 n hn ih w1 k ng A a c u t K m d hd1 hd2 (IVk.below hk b1))
  have R1 := Lib.hid r1
  have HSZ := Lib.hid hsz
  have e0 := r0.cell 0 _ rfl
  have e1 := r0.cell 1 _ rfl
  have e2 := r0.cell 2 _ rfl
  have e3 := r0.cell 3 _ rfl
  have e4 := r0.cell 4 _ rfl
  have e5 := r0.cell 5 _ rfl
  have B1 := Lib.hid b1
  obtain ⟨hr1, hr2⟩ := kd_rng k
  obtain ⟨D, hD⟩ : ∃ D : Int, ((n + 1 : Nat) : Int) = D := ⟨_, rfl⟩
  have hDp : 0 < D := by omega
  rw [hD] at H ⊢
  clear hsz r1 b1 hk hD ih
  go_enter Tryz.func17, Tryz.ntmps17
  go_wp2_with fail
  clear hw1
  refine H.out.mono ?_
  rintro e w2 ⟨t1, cs1, rfl, hok1, hkk1, hV1, hB2⟩
  obtain ⟨A3, a3, c3, K3, m3, d3, rfl, _⟩ := VC.head (n := n + 1) hV1
  have l1 := HSZ.out
  have l2 := hB2.size
  have r2 := Lib.hid (R1.out.below hB2)
  obtain ⟨f0, g0, f1, g1, f2, g2, f3, g3, f4, g4, f5, g5⟩ := facts36 r2.out (.int .i64 t1.kind) (.bool t1.neg) (.slice A3 a3 c3) (.int .u64 (t1.bits : Int)) (.string t1.text)
  have HV1 := Lib.hid hV1
  have HO1 := Lib.hid hok1
  have HK1 := Lib.hid hkk1
  have b2 := Lib.hid (below_trans' B1.out hB2)
  clear hV1 hok1 hkk1 e0 e1 e2 e3 e4 e5
  go_wp2_with fail
  refine bodyPost_ret (ret_row (set36 _ _ _ _ _ _ r2.out) rfl _ _ rfl Tryz.underlying36 rfl i36) rfl ?_
  have hgr := set36_grown w2 (w.heap.size + 1) (.int .i64 t1.kind) (.bool t1.neg) (.slice A3 a3 c3) (.int .u64 (t1.bits : Int)) (.string t1.text) (.slice K3 m3 d3)
  exact ⟨t1, _, rfl, HO1.out, HK1.out, (HV1.out.grown hgr (fun k hk => hk.2) (fun h => by have := h.1; omega)).mono (fun k hk => ⟨by have := hk.1; omega, Nat.lt_of_lt_of_le hk.2 hgr.size⟩), below_grown' b2.out hgr (by omega)⟩
theorem ByteA.none0 {w : World} {a c : Nat} {bs : List Nat} (h : ByteA w none a c bs) : a = 0 ∧ c = 0 := by
  rcases h.cells with ⟨_, h⟩ | ⟨x, e, _⟩
  · exact h
  · cases e
theorem and1 (u : Nat) (hu : u < 18446744073709551616) : bits .and .u64 (u : Int) 1 = 1 ∨ bits .and .u64 (u : Int) 1 = 0 := by
  have := u64_and_nat u 1 hu (by omega)
  rw [show (1 : Nat) = 2 ^ 1 - 1 from rfl, Nat.and_two_pow_sub_one_eq_mod] at this
  rw [show ((2 ^ 1 - 1 : Nat) : Int) = 1 from rfl] at this
  rw [this]; omega
theorem CleanC_le (n : Nat) : n ≤ 100 → CleanC n := by
  induction n with
  | zero =>
    intro _ w cs h
    obtain ⟨k, ng, A, a, c, u, t, K, m, d, bs, rfl, hu, hA, hc, ht, hd1, hd2, _⟩ := h
    obtain ⟨r1, r2⟩ := kd_rng k
    rcases (by omega : (k.tmod 10 + 10) % 10 = 0 ∨ (k.tmod 10 + 10) % 10 = 1 ∨ (k.tmod 10 + 10) % 10 = 2 ∨ (k.tmod 10 + 10) % 10 = 3 ∨ (k.tmod 10 + 10) % 10 = 4 ∨ (k.tmod 10 + 10) % 10 = 5 ∨ (k.tmod 10 + 10) % 10 = 6 ∨ (k.tmod 10 + 10) % 10 = 7 ∨ (k.tmod 10 + 10) % 10 = 8 ∨ (k.tmod 10 + 10) % 10 = 9) with hq | hq | hq | hq | hq | hq | hq | hq | hq | hq
    · exact clean0A 0 w k ng A a c u t K m d bs hu hA hc ht hq
    · rcases and1 u hu with h1 | h1
      · exact clean1At 0 w k ng A a c u t K m d bs hu hA hc ht hq h1
      · exact clean1Af 0 w k ng A a c u t K m d bs hu hA hc ht hq h1
    · cases A with
      | none => obtain ⟨rfl, rfl⟩ := hA.none0; exact clean2Az 0 w k ng u t K m d bs hA hq 0 (by omega)
      | some A => exact clean2A 0 w k ng A a c u t K m d bs hA hc hq 0 (by omega)
    · exact clean3A 0 w k ng A a c u t K m d bs hu hA hc ht hq
    · exact clean4A 0 w k ng A a c u t K m d bs hu hA hc ht hq
    · exact clean5A 0 w k ng A a c u t K m d bs hu hA hc ht hq
    · exact clean0B 0 w k ng A a c u t K m d bs hu hA hc ht hq rfl
    · rcases and1 u hu with h1 | h1
      · exact clean1Bt 0 w k ng A a c u t K m d bs hu hA hc ht hq rfl h1
      · exact clean1Bf 0 w k ng A a c u t K m d bs hu hA hc ht hq rfl h1
    · cases A with
      | none => obtain ⟨rfl, rfl⟩ := hA.none0; exact clean2Bz 0 w k ng u t K m d bs hA hq 0 (by omega)
      | some A => exact clean2B 0 w k ng A a c u t K m d bs hA hc hq 0 (by omega)
    · exact clean3B 0 w k ng A a c u t K m d bs hu hA hc ht hq rfl
  | succ n ih =>
    intro hn w cs h
    have ih := ih (by omega)
    obtain ⟨k, ng, A, a, c, u, t, K, m, d, bs, rfl, hu, hA, hc, ht, hd1, hd2, hk⟩ := h
    obtain ⟨r1, r2⟩ := kd_rng k
    rcases (by omega : (k.tmod 10 + 10) % 10 = 0 ∨ (k.tmod 10 + 10) % 10 = 1 ∨ (k.tmod 10 + 10) % 10 = 2 ∨ (k.tmod 10 + 10) % 10 = 3 ∨ (k.tmod 10 + 10) % 10 = 4 ∨ (k.tmod 10 + 10) % 10 = 5 ∨ (k.tmod 10 + 10) % 10 = 6 ∨ (k.tmod 10 + 10) % 10 = 7 ∨ (k.tmod 10 + 10) % 10 = 8 ∨ (k.tmod 10 + 10) % 10 = 9) with hq | hq | hq | hq | hq | hq | hq | hq | hq | hq
    · exact clean0A (n + 1) w k ng A a c u t K m d bs hu hA hc ht hq
    · rcases and1 u hu with h1 | h1
      · exact clean1At (n + 1) w k ng A a c u t K m d bs hu hA hc ht hq h1
      · exact clean1Af (n + 1) w k ng A a c u t K m d bs hu hA hc ht hq h1
    · cases A with
      | none => obtain ⟨rfl, rfl⟩ := hA.none0; exact clean2Cz (n + 1) w k ng u t K m d bs hA hq _ (by omega)
      | some A => exact clean2C (n + 1) w k ng A a c u t K m d bs hA hc hq _ (by omega)
    · exact clean3A (n + 1) w k ng A a c u t K m d bs hu hA hc ht hq
    · exact clean4A (n + 1) w k ng A a c u t K m d bs hu hA hc ht hq
    · exact clean5A (n + 1) w k ng A a c u t K m d bs hu hA hc ht hq
    · exact clean6 n (by omega) ih w k ng A a c u t K m d hd1 hd2 hk hq
    · exact clean7 n (by omega) ih w k ng A a c u t K m d hd1 hd2 hk hq
    · exact clean8 n (by omega) ih w k ng A a c u t K m d hd1 hd2 hk hq
    · exact clean9 n (by omega) ih w k ng A a c u t K m d hd1 hd2 hk hq
end Go.Proofs.YtpfihjkhgfoijaaGreatDoor

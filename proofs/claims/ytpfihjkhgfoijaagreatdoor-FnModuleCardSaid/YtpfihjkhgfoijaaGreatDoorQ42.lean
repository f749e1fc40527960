/- The row of laws.FnModule; laws.FnModule: the row; laws.FnModule: the row, proved. -/
import Derived.Test.YtpfihjkhgfoijaaGreatDoorRows
import Derived.LaidMore
import Derived.Lay
import Derived.OpenVars
import Derived.PinnedBridge
import Derived.Stop.Joined
import Derived.Test.YtpfihjkhgfoijaaGreatDoorQ41
import Derived.Test.YtpfihjkhgfoijaaGreatDoorQ03
set_option linter.unusedVariables false
set_option linter.unusedSimpArgs false
set_option maxRecDepth 100000
namespace Go.Proofs.YtpfihjkhgfoijaaGreatDoor
open Go.RowKit Go.ChangeShapes Go.WideShapes Go.ChangeAt Go.Lib
open Go.ChangeMaps (open_string shut_string)

theorem open_named {H : Type} {enc : TypeId × Value → H} {w : World} {fuel : Nat} {A : Option Addr} {n c : Nat} {x : DataW H × List MemPlace} (h : DataW.trod enc Tryz.prog w 0 (fun _ => true) true fuel 22 [.slice A n c] = some x) (hf : Fits 22 x.1) : n ≤ c ∧ c ≤ 140737488355328 ∧ NIn w A n := by
  rcases DataW.trod_slice Tryz.underlying22 h with ⟨e, -⟩ | ⟨b, len, cap, el, rs, m, -, e, hx, -, hlc, hcm, hel, hcell, hsp, -⟩
  · have e' := (List.cons.inj e).1
    cases e'
    exact ⟨Nat.le_refl _, by omega, .inl rfl⟩
  · have e' := (List.cons.inj e).1
    cases e'
    rw [hx] at hf
    obtain ⟨h5, hk5⟩ := Fits.slice Tryz.underlying22 hf
    rw [by38, reach_eq, List.length_map, List.length_map, (hsp rfl).1, hel] at h5
    refine ⟨hlc, by omega, .inr ⟨b, rfl, fun i hi => ?_⟩⟩
    have h2 := hcell i hi
    rw [co38, List.getElem?_eq_getElem (by omega)] at h2
    obtain ⟨ce, hce, hte⟩ := Option.bind_eq_some_iff.1 h2
    obtain ⟨_, hl7, hcc⟩ := World.cells?_some hce
    have hF := hk5 _ (List.mem_map.2 ⟨_, List.getElem_mem (by omega : i < el.length), rfl⟩)
    generalize el[i]'(by omega) = y at hte hF
    obtain ⟨xs, m', -, hy, hl, hxl, hfd⟩ := DataW.trod_struct Tryz.underlying38 hte
    rw [hy] at hF
    match ce, hl7, hcc, hfd with
    | [c0, c1, c2, c3, c4, c5, c6], _, hcc, hfd =>
      match xs, hxl, hfd, hF with
      | [x0, x1], _, hfd, hF =>
        have t0 : DataW.trod enc Tryz.prog w 0 (fun _ => true) true m' 9 (([c0, c1, c2, c3, c4, c5, c6].drop 0).take (Tryz.prog.cellsOf 9)) = some x0 := hfd 0 _ rfl
        have t1 : DataW.trod enc Tryz.prog w 0 (fun _ => true) true m' 36 (([c0, c1, c2, c3, c4, c5, c6].drop 1).take (Tryz.prog.cellsOf 36)) = some x1 := hfd 1 _ rfl
        rw [co9] at t0
        rw [co36] at t1
        have F0 := Fits.part Tryz.underlying38 hF (j := 0) rfl rfl
        have F1 := Fits.part Tryz.underlying38 hF (j := 1) rfl rfl
        obtain ⟨s, e0, hx0, -⟩ := DataW.trod_string Tryz.underlying9 t0
        rw [hx0] at F0
        have h4 := Fits.str F0
        rw [reach_eq, Array.length_toList] at h4
        obtain rfl : c0 = _ := (List.cons.inj e0).1
        refine ⟨s, #[c1, c2, c3, c4, c5, c6], by have : s.size ≤ 140737488351232 := h4; omega, ?_, fun j hj => ?_, open_iv 3 t1 F1⟩
        · have := hcc 0 (by omega)
          rw [show (b.add (i * 7)).add 0 = b.add (i * 7) from by simp [Addr.add]] at this
          exact this
        · have := hcc (1 + j) (by omega)
          rw [add_add'] at this
          rw [this]
          match j, hj with
          | 0, _ => rfl
          | 1, _ => rfl
          | 2, _ => rfl
          | 3, _ => rfl
          | 4, _ => rfl
          | 5, _ => rfl
theorem own : ownKnob Tryz.prog.godebug = none := by kernel_rfl
theorem reads_int {W : World} {name : String} {g : Nat} {n : Int} (hn : Tryz.prog.globalNamed name = some g) (hy : (Tryz.prog.globals[g]?).map (·.type) = some 3) (h : VarReads Tryz.prog W name (.lit (.int .i64 n))) : W.cell? ⟨g, 0, none⟩ = some (.int .i64 n) := by
  obtain ⟨g', t, cs, fuel, p, hg, hty, hvar, hd⟩ := h
  obtain rfl := Option.some.inj (hn.symm.trans hg)
  obtain rfl := Option.some.inj (hy.symm.trans hty)
  obtain ⟨k, e, hx, -⟩ := DataW.trod_int Tryz.underlying3 hd
  have hk : n = k := by
    have := (Prod.mk.inj hx).1
    simp only [DataW.lit.injEq, Lit.int.injEq, true_and] at this
    exact this
  subst hk
  rw [World.var?_cell hg hvar 0, ← Array.getElem?_toList, e]; rfl
end Go.Proofs.YtpfihjkhgfoijaaGreatDoor
namespace Go.Proofs.YtpfihjkhgfoijaaGreatDoor
open Go.RowKit Go.ChangeShapes Go.WideShapes Go.ChangeAt Go.Lib
open Go.ChangeMaps (open_string shut_string)

theorem acc_eq : (Rows.laid_unicode_utf8_acceptRanges : DataW Unit) = Lib.acceptData := by kernel_rfl
/-- what the row's condition gives the walk -/
theorem of_laid {W : World} (hL0 : laidMetH Tryz.prog Rows.fnModuleRow.laid W) : Lib.Utf8Tabs 1 2 W ∧ Lib.PrintTabsAt 3 4 5 6 Lib.goPrintTabs W ∧ W.cell? ⟨9, 0, none⟩ = some (.int .i64 40) ∧ W.cell? ⟨8, 0, none⟩ = some (.int .i64 10) := by
  have hL := hL0
  rw [MakeChecks.laidMetH_plain _ _ _ (by kernel_rfl)] at hL
  have r0 : VarReads Tryz.prog W "unicode/utf8.acceptRanges" Lib.acceptData := acc_eq ▸ Lib.laidMet.reads hL (.head _)
  have r1 := Lib.laidMet.reads hL (.tail _ (.tail _ (.head _)))
  have r5 := Lib.laidMet.reads hL (.tail _ (.tail _ (.tail _ (.tail _ (.tail _ (.head _))))))
  have r7 : VarReads Tryz.prog W "strconv.isNotPrint16" (Lib.sliceData .u16 Lib.goPrintTabs.n16) := Pinned.isNotPrint16_eq ▸ Lib.laidMet.reads hL (.tail _ (.tail _ (.tail _ (.tail _ (.tail _ (.tail _ (.tail _ (.head _))))))))
  have r8 : VarReads Tryz.prog W "strconv.isNotPrint32" (Lib.sliceData .u16 Lib.goPrintTabs.n32) := Pinned.isNotPrint32_eq ▸ Lib.laidMet.reads hL (.tail _ (.tail _ (.tail _ (.tail _ (.tail _ (.tail _ (.tail _ (.tail _ (.head _)))))))))
  have r9 : VarReads Tryz.prog W "strconv.isPrint16" (Lib.sliceData .u16 Lib.goPrintTabs.p16) := Pinned.isPrint16_eq ▸ Lib.laidMet.reads hL (.tail _ (.tail _ (.tail _ (.tail _ (.tail _ (.tail _ (.tail _ (.tail _ (.tail _ (.head _))))))))))
  have r10 : VarReads Tryz.prog W "strconv.isPrint32" (Lib.sliceData .u32 Lib.goPrintTabs.p32) := Pinned.isPrint32_eq ▸ Lib.laidMet.reads hL (.tail _ (.tail _ (.tail _ (.tail _ (.tail _ (.tail _ (.tail _ (.tail _ (.tail _ (.tail _ (.head _)))))))))))
  have r11 : VarReads Tryz.prog W "unicode/utf8.first" Lib.firstData := Pinned.utf8First_eq ▸ Lib.laidMet.reads hL (.tail _ (.tail _ (.tail _ (.tail _ (.tail _ (.tail _ (.tail _ (.tail _ (.tail _ (.tail _ (.tail _ (.head _))))))))))))
  refine ⟨utf8Tabs_of_reads (ρ := Tryz.lays177_ren) { Tryz.lays177 with } ⟨by kernel_rfl, by kernel_rfl, by kernel_rfl, by kernel_rfl, by kernel_rfl, by kernel_rfl, by kernel_rfl⟩ r11 r0,
    printTabs_of_reads (ρ := Tryz.lays177_ren) { Tryz.lays177 with } ⟨by kernel_rfl, by kernel_rfl, by kernel_rfl, by kernel_rfl, by kernel_rfl, by kernel_rfl, by kernel_rfl, by kernel_rfl, by kernel_rfl, by kernel_rfl⟩ r9 r7 r10 r8,
    reads_int (by kernel_rfl) (by kernel_rfl) r1, reads_int (by kernel_rfl) (by kernel_rfl) r5⟩
end Go.Proofs.YtpfihjkhgfoijaaGreatDoor
namespace Go.Proofs.YtpfihjkhgfoijaaGreatDoor
open Go.RowKit Go.ChangeShapes Go.WideShapes Go.ChangeAt Go.Lib
open Go.ChangeMaps (open_string shut_string)

theorem five_vars {H : Type} {enc : TypeId × Value → H} {w : World} {sp : Nat → Bool} {n0 n1 n2 n3 n4 : String} {gs : List (DataW H)} {ps : List MemPlace} (h : DataW.TrodVars enc Tryz.prog w sp [n0, n1, n2, n3, n4] gs ps) : ∃ g0 g1 g2 g3 g4, gs = [g0, g1, g2, g3, g4] := by
  rcases gs with _ | ⟨g0, _ | ⟨g1, _ | ⟨g2, _ | ⟨g3, _ | ⟨g4, _ | ⟨g5, r⟩⟩⟩⟩⟩⟩
  · exact h.elim
  · obtain ⟨_, _, _, _, _, _, _, _, _, _, h, _⟩ := h; exact h.elim
  · obtain ⟨_, _, _, _, _, _, _, _, _, _, ⟨_, _, _, _, _, _, _, _, _, _, h, _⟩, _⟩ := h; exact h.elim
  · obtain ⟨_, _, _, _, _, _, _, _, _, _, ⟨_, _, _, _, _, _, _, _, _, _, ⟨_, _, _, _, _, _, _, _, _, _, h, _⟩, _⟩, _⟩ := h; exact h.elim
  · obtain ⟨_, _, _, _, _, _, _, _, _, _, ⟨_, _, _, _, _, _, _, _, _, _, ⟨_, _, _, _, _, _, _, _, _, _, ⟨_, _, _, _, _, _, _, _, _, _, h, _⟩, _⟩, _⟩, _⟩ := h; exact h.elim
  · exact ⟨g0, g1, g2, g3, g4, rfl⟩
  · obtain ⟨_, _, _, _, _, _, _, _, _, _, ⟨_, _, _, _, _, _, _, _, _, _, ⟨_, _, _, _, _, _, _, _, _, _, ⟨_, _, _, _, _, _, _, _, _, _, ⟨_, _, _, _, _, _, _, _, _, _, h, _⟩, _⟩, _⟩, _⟩, _⟩ := h; exact h.elim
set_option maxHeartbeats 1000000 in
theorem lifted_of (os : Os) (started : os.Started) (H : Type) (enc : TypeId × Value → H)
    (witness : ∃ (w : World) (tape : Tape) (i : Input), w.os = os ∧ (w.forCall tape i).Shaped Tryz.checked.prog ∧ i.vars = [] ∧ Input.okWide Tryz.checked.prog (w.forCall tape i) .any w.heap.size 3 i ∧
      ((Rows.fnModuleSpec.pre enc Tryz.checked.prog Tryz.f3 [] false (w.forCall tape i).memory i.args ∧ laidMetH Tryz.prog Rows.fnModuleRow.laid (w.forCall tape i).memory) ∧ sizedMet enc Tryz.checked.prog Tryz.f3 (OpenSpec.ofChange Rows.fnModuleSpec) false (w.forCall tape i).memory i.args) ∧ ({} : Assume).holds Tryz.checked.prog (lone (Frame.enter Tryz.checked.prog 3 i.args .normal) [] (w.forCall tape i))) :
    ReturnsInHanded {} Tryz.checked os 3 .any (fun w args => (Rows.fnModuleSpec.pre enc Tryz.prog Tryz.f3 [] false w args ∧ laidMetH Tryz.prog Rows.fnModuleRow.laid w) ∧ sizedMet enc Tryz.prog Tryz.f3 (OpenSpec.ofChange Rows.fnModuleSpec) false w args)
      (Rows.fnModuleSpec.post enc Tryz.prog Tryz.f3 false true false false) := by
  refine returnsInHanded_of_change_and (C := Tryz.checked) (X := fun w _ => laidMetH Tryz.prog Rows.fnModuleRow.laid w) (fun _ _ _ hh h => h.of_heap hh) own started (by kernel_rfl) Tryz.func3 witness ?_
  intro W base args ds gs before hval0 hW _ hsz0 hL _
  have hval : ∀ (j : Nat) t v, Tryz.f3.params[j]? = some t → args[j]? = some v → Value.okWide Tryz.prog W .any base t v := hval0
  have hsz : (DataW.weightsEach Tryz.prog (Tryz.f3.params.toList ++ Rows.fnModuleSpec.plain.varTypes Tryz.prog) (ds ++ gs)).all (· ≤ reachBytes) = true := hsz0
  have hW' := hW
  obtain ⟨p, q, hA0, hV0, rfl, hnf, hnd⟩ := hW
  have hV : DataW.TrodVars enc Tryz.prog W (fun _ => true) Rows.fnModuleSpec.vars gs q := hV0
  have hA : DataW.TrodAll enc Tryz.prog W 0 (fun _ => true) true Tryz.f3.params.toList args.toList ds p := hA0
  clear hval0 hsz0 hA0 hV0
  rw [Tryz.params3] at hA hval hsz
  obtain ⟨v0, v1, d0, d1, p0, p1, rfl, rfl, rfl, h0, h1⟩ := trodAll_two hA
  obtain ⟨g0, g1, g2, g3, g4, rfl⟩ := five_vars hV
  obtain ⟨A, n, c, rfl⟩ := okWide_slice Tryz.underlying22 (hval 1 22 v1 rfl rfl)
  have h0k := h0
  have h1k := h1
  obtain ⟨s, rfl, rfl, rfl, ws⟩ := open_string Tryz.underlying9 (hval 0 9 v0 rfl rfl) h0
  obtain ⟨fuel, hf⟩ := h1
  have hF : Fits 22 d1 := fun k hk => by
    have := List.all_eq_true.1 hsz k (DataW.weights_mem_each (j := 1) rfl rfl k hk)
    simpa using this
  have hs : s.size ≤ 140737488351232 := by
    have := sized_string hsz (j := 0) (t := 9) rfl rfl
    rw [reach_eq, Array.length_toList] at this
    exact this
  obtain ⟨hn, hc, hI⟩ := open_named (x := (d1, p1)) hf hF
  obtain ⟨hU, hT, h9, h8⟩ := of_laid hL
  have hlt1 : ∀ x ∈ p1, x.block < W.heap.size := DataW.trod_lt fuel 22 _ (d1, p1) hf
  refine (c3 Lib.goPrintTabs s A n c W (by omega) hn hc hI h9 h8 hT hU).mono ?_
  rintro e W' ⟨rfl, hB⟩
  refine ⟨_, rfl, [.lit (.string s.data.toList), d1], [g0, g1, g2, g3, g4], _, [], [] ++ p1, q, hW', ?_, ?_, ?_, hB.frame _, fun h => by cases h⟩
  · exact trodAll_mk1 (shut_bool Tryz.underlying4 true)
  · exact trodAll_mk2 (Below.trod laidOut (by kernel_rfl) (of_decide_eq_true (by kernel_rfl)) h0k hB (fun x hx => by cases hx)) (Below.trod laidOut (by kernel_rfl) (of_decide_eq_true (by kernel_rfl)) h1k hB hlt1)
  · exact Below.trodVars laidOut hB (by kernel_rfl) hV
end Go.Proofs.YtpfihjkhgfoijaaGreatDoor

/- laws.FnModule: for every input the law returns true, and its arguments read as they did: the row and the tied card. Conditions: the row's own cells alone (loops, laid, recurses, unfollowed; the listed package-level variables as the program's text lays them: tied). -/
import Derived.Test.YtpfihjkhgfoijaaGreatDoorCards
import Derived.Test.YtpfihjkhgfoijaaGreatDoorTie
import Derived.SevenTiedAt
import Derived.Test.YtpfihjkhgfoijaaGreatDoorQ04
import Derived.Test.YtpfihjkhgfoijaaGreatDoorQ42
set_option linter.unusedVariables false
set_option linter.unusedSimpArgs false
set_option maxRecDepth 100000
namespace Go.Proofs.YtpfihjkhgfoijaaGreatDoor
open Go.RowKit Go.ChangeShapes Go.WideShapes Go.ChangeAt Go.Lib

theorem lifted (os : Os) (started : os.Started) (H : Type) (enc : TypeId × Value → H) :
    ReturnsInHanded {} Tryz.checked os 3 .any (fun w args => (Rows.fnModuleSpec.pre enc Tryz.prog Tryz.f3 [] false w args ∧ laidMetH Tryz.prog Rows.fnModuleRow.laid w) ∧ sizedMet enc Tryz.prog Tryz.f3 (OpenSpec.ofChange Rows.fnModuleSpec) false w args)
      (Rows.fnModuleSpec.post enc Tryz.prog Tryz.f3 false true false false) :=
  lifted_of os started H enc
    (ChangeSpec.witness_shaped (enc := enc) (C := Tryz.checked) (os := os) (X := fun w _ => laidMetH Tryz.prog Rows.fnModuleRow.laid w) false (World.laidAll Tryz.prog os Rows.fnModuleRow.laid) #[.string ⟨#[]⟩, .slice none 0 0] 8 (World.laidAll_os _ _ _)
      (World.shaped_of_ZipB (by kernel_rfl) (by kernel_rfl)) (by kernel_rfl) (by kernel_rfl) (by kernel_rfl)
      (by rw [MakeChecks.laidMetH_plain _ _ _ (by kernel_rfl)]; exact laidMet_laidAll _ (by kernel_rfl) (by kernel_rfl)))
theorem fact_stand : ([9, 22].all fun u => !Tryz.prog.wantsStandIn u) = true := by kernel_rfl
theorem fnModule_holds : Rows.FnModuleSaid :=
  OpenClaim.holds_of_wide 3 Tryz.f3 rfl rfl rfl rfl rfl rfl rfl ⟨rfl, rfl, rfl, rfl, rfl⟩ rfl rfl rfl rfl rfl fact_fn Tryz.func3 facts fact_inst fact_wrap
    (fun os started H enc _ => lifted os started H enc)
theorem fnModule_card_holds : Rows.FnModuleCardSaid :=
  Claim7.holds_tied_plain_at .later [] [.data, .data, .data, .data, .data, .data, .pinned, .pinned, .pinned, .pinned, .pinned, .pinned] true (true, "93b4179479ba5e5baa3acbe872b8a2073ae6bfdcacadfc185981b5c578b2160e") true fnModule_holds (fun _ h => by cases h) fact_wf (fun _ h => by cases h) fnModule_row_tie rfl ⟨rfl, rfl⟩ fact_main rfl
    (fun f fn hf hfn => by
      obtain rfl : f = 3 := Option.some.inj (fact_fn.symm.trans hf) |>.symm
      obtain rfl : fn = Tryz.f3 := (Option.some.inj (Tryz.func3.symm.trans hfn)).symm
      exact ⟨fact_looks, fun j t ht => by
        rw [Tryz.params3] at ht
        have hm : t ∈ [9, 22] := by simpa using Array.mem_of_getElem? ht
        exact (show Tryz.prog.wantsStandIn t = false by simpa using List.all_eq_true.1 fact_stand t hm)⟩)
    fact_goes
#print axioms fnModule_card_holds
end Go.Proofs.YtpfihjkhgfoijaaGreatDoor

/- The closed facts of the row of laws.FnModule, first part. -/
import Derived.Test.YtpfihjkhgfoijaaGreatDoorRows
import Derived.ProofKit
set_option maxRecDepth 100000
namespace Go.Proofs.YtpfihjkhgfoijaaGreatDoor
open Go Go.Proofs

theorem jf0 : ((Rows.fnModuleRow.wf (OpenSpec.ofChange Rows.fnModuleSpec))) = true := by kernel_rfl
theorem jf2 : (mapsRowed Tryz.pinned.checked.prog) = true := by kernel_rfl
theorem jf3 : (Tryz.f3.params.all (Tryz.pinned.checked.prog.readableRec ·)) = true := by kernel_rfl
theorem jf4 : (namedTie Tryz.pinned.checked.prog Rows.fnModuleRow.named Rows.fnModuleSpec.vars) = true := by kernel_rfl
theorem jf5 : ((Rows.fnModuleRow.stops == [])) = true := by kernel_rfl
theorem jf6 : ((Tryz.pinned.checked.prog.stops == [])) = true := by kernel_rfl
theorem jf7 : ((Rows.fnModuleRow.knobs == [])) = true := by kernel_rfl
theorem jf8 : ((Tryz.pinned.checked.prog.stopKnobs == [])) = true := by kernel_rfl
theorem jf13 : ((Rows.fnModuleRow.maps == (Tryz.f3.params.toList ++ Rows.fnModuleSpec.plain.varTypes Tryz.pinned.checked.prog).any (Tryz.pinned.checked.prog.mapsRec ·))) = true := by kernel_rfl
theorem jf14 : ((Rows.fnModuleRow.ifaces == (Tryz.f3.params.toList ++ Rows.fnModuleSpec.plain.varTypes Tryz.pinned.checked.prog).any (Tryz.pinned.checked.prog.ifacesRec ·))) = true := by kernel_rfl
theorem jf15 : ((Rows.fnModuleRow.mapsOut == Tryz.pinned.checked.prog.mapsAmong Tryz.f3.resultTypes.toList)) = true := by kernel_rfl
theorem jf16 : ((Rows.fnModuleRow.loops == (Tryz.f3.params.toList ++ Rows.fnModuleSpec.plain.varTypes Tryz.pinned.checked.prog).any (Tryz.pinned.checked.prog.loopsFrom ·))) = true := by kernel_rfl
theorem jf17 : ((Rows.fnModuleRow.wideKeys == (Tryz.f3.params.toList ++ Rows.fnModuleSpec.plain.varTypes Tryz.pinned.checked.prog ++ Tryz.f3.resultTypes.toList).any (Tryz.pinned.checked.prog.wideKeysFrom ·))) = true := by kernel_rfl
theorem jf18 : (Rows.fnModuleSpec.vars.all (Tryz.pinned.checked.prog.varReadable ·)) = true := by kernel_rfl
theorem jf19 : (Tryz.f3.resultTypes.all (fun t => Tryz.pinned.checked.prog.readableRec t && decide (t < Tryz.pinned.checked.prog.types.size))) = true := by kernel_rfl
theorem jf20 : ((Rows.fnModuleRow.ifacesOut == Tryz.f3.resultTypes.toList.any (Tryz.pinned.checked.prog.ifacesRec ·))) = true := by kernel_rfl
theorem jf21 : ((Rows.fnModuleRow.loopsOut == Tryz.f3.resultTypes.toList.any (Tryz.pinned.checked.prog.loopsFrom ·))) = true := by kernel_rfl
theorem jf23 : (Rows.fnModuleRow.shortTexts.isNone) = true := by kernel_rfl
theorem jf26 : ((Rows.fnModuleRow.lifted == Tryz.pinned.checked.prog.liftsFinal)) = true := by kernel_rfl
theorem jf27 : ((Tryz.pinned.checked.prog.make == some Rows.fnModuleRow.make)) = true := by kernel_rfl
theorem jf28 : ((Rows.fnModuleRow.kinds == (if Rows.fnModuleRow.domain.isEmpty then [] else Tryz.f3.params.toList.map fun t => match Tryz.pinned.checked.prog.underlying t with | some (.int k) => some k | _ => none))) = true := by kernel_rfl
theorem jf29 : ((Rows.fnModuleRow.pinned == Rows.fnModuleRow.pinnedBy)) = true := by kernel_rfl
theorem jf30 : ((Rows.fnModuleRow.veiled == (Tryz.f3.params.toList ++ Rows.fnModuleSpec.plain.varTypes Tryz.pinned.checked.prog ++ Tryz.f3.resultTypes.toList).any (Tryz.pinned.checked.prog.veiledRec ·))) = true := by kernel_rfl
theorem jf31 : (Rows.fnModuleRow.veiledFits Tryz.pinned.checked.prog Tryz.f3.params.toList (Tryz.f3.params.toList ++ Rows.fnModuleSpec.plain.varTypes Tryz.pinned.checked.prog ++ Tryz.f3.resultTypes.toList)) = true := by kernel_rfl
theorem laidOut : laidOutB Tryz.prog = true := by kernel_rfl
end Go.Proofs.YtpfihjkhgfoijaaGreatDoor

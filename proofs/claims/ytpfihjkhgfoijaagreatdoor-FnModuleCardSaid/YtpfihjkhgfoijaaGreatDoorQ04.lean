/- The closed facts of the row of laws.FnModule, third part, and all of them. -/
import Derived.Test.YtpfihjkhgfoijaaGreatDoorCards
import Derived.Test.YtpfihjkhgfoijaaGreatDoorQ02
import Derived.Test.YtpfihjkhgfoijaaGreatDoorQ03
set_option maxRecDepth 100000
namespace Go.Proofs.YtpfihjkhgfoijaaGreatDoor
open Go Go.Proofs

theorem jf22 : ((Rows.fnModuleRow.plainKeys == Tryz.pinned.checked.prog.plainKeys)) = true := by kernel_rfl
theorem jf24 : (Tryz.pinned.checked.prog.stopsHeard) = true := by kernel_rfl
theorem jf25 : (Tryz.pinned.checked.prog.mayEnter) = true := by kernel_rfl
theorem jf1 : (laidOutB Tryz.pinned.checked.prog) = true := laidOut
theorem facts : joinedFacts Tryz.pinned.checked.prog 3 Tryz.f3 Rows.fnModuleSpec Rows.fnModuleRow = true := by
  unfold joinedFacts
  simp only [Bool.and_eq_true]
  exact ⟨⟨⟨⟨⟨⟨⟨⟨⟨⟨⟨⟨⟨⟨⟨⟨⟨⟨⟨⟨⟨⟨⟨⟨⟨⟨⟨⟨⟨⟨⟨jf0, jf1⟩, jf2⟩, jf3⟩, jf4⟩, jf5⟩, jf6⟩, jf7⟩, jf8⟩, jf9⟩, jf10⟩, jf11⟩, jf12⟩, jf13⟩, jf14⟩, jf15⟩, jf16⟩, jf17⟩, jf18⟩, jf19⟩, jf20⟩, jf21⟩, jf22⟩, jf23⟩, jf24⟩, jf25⟩, jf26⟩, jf27⟩, jf28⟩, jf29⟩, jf30⟩, jf31⟩
theorem fact_fn : Tryz.pinned.checked.prog.funcNamed Rows.fnModuleRow.func = some 3 := by kernel_rfl
theorem fact_inst : Tryz.f3.isInstance Tryz.pinned.checked.prog Rows.fnModuleRow.origin Rows.fnModuleRow.targs := of_decide_eq_true (by kernel_rfl)
theorem fact_wrap : Tryz.f3.isWrapper Tryz.pinned.checked.prog Rows.fnModuleRow.wrapper Rows.fnModuleRow.mainSum := by unfold Func.isWrapper; first | (rw [if_pos (by decide +kernel)]; kernel_rfl) | (rw [if_neg (by decide +kernel)]; exact ⟨rfl, rfl⟩)
theorem fact_wf : Rows.fnModuleRow.wfByText (OpenSpec.ofChange Rows.fnModuleSpec) = true := by kernel_rfl
theorem fact_main : Tryz.pinned.checked.prog.mainIs = some (true, "93b4179479ba5e5baa3acbe872b8a2073ae6bfdcacadfc185981b5c578b2160e".toList) := by kernel_rfl
theorem fact_looks : true = Tryz.pinned.checked.prog.looks [] := by kernel_rfl
theorem fact_goes : false = Rows.fnModuleRow.goesBy Tryz.pinned.checked.prog := by kernel_rfl
end Go.Proofs.YtpfihjkhgfoijaaGreatDoor

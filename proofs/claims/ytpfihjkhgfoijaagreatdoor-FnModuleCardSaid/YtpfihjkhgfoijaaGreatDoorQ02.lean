/- The closed facts of the row of laws.FnModule, second part. -/
import Derived.Test.YtpfihjkhgfoijaaGreatDoorRows
import Derived.ProofKit
set_option maxRecDepth 100000
namespace Go.Proofs.YtpfihjkhgfoijaaGreatDoor
open Go Go.Proofs

theorem jf9 : ((Rows.fnModuleRow.inPlace == Tryz.pinned.checked.prog.inPlace 3)) = true := by kernel_rfl
theorem jf10 : ((Rows.fnModuleRow.unfollowed == Tryz.pinned.checked.prog.unfollowed 3)) = true := by kernel_rfl
theorem jf11 : ((Rows.fnModuleRow.recurses == Tryz.pinned.checked.prog.recurses 3)) = true := by kernel_rfl
theorem jf12 : ((Rows.fnModuleRow.named == Tryz.pinned.checked.prog.varsNamed 3)) = true := by kernel_rfl
end Go.Proofs.YtpfihjkhgfoijaaGreatDoor

/- FnAddrIDs's card: four closed facts, by the kernel. -/
import Derived.Test.YtpddelepoaichaaGreatDoorRows
import Derived.SevenTiedAt
namespace Go.Proofs.YtpddelepoaichaaGreatDoor
open Go
set_option maxRecDepth 100000
theorem card_wf : Rows.fnAddrIDsRow.wfByText (OpenSpec.ofChange Rows.fnAddrIDsSpec) = true := by kernel_rfl
theorem card_main : Tryz.pinned.checked.prog.mainIs = some (true, "5edc8ae0067eac2a21f4366d2c815a108f7f66c85de263e1f53552641b31a332".toList) := by kernel_rfl
theorem card_looks : true = Tryz.pinned.checked.prog.looks [] := by kernel_rfl
theorem card_hop : Tryz.pinned.checked.prog.wantsStandIn 38 = false := by kernel_rfl
end Go.Proofs.YtpddelepoaichaaGreatDoor

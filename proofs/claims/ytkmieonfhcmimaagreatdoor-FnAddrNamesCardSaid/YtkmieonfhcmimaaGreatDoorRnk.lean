/- FnAddrNames's card: four closed facts, by the kernel. -/
import Derived.Test.YtkmieonfhcmimaaGreatDoorRows
import Derived.SevenTiedAt
namespace Go.Proofs.YtkmieonfhcmimaaGreatDoor
open Go
set_option maxRecDepth 100000
theorem card_wf : Rows.fnAddrNamesRow.wfByText (OpenSpec.ofChange Rows.fnAddrNamesSpec) = true := by kernel_rfl
theorem card_main : Tryz.pinned.checked.prog.mainIs = some (true, "b740c42c78935da9b2c85157ebdca86a47c5f1b8c567fbc673b7270b77f6c88a".toList) := by kernel_rfl
theorem card_looks : true = Tryz.pinned.checked.prog.looks [] := by kernel_rfl
theorem card_hop : Tryz.pinned.checked.prog.wantsStandIn 22 = false := by kernel_rfl
end Go.Proofs.YtkmieonfhcmimaaGreatDoor

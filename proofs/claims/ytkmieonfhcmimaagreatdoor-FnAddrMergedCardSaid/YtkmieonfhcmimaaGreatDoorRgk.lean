/- FnAddrMerged's card: four closed facts, by the kernel. -/
import Derived.Test.YtkmieonfhcmimaaGreatDoorRows
import Derived.SevenTiedAt
namespace Go.Proofs.YtkmieonfhcmimaaGreatDoor
open Go
set_option maxRecDepth 100000
theorem card_wf : Rows.fnAddrMergedRow.wfByText (OpenSpec.ofChange Rows.fnAddrMergedSpec) = true := by kernel_rfl
theorem card_main : Tryz.pinned.checked.prog.mainIs = some (true, "b740c42c78935da9b2c85157ebdca86a47c5f1b8c567fbc673b7270b77f6c88a".toList) := by kernel_rfl
theorem card_looks : true = Tryz.pinned.checked.prog.looks [] := by kernel_rfl
theorem card_hop0 : Tryz.pinned.checked.prog.wantsStandIn 22 = false := by kernel_rfl
theorem card_hop1 : Tryz.pinned.checked.prog.wantsStandIn 22 = false := by kernel_rfl
end Go.Proofs.YtkmieonfhcmimaaGreatDoor

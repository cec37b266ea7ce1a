/- FnAddrMissing's card: four closed facts, by the kernel. -/
import Derived.Test.YtimakhadabenbaaGreatDoorRows
import Derived.SevenTiedAt
namespace Go.Proofs.YtimakhadabenbaaGreatDoor
open Go
set_option maxRecDepth 100000
theorem card_wf : Rows.fnAddrMissingRow.wfByText (OpenSpec.ofChange Rows.fnAddrMissingSpec) = true := by kernel_rfl
theorem card_main : Tryz.pinned.checked.prog.mainIs = some (true, "ae0945b162df59ab01fd1225363179f2affe56ab3ffecff88cb45838449e0ad7".toList) := by kernel_rfl
theorem card_looks : true = Tryz.pinned.checked.prog.looks [] := by kernel_rfl
theorem card_hop0 : Tryz.pinned.checked.prog.wantsStandIn 22 = false := by kernel_rfl
theorem card_hop1 : Tryz.pinned.checked.prog.wantsStandIn 23 = false := by kernel_rfl
theorem card_hop2 : Tryz.pinned.checked.prog.wantsStandIn 5 = false := by kernel_rfl
end Go.Proofs.YtimakhadabenbaaGreatDoor

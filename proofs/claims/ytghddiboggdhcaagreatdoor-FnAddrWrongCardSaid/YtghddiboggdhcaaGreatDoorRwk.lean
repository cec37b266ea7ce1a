/- FnAddrWrong's card: four closed facts, by the kernel. -/
import Derived.Test.YtghddiboggdhcaaGreatDoorRows
import Derived.SevenTiedAt
namespace Go.Proofs.YtghddiboggdhcaaGreatDoor
open Go
set_option maxRecDepth 100000
theorem card_wf : Rows.fnAddrWrongRow.wfByText (OpenSpec.ofChange Rows.fnAddrWrongSpec) = true := by kernel_rfl
theorem card_main : Tryz.pinned.checked.prog.mainIs = some (true, "1e6de949154f693bbb4c7b5c27996fa170841ce44a2c6954ce7d4dcc218588f5".toList) := by kernel_rfl
theorem card_looks : true = Tryz.pinned.checked.prog.looks [] := by kernel_rfl
theorem card_hop : Tryz.pinned.checked.prog.wantsStandIn 22 = false := by kernel_rfl
end Go.Proofs.YtghddiboggdhcaaGreatDoor

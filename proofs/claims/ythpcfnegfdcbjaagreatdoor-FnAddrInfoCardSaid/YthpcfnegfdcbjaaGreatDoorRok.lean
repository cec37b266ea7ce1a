/- FnAddrInfo's card: four closed facts, by the kernel. -/
import Derived.Test.YthpcfnegfdcbjaaGreatDoorRows
import Derived.SevenTiedAt
namespace Go.Proofs.YthpcfnegfdcbjaaGreatDoor
open Go
set_option maxRecDepth 100000
theorem card_wf : Rows.fnAddrInfoRow.wfByText (OpenSpec.ofChange Rows.fnAddrInfoSpec) = true := by kernel_rfl
theorem card_main : Tryz.pinned.checked.prog.mainIs = some (true, "412b1c8060867069a66715c8f30f0ab990cc9a80aeeda7539028dbae23b6272a".toList) := by kernel_rfl
theorem card_looks : true = Tryz.pinned.checked.prog.looks [] := by kernel_rfl
theorem card_hop : Tryz.pinned.checked.prog.wantsStandIn 22 = false := by kernel_rfl
end Go.Proofs.YthpcfnegfdcbjaaGreatDoor

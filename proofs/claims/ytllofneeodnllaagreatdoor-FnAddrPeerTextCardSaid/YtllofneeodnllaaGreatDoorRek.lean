/- FnAddrPeerText's card: four closed facts, by the kernel. -/
import Derived.Test.YtllofneeodnllaaGreatDoorRows
import Derived.SevenTiedAt
namespace Go.Proofs.YtllofneeodnllaaGreatDoor
open Go
set_option maxRecDepth 100000
theorem card_wf : Rows.fnAddrPeerTextRow.wfByText (OpenSpec.ofChange Rows.fnAddrPeerTextSpec) = true := by kernel_rfl
theorem card_main : Tryz.pinned.checked.prog.mainIs = some (true, "09ee442c42c7edc08e9f8f5e05bde36f8c4c205c385b746c74bdf15c8ed99430".toList) := by kernel_rfl
theorem card_looks : true = Tryz.pinned.checked.prog.looks [] := by kernel_rfl
theorem card_hop0 : Tryz.pinned.checked.prog.wantsStandIn 22 = false := by kernel_rfl
theorem card_hop1 : Tryz.pinned.checked.prog.wantsStandIn 23 = false := by kernel_rfl
end Go.Proofs.YtllofneeodnllaaGreatDoor

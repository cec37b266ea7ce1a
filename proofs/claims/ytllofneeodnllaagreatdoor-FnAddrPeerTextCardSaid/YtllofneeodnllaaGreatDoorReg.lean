/- FnAddrPeerText's card: one closed fact, by the kernel: card_goes. -/
import Derived.Test.YtllofneeodnllaaGreatDoorRows
import Derived.SevenTiedAt
namespace Go.Proofs.YtllofneeodnllaaGreatDoor
open Go
set_option maxRecDepth 100000
theorem card_goes : false = Rows.fnAddrPeerTextRow.goesBy Tryz.pinned.checked.prog := by kernel_rfl
end Go.Proofs.YtllofneeodnllaaGreatDoor

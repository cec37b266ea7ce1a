/- FnAddrInfo's card: one closed fact, by the kernel: card_goes. -/
import Derived.Test.YthpcfnegfdcbjaaGreatDoorRows
import Derived.SevenTiedAt
namespace Go.Proofs.YthpcfnegfdcbjaaGreatDoor
open Go
set_option maxRecDepth 100000
theorem card_goes : false = Rows.fnAddrInfoRow.goesBy Tryz.pinned.checked.prog := by kernel_rfl
end Go.Proofs.YthpcfnegfdcbjaaGreatDoor

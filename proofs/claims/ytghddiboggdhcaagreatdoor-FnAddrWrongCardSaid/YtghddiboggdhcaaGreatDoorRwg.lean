/- FnAddrWrong's card: one closed fact, by the kernel: card_goes. -/
import Derived.Test.YtghddiboggdhcaaGreatDoorRows
import Derived.SevenTiedAt
namespace Go.Proofs.YtghddiboggdhcaaGreatDoor
open Go
set_option maxRecDepth 100000
theorem card_goes : false = Rows.fnAddrWrongRow.goesBy Tryz.pinned.checked.prog := by kernel_rfl
end Go.Proofs.YtghddiboggdhcaaGreatDoor

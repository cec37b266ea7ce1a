/- FnAddrMissing's card: one closed fact, by the kernel: card_goes. -/
import Derived.Test.YtimakhadabenbaaGreatDoorRows
import Derived.SevenTiedAt
namespace Go.Proofs.YtimakhadabenbaaGreatDoor
open Go
set_option maxRecDepth 100000
theorem card_goes : false = Rows.fnAddrMissingRow.goesBy Tryz.pinned.checked.prog := by kernel_rfl
end Go.Proofs.YtimakhadabenbaaGreatDoor

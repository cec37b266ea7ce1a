/- FnAddrMerged's card: one closed fact, by the kernel: card_goes. -/
import Derived.Test.YtkmieonfhcmimaaGreatDoorRows
import Derived.SevenTiedAt
namespace Go.Proofs.YtkmieonfhcmimaaGreatDoor
open Go
set_option maxRecDepth 100000
theorem card_goes : false = Rows.fnAddrMergedRow.goesBy Tryz.pinned.checked.prog := by kernel_rfl
end Go.Proofs.YtkmieonfhcmimaaGreatDoor

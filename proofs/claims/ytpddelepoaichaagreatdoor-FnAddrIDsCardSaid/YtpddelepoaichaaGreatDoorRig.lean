/- FnAddrIDs's card: one closed fact, by the kernel: card_goes. -/
import Derived.Test.YtpddelepoaichaaGreatDoorRows
import Derived.SevenTiedAt
namespace Go.Proofs.YtpddelepoaichaaGreatDoor
open Go
set_option maxRecDepth 100000
theorem card_goes : false = Rows.fnAddrIDsRow.goesBy Tryz.pinned.checked.prog := by kernel_rfl
end Go.Proofs.YtpddelepoaichaaGreatDoor

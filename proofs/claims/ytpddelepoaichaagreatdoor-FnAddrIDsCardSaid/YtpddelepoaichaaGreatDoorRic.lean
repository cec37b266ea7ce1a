/- FnAddrIDs: one closed fact of the row's head, by the kernel: head_recurses. -/
import Derived.Test.YtpddelepoaichaaGreatDoorRows
import Derived.ProofKit
import Derived.Stop.Joined
namespace Go.Proofs.YtpddelepoaichaaGreatDoor
open Go
set_option maxRecDepth 100000
theorem head_recurses : Tryz.prog.recurses 7 = Rows.fnAddrIDsRow.recurses := by kernel_rfl
end Go.Proofs.YtpddelepoaichaaGreatDoor

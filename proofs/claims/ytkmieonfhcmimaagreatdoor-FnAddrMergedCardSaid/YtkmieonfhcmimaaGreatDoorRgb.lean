/- FnAddrMerged: one closed fact of the row's head, by the kernel: head_unfollowed. -/
import Derived.Test.YtkmieonfhcmimaaGreatDoorRows
import Derived.ProofKit
import Derived.Stop.Joined
namespace Go.Proofs.YtkmieonfhcmimaaGreatDoor
open Go
set_option maxRecDepth 100000
theorem head_unfollowed : Tryz.prog.unfollowed 4 = Rows.fnAddrMergedRow.unfollowed := by kernel_rfl
end Go.Proofs.YtkmieonfhcmimaaGreatDoor

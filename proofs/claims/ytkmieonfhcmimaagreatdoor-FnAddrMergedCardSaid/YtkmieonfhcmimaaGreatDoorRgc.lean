/- FnAddrMerged: one closed fact of the row's head, by the kernel: head_recurses. -/
import Derived.Test.YtkmieonfhcmimaaGreatDoorRows
import Derived.ProofKit
import Derived.Stop.Joined
namespace Go.Proofs.YtkmieonfhcmimaaGreatDoor
open Go
set_option maxRecDepth 100000
theorem head_recurses : Tryz.prog.recurses 4 = Rows.fnAddrMergedRow.recurses := by kernel_rfl
end Go.Proofs.YtkmieonfhcmimaaGreatDoor

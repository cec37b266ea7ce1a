/- FnAddrMerged: one closed fact of the row's head, by the kernel: head_inPlace. -/
import Derived.Test.YtkmieonfhcmimaaGreatDoorRows
import Derived.ProofKit
import Derived.Stop.Joined
namespace Go.Proofs.YtkmieonfhcmimaaGreatDoor
open Go
set_option maxRecDepth 100000
theorem head_inPlace : Tryz.prog.inPlace 4 = Rows.fnAddrMergedRow.inPlace := by kernel_rfl
end Go.Proofs.YtkmieonfhcmimaaGreatDoor

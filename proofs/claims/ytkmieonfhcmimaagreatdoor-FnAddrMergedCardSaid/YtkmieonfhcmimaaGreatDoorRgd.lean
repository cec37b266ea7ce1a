/- FnAddrMerged: one closed fact of the row's head, by the kernel: head_named. -/
import Derived.Test.YtkmieonfhcmimaaGreatDoorRows
import Derived.ProofKit
import Derived.Stop.Joined
namespace Go.Proofs.YtkmieonfhcmimaaGreatDoor
open Go
set_option maxRecDepth 100000
theorem head_named : Tryz.prog.varsNamed 4 = Rows.fnAddrMergedRow.named := by kernel_rfl
end Go.Proofs.YtkmieonfhcmimaaGreatDoor

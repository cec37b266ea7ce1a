/- FnAddrMissing: one closed fact of the row's head, by the kernel: head_inPlace. -/
import Derived.Test.YtimakhadabenbaaGreatDoorRows
import Derived.ProofKit
import Derived.Stop.Joined
namespace Go.Proofs.YtimakhadabenbaaGreatDoor
open Go
set_option maxRecDepth 100000
theorem head_inPlace : Tryz.prog.inPlace 3 = Rows.fnAddrMissingRow.inPlace := by kernel_rfl
end Go.Proofs.YtimakhadabenbaaGreatDoor

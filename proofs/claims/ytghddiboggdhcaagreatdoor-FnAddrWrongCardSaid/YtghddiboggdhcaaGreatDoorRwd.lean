/- FnAddrWrong: one closed fact of the row's head, by the kernel: head_named. -/
import Derived.Test.YtghddiboggdhcaaGreatDoorRows
import Derived.ProofKit
import Derived.Stop.Joined
namespace Go.Proofs.YtghddiboggdhcaaGreatDoor
open Go
set_option maxRecDepth 100000
theorem head_named : Tryz.prog.varsNamed 3 = Rows.fnAddrWrongRow.named := by kernel_rfl
end Go.Proofs.YtghddiboggdhcaaGreatDoor

/- FnAddrWrong: one closed fact of the row's head, by the kernel: head_recurses. -/
import Derived.Test.YtghddiboggdhcaaGreatDoorRows
import Derived.ProofKit
import Derived.Stop.Joined
namespace Go.Proofs.YtghddiboggdhcaaGreatDoor
open Go
set_option maxRecDepth 100000
theorem head_recurses : Tryz.prog.recurses 3 = Rows.fnAddrWrongRow.recurses := by kernel_rfl
end Go.Proofs.YtghddiboggdhcaaGreatDoor

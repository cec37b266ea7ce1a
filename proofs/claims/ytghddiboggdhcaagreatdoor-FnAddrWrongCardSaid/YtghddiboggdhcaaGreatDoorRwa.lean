/- FnAddrWrong: one closed fact of the row's head, by the kernel: head_inPlace. -/
import Derived.Test.YtghddiboggdhcaaGreatDoorRows
import Derived.ProofKit
import Derived.Stop.Joined
namespace Go.Proofs.YtghddiboggdhcaaGreatDoor
open Go
set_option maxRecDepth 100000
theorem head_inPlace : Tryz.prog.inPlace 3 = Rows.fnAddrWrongRow.inPlace := by kernel_rfl
end Go.Proofs.YtghddiboggdhcaaGreatDoor

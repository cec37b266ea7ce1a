/- FnAddrInfo: one closed fact of the row's head, by the kernel: head_inPlace. -/
import Derived.Test.YthpcfnegfdcbjaaGreatDoorRows
import Derived.ProofKit
import Derived.Stop.Joined
namespace Go.Proofs.YthpcfnegfdcbjaaGreatDoor
open Go
set_option maxRecDepth 100000
theorem head_inPlace : Tryz.prog.inPlace 3 = Rows.fnAddrInfoRow.inPlace := by kernel_rfl
end Go.Proofs.YthpcfnegfdcbjaaGreatDoor

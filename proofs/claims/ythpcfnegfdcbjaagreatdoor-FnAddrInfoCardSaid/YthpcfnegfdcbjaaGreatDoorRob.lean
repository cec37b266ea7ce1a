/- FnAddrInfo: one closed fact of the row's head, by the kernel: head_unfollowed. -/
import Derived.Test.YthpcfnegfdcbjaaGreatDoorRows
import Derived.ProofKit
import Derived.Stop.Joined
namespace Go.Proofs.YthpcfnegfdcbjaaGreatDoor
open Go
set_option maxRecDepth 100000
theorem head_unfollowed : Tryz.prog.unfollowed 3 = Rows.fnAddrInfoRow.unfollowed := by kernel_rfl
end Go.Proofs.YthpcfnegfdcbjaaGreatDoor

/- The tie of the three tables, and the row's. -/
import Derived.Test.YthpcfnegfdcbjaaGreatDoorRor
namespace Go.Proofs.YthpcfnegfdcbjaaGreatDoor
open Go
set_option maxRecDepth 100000
theorem ownTie : Tryz.prog.laidByTextLater tiedTabs [.data, .data, .data, .sentinel] true :=
  Program.laidByTextLater_by_one 339 8 257 (by kernel_rfl) (by kernel_rfl) (by kernel_rfl) (by kernel_rfl) (by kernel_rfl) (by kernel_rfl) ownRun
theorem ownNoUnsafe : Tryz.pinned.checked.prog.headLifts.contains "ownunsafe" = false := by kernel_rfl
theorem split_row_tie : Rows.fnAddrInfoRow.laidByTextAt .later Tryz.pinned [.data, .data, .data, .sentinel] true :=
  OpenClaim.laidByTextAt_later rfl rfl ownTie ownNoUnsafe
end Go.Proofs.YthpcfnegfdcbjaaGreatDoor

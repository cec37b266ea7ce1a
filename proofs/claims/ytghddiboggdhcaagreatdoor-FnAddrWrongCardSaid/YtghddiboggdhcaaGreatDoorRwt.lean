/- The tie of the listed variables, and the row's. -/
import Derived.Test.YtghddiboggdhcaaGreatDoorRwr
import Derived.Test.YtghddiboggdhcaaGreatDoorRwn
import Derived.Test.YtghddiboggdhcaaGreatDoorRwp
namespace Go.Proofs.YtghddiboggdhcaaGreatDoor
open Go
set_option maxRecDepth 100000
theorem ownTie : Tryz.prog.laidByTextLater tiedTabs [.sentinel, .sentinel, .sentinel, .data, .data, .data, .sentinel, .sentinel, .sentinel, .data, .sentinel, .data, .sentinel, .sentinel, .sentinel, .data, .data, .sentinel, .sentinel, .sentinel, .sentinel] true :=
  Program.laidByTextLater_by_one 400 8 257 own_hw own_hw' own_root own_kinds own_some own_named ownRun
theorem split_row_tie : Rows.fnAddrWrongRow.laidByTextAt .later Tryz.pinned [.sentinel, .sentinel, .sentinel, .data, .data, .data, .sentinel, .sentinel, .sentinel, .pinned, .data, .sentinel, .data, .sentinel, .sentinel, .sentinel, .data, .data, .sentinel, .sentinel, .sentinel, .sentinel] true :=
  OpenClaim.laidByTextAt_pinned rfl rfl ownTie rfl rfl rfl rfl (fun y hy _e => by
    simp only [Rows.fnAddrWrongRow, List.zip_cons_cons, List.zip_nil_right, List.mem_cons, List.mem_nil_iff, or_false] at hy
    rcases hy with rfl | rfl | rfl | rfl | rfl | rfl | rfl | rfl | rfl | rfl | rfl | rfl | rfl | rfl | rfl | rfl | rfl | rfl | rfl | rfl | rfl | rfl
    · cases _e
    · cases _e
    · cases _e
    · cases _e
    · cases _e
    · cases _e
    · cases _e
    · cases _e
    · cases _e
    · exact ⟨own_pin0, by kernel_rfl⟩
    · cases _e
    · cases _e
    · cases _e
    · cases _e
    · cases _e
    · cases _e
    · cases _e
    · cases _e
    · cases _e
    · cases _e
    · cases _e
    · cases _e) own_fits
end Go.Proofs.YtghddiboggdhcaaGreatDoor

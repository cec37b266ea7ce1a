/- FnAddrWrong: a world in which the listed variables hold what they are listed with. -/
import Derived.Test.YtghddiboggdhcaaGreatDoorRwl
import Derived.ProofKit
import Derived.Lay
import Derived.LaidLaws
import Derived.LaidMore
namespace Go.Proofs.YtghddiboggdhcaaGreatDoor
open Go Go.ChangeShapes Go.WideShapes Go.ChangeAt Go.WideMaps Go.WideElems Go.RowKit
noncomputable def laidWorld (os : Os) : World := World.laidAll Tryz.prog os tabsW
theorem laid_met (os : Os) (args : Array Value) : laidMetH Tryz.prog tabsW ((laidWorld os).forCall (fun _ _ => 0) ⟨#[], args, []⟩).memory := by
  rw [MakeChecks.laidMetH_plain _ _ _ (by kernel_rfl)]
  exact laidMet_laidAll _ (by kernel_rfl) (by kernel_rfl)
end Go.Proofs.YtghddiboggdhcaaGreatDoor

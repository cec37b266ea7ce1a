/- The tie's one heavy fact: the door's run lays the two tables as listed. -/
import Derived.Test.YtpddelepoaichaaGreatDoorRows
import Derived.LaidByTextLater
import Derived.SevenTiedAt
import Derived.LaidSub
import Derived.LaidOnce
namespace Go.Proofs.YtpddelepoaichaaGreatDoor
open Go
set_option maxRecDepth 100000
abbrev tiedTabs : List (String × DataW Unit) := [("math/bits.deBruijn32tab", Rows.laid_math_bits_deBruijn32tab), ("math/bits.deBruijn64tab", Rows.laid_math_bits_deBruijn64tab)]
theorem ownRun : ∀ os tape, doorLeaves Tryz.prog 320 8 257 tiedTabs os tape = some (tiedTabs.filter fun x => x.2.handleName?.isNone, (funcsListed tiedTabs).map (·.2.funcsOut)) := fun _ _ => by kernel_rfl
end Go.Proofs.YtpddelepoaichaaGreatDoor

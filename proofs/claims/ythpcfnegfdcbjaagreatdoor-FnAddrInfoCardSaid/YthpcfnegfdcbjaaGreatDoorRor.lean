/- The tie's one heavy fact: the door's run lays the three tables as listed. -/
import Derived.Test.YthpcfnegfdcbjaaGreatDoorRows
import Derived.LaidByTextLater
import Derived.SevenTiedAt
import Derived.LaidSub
import Derived.LaidOnce
namespace Go.Proofs.YthpcfnegfdcbjaaGreatDoor
open Go
set_option maxRecDepth 100000
abbrev tiedTabs : List (String × DataW Unit) := [("math/bits.deBruijn32tab", Rows.laid_math_bits_deBruijn32tab), ("math/bits.deBruijn64tab", Rows.laid_math_bits_deBruijn64tab), ("internal/strconv.uint64pow10", Rows.laid_internal_strconv_uint64pow10), ("pub-symmory/pub/libp2p/core/peer.ErrInvalidAddr", Rows.laid_pub_symmory_pub_libp2p_core_peer_ErrInvalidAddr)]
theorem ownRun : ∀ os tape, doorLeaves Tryz.prog 339 8 257 tiedTabs os tape = some (tiedTabs.filter fun x => x.2.handleName?.isNone, (funcsListed tiedTabs).map (·.2.funcsOut)) := fun _ _ => by kernel_rfl
end Go.Proofs.YthpcfnegfdcbjaaGreatDoor

/- FnAddrInfo: from the lifted contract to the row. -/
import Derived.Test.YthpcfnegfdcbjaaGreatDoorRoa
import Derived.Test.YthpcfnegfdcbjaaGreatDoorRob
import Derived.Test.YthpcfnegfdcbjaaGreatDoorRoc
import Derived.Test.YthpcfnegfdcbjaaGreatDoorRod
import Derived.ProofKit
import Derived.LaidMore
import Derived.OpenShut
import Derived.Stop.Joined
namespace Go.Proofs.YthpcfnegfdcbjaaGreatDoor
open Go Go.ChangeShapes Go.WideShapes Go.ChangeAt Go.WideMaps Go.WideElems Go.RowKit
abbrev tabsRow : List (String × DataW Unit) := [("math/bits.deBruijn32tab", Rows.laid_math_bits_deBruijn32tab), ("math/bits.deBruijn64tab", Rows.laid_math_bits_deBruijn64tab), ("internal/strconv.uint64pow10", Rows.laid_internal_strconv_uint64pow10), ("pub-symmory/pub/libp2p/core/peer.ErrInvalidAddr", Rows.laid_pub_symmory_pub_libp2p_core_peer_ErrInvalidAddr)]
theorem head_rest : joinedFacts Tryz.prog 3 Tryz.f3 Rows.fnAddrInfoSpec Rows.fnAddrInfoRow = true := by
  unfold joinedFacts
  rw [head_inPlace, head_unfollowed, head_recurses, head_named]
  kernel_rfl
theorem holds_of_lifted (h : ∀ (os : Os) (_ : os.Started) (H : Type) (enc : TypeId × Value → H),
    ReturnsInHanded {} Tryz.checked os 3 .any (fun w args => (Rows.fnAddrInfoSpec.pre enc Tryz.prog Tryz.f3 [] false w args ∧ laidMetH Tryz.prog tabsRow w) ∧ sizedMet enc Tryz.prog Tryz.f3 (OpenSpec.ofChange Rows.fnAddrInfoSpec) false w args)
      (Rows.fnAddrInfoSpec.post enc Tryz.prog Tryz.f3 false true false false)) : Rows.FnAddrInfoSaid :=
  OpenClaim.holds_of_wide 3 Tryz.f3 rfl rfl rfl rfl rfl rfl rfl ⟨rfl, rfl, rfl, rfl, rfl⟩ rfl rfl rfl rfl rfl (by kernel_rfl) Tryz.func3 head_rest
    (of_decide_eq_true (by kernel_rfl)) (by unfold Func.isWrapper; first | (rw [if_pos (by decide +kernel)]; kernel_rfl) | (rw [if_neg (by decide +kernel)]; exact ⟨rfl, rfl⟩))
    (fun os started H enc _ => h os started H enc)
#print axioms holds_of_lifted
end Go.Proofs.YthpcfnegfdcbjaaGreatDoor

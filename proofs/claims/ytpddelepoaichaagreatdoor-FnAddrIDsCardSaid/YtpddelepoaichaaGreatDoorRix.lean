/- FnAddrIDs: from the lifted contract to the row. -/
import Derived.Test.YtpddelepoaichaaGreatDoorRia
import Derived.Test.YtpddelepoaichaaGreatDoorRib
import Derived.Test.YtpddelepoaichaaGreatDoorRic
import Derived.Test.YtpddelepoaichaaGreatDoorRid
import Derived.ProofKit
import Derived.LaidMore
import Derived.OpenShut
import Derived.Stop.Joined
namespace Go.Proofs.YtpddelepoaichaaGreatDoor
open Go Go.ChangeShapes Go.WideShapes Go.ChangeAt Go.WideMaps Go.WideElems Go.RowKit
abbrev tabsRow : List (String × DataW Unit) := [("math/bits.deBruijn32tab", Rows.laid_math_bits_deBruijn32tab), ("math/bits.deBruijn64tab", Rows.laid_math_bits_deBruijn64tab)]
theorem head_rest : joinedFacts Tryz.prog 7 Tryz.f7 Rows.fnAddrIDsSpec Rows.fnAddrIDsRow = true := by
  unfold joinedFacts
  rw [head_inPlace, head_unfollowed, head_recurses, head_named]
  kernel_rfl
theorem holds_of_lifted (h : ∀ (os : Os) (_ : os.Started) (H : Type) (enc : TypeId × Value → H),
    ReturnsInHanded {} Tryz.checked os 7 .any (fun w args => (Rows.fnAddrIDsSpec.pre enc Tryz.prog Tryz.f7 [] false w args ∧ laidMetH Tryz.prog tabsRow w) ∧ sizedMet enc Tryz.prog Tryz.f7 (OpenSpec.ofChange Rows.fnAddrIDsSpec) false w args)
      (Rows.fnAddrIDsSpec.post enc Tryz.prog Tryz.f7 false true false false)) : Rows.FnAddrIDsSaid :=
  OpenClaim.holds_of_wide 7 Tryz.f7 rfl rfl rfl rfl rfl rfl rfl ⟨rfl, rfl, rfl, rfl, rfl⟩ rfl rfl rfl rfl rfl (by kernel_rfl) Tryz.func7 head_rest
    (of_decide_eq_true (by kernel_rfl)) (by unfold Func.isWrapper; first | (rw [if_pos (by decide +kernel)]; kernel_rfl) | (rw [if_neg (by decide +kernel)]; exact ⟨rfl, rfl⟩))
    (fun os started H enc _ => h os started H enc)
#print axioms holds_of_lifted
end Go.Proofs.YtpddelepoaichaaGreatDoor

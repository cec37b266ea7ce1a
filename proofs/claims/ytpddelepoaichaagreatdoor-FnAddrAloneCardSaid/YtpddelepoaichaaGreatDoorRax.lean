/- FnAddrAlone: from the lifted contract to the row. -/
import Derived.Test.YtpddelepoaichaaGreatDoorRaa
import Derived.Test.YtpddelepoaichaaGreatDoorRab
import Derived.Test.YtpddelepoaichaaGreatDoorRac
import Derived.Test.YtpddelepoaichaaGreatDoorRad
import Derived.ProofKit
import Derived.LaidMore
import Derived.OpenShut
import Derived.Stop.Joined
namespace Go.Proofs.YtpddelepoaichaaGreatDoor
open Go Go.ChangeShapes Go.WideShapes Go.ChangeAt Go.WideMaps Go.WideElems Go.RowKit
abbrev tabsRow : List (String × DataW Unit) := [("math/bits.deBruijn32tab", Rows.laid_math_bits_deBruijn32tab), ("math/bits.deBruijn64tab", Rows.laid_math_bits_deBruijn64tab)]
theorem head_rest : joinedFacts Tryz.prog 6 Tryz.f6 Rows.fnAddrAloneSpec Rows.fnAddrAloneRow = true := by
  unfold joinedFacts
  rw [head_inPlace, head_unfollowed, head_recurses, head_named]
  kernel_rfl
theorem holds_of_lifted (h : ∀ (os : Os) (_ : os.Started) (H : Type) (enc : TypeId × Value → H),
    ReturnsInHanded {} Tryz.checked os 6 .any (fun w args => (Rows.fnAddrAloneSpec.pre enc Tryz.prog Tryz.f6 [] false w args ∧ laidMetH Tryz.prog tabsRow w) ∧ sizedMet enc Tryz.prog Tryz.f6 (OpenSpec.ofChange Rows.fnAddrAloneSpec) false w args)
      (Rows.fnAddrAloneSpec.post enc Tryz.prog Tryz.f6 false true false false)) : Rows.FnAddrAloneSaid :=
  OpenClaim.holds_of_wide 6 Tryz.f6 rfl rfl rfl rfl rfl rfl rfl ⟨rfl, rfl, rfl, rfl, rfl⟩ rfl rfl rfl rfl rfl (by kernel_rfl) Tryz.func6 head_rest
    (of_decide_eq_true (by kernel_rfl)) (by unfold Func.isWrapper; first | (rw [if_pos (by decide +kernel)]; kernel_rfl) | (rw [if_neg (by decide +kernel)]; exact ⟨rfl, rfl⟩))
    (fun os started H enc _ => h os started H enc)
#print axioms holds_of_lifted
end Go.Proofs.YtpddelepoaichaaGreatDoor

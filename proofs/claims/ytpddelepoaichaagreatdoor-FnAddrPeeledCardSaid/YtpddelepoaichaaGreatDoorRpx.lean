/- FnAddrPeeled: from the lifted contract to the row. -/
import Derived.Test.YtpddelepoaichaaGreatDoorRpa
import Derived.Test.YtpddelepoaichaaGreatDoorRpb
import Derived.Test.YtpddelepoaichaaGreatDoorRpc
import Derived.Test.YtpddelepoaichaaGreatDoorRpd
import Derived.ProofKit
import Derived.Clock
import Derived.LaidMore
import Derived.OpenShut
import Derived.Stop.Joined
namespace Go.Proofs.YtpddelepoaichaaGreatDoor
open Go Go.Clock Go.ChangeShapes Go.WideShapes Go.ChangeAt Go.WideMaps Go.WideElems Go.RowKit
abbrev tabsRow : List (String × DataW Unit) := [("math/bits.deBruijn32tab", Rows.laid_math_bits_deBruijn32tab), ("math/bits.deBruijn64tab", Rows.laid_math_bits_deBruijn64tab), ("internal/strconv.uint64pow10", Rows.laid_internal_strconv_uint64pow10)]
theorem head_rest : joinedFacts Tryz.prog 5 Tryz.f5 Rows.fnAddrPeeledSpec Rows.fnAddrPeeledRow = true := by
  unfold joinedFacts
  rw [head_inPlace, head_unfollowed, head_recurses, head_named]
  kernel_rfl
theorem holds_of_lifted (h : ∀ (os : Os) (_ : os.Started) (H : Type) (enc : TypeId × Value → H) (F : Stop.Interp),
    ReturnsInHanded { calm := true } Tryz.checked os 5 .any (fun w args => (Rows.fnAddrPeeledSpec.pre enc Tryz.prog Tryz.f5 [] false w args ∧ laidMetH Tryz.prog tabsRow w) ∧ sizedMet enc Tryz.prog Tryz.f5 (OpenSpec.ofChange Rows.fnAddrPeeledSpec) false w args)
      ((OpenSpec.ofChange Rows.fnAddrPeeledSpec).postWith enc Tryz.prog Tryz.f5 F (outsideKept [.timePasses]) false true false)) : Rows.FnAddrPeeledSaid :=
  holds_of_wide_time 5 Tryz.f5 rfl rfl rfl rfl rfl rfl rfl ⟨rfl, rfl, rfl, rfl, rfl⟩ rfl rfl rfl rfl rfl (by kernel_rfl) Tryz.func5 head_rest
    (of_decide_eq_true (by kernel_rfl)) (by unfold Func.isWrapper; first | (rw [if_pos (by decide +kernel)]; kernel_rfl) | (rw [if_neg (by decide +kernel)]; exact ⟨rfl, rfl⟩))
    (fun os started H enc _ F => h os started H enc F)
#print axioms holds_of_lifted
end Go.Proofs.YtpddelepoaichaaGreatDoor

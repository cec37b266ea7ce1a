/- FnAddrWrong: from the lifted contract to the row. -/
import Derived.Test.YtghddiboggdhcaaGreatDoorRwl
import Derived.Test.YtghddiboggdhcaaGreatDoorRwa
import Derived.Test.YtghddiboggdhcaaGreatDoorRwb
import Derived.Test.YtghddiboggdhcaaGreatDoorRwc
import Derived.Test.YtghddiboggdhcaaGreatDoorRwd
import Derived.ProofKit
import Derived.LaidMore
import Derived.OpenShut
import Derived.Stop.Joined
namespace Go.Proofs.YtghddiboggdhcaaGreatDoor
open Go Go.ChangeShapes Go.WideShapes Go.ChangeAt Go.WideMaps Go.WideElems Go.RowKit
theorem head_rest : joinedFacts Tryz.prog 3 Tryz.f3 Rows.fnAddrWrongSpec Rows.fnAddrWrongRow = true := by
  unfold joinedFacts
  rw [head_inPlace, head_unfollowed, head_recurses, head_named]
  kernel_rfl
theorem holds_of_lifted (h : ∀ (os : Os) (_ : os.Started) (H : Type) (enc : TypeId × Value → H),
    ReturnsInHanded {} Tryz.checked os 3 .any (fun w args => (Rows.fnAddrWrongSpec.pre enc Tryz.prog Tryz.f3 [] false w args ∧ laidMetH Tryz.prog tabsW w) ∧ sizedMet enc Tryz.prog Tryz.f3 (OpenSpec.ofChange Rows.fnAddrWrongSpec) false w args)
      (Rows.fnAddrWrongSpec.post enc Tryz.prog Tryz.f3 false true false false)) : Rows.FnAddrWrongSaid :=
  OpenClaim.holds_of_wide 3 Tryz.f3 rfl rfl rfl rfl rfl rfl rfl ⟨rfl, rfl, rfl, rfl, rfl⟩ rfl rfl rfl rfl rfl (by kernel_rfl) Tryz.func3 head_rest
    (of_decide_eq_true (by kernel_rfl)) (by unfold Func.isWrapper; first | (rw [if_pos (by decide +kernel)]; kernel_rfl) | (rw [if_neg (by decide +kernel)]; exact ⟨rfl, rfl⟩))
    (fun os started H enc _ => h os started H enc)
#print axioms holds_of_lifted
end Go.Proofs.YtghddiboggdhcaaGreatDoor

/- FnAddrSplit: for every address (at most 20 parts, each of at most 100 bytes; others are not looked at) the split gives what is ahead of the last ID, and this ID. Condition: the three listed tables are as the program's own text lays them. -/
import Derived.Test.YtpddelepoaichaaGreatDoorPw
import Derived.Test.YtpddelepoaichaaGreatDoorPx
import Derived.Test.YtpddelepoaichaaGreatDoorPyb
import Derived.Test.YtpddelepoaichaaGreatDoorPyg
import Derived.Test.YtpddelepoaichaaGreatDoorPyf
import Derived.Test.YtpddelepoaichaaGreatDoorCards
namespace Go.Proofs.YtpddelepoaichaaGreatDoor
open Go
theorem fnAddrSplit_holds : Rows.FnAddrSplitSaid := holds_of_lifted (fun os started H enc => lifted os started H enc)
theorem fnAddrSplit_card : Rows.FnAddrSplitCardSaid :=
  Claim7.holds_tied_plain_at .later [] [.data, .data, .data] true (true, "5edc8ae0067eac2a21f4366d2c815a108f7f66c85de263e1f53552641b31a332") true
    fnAddrSplit_holds (fun _ h => by cases h) card_wf (fun _ h => by cases h) split_row_tie rfl ⟨rfl, rfl⟩ card_main rfl
    (fun f fn hf hfn => by
      obtain rfl : f = 3 := Option.some.inj ((show Tryz.prog.funcNamed "pub-symmory/laws.FnAddrSplit" = some 3 by kernel_rfl).symm.trans hf) |>.symm
      obtain rfl : fn = Tryz.f3 := (Option.some.inj (Tryz.func3.symm.trans hfn)).symm
      exact ⟨card_looks, fun j t ht => by
        rw [Tryz.params3] at ht
        have h3 : t = 22 := by
          rcases j with _ | j
          · simpa using ht.symm
          · simp at ht
        subst h3
        exact card_hop⟩)
    card_goes
#print axioms fnAddrSplit_card
end Go.Proofs.YtpddelepoaichaaGreatDoor

/- FnAddrIDs: for every list of data (at most 60, each of at most 100 bytes; others are not looked at) the IDs of their peers stand in their order. Condition: the two listed tables are as the program's own text lays them. -/
import Derived.Test.YtpddelepoaichaaGreatDoorRiw
import Derived.Test.YtpddelepoaichaaGreatDoorRix
import Derived.Test.YtpddelepoaichaaGreatDoorRit
import Derived.Test.YtpddelepoaichaaGreatDoorRik
import Derived.Test.YtpddelepoaichaaGreatDoorRig
import Derived.Test.YtpddelepoaichaaGreatDoorCards
namespace Go.Proofs.YtpddelepoaichaaGreatDoor
open Go
theorem fnAddrIDs_holds : Rows.FnAddrIDsSaid := holds_of_lifted (fun os started H enc => lifted os started H enc)
theorem fnAddrIDs_card : Rows.FnAddrIDsCardSaid :=
  Claim7.holds_tied_plain_at .later [] [.data, .data] true (true, "5edc8ae0067eac2a21f4366d2c815a108f7f66c85de263e1f53552641b31a332") true
    fnAddrIDs_holds (fun _ h => by cases h) card_wf (fun _ h => by cases h) split_row_tie rfl ⟨rfl, rfl⟩ card_main rfl
    (fun f fn hf hfn => by
      obtain rfl : f = 7 := Option.some.inj ((show Tryz.prog.funcNamed "pub-symmory/laws.FnAddrIDs" = some 7 by kernel_rfl).symm.trans hf) |>.symm
      obtain rfl : fn = Tryz.f7 := (Option.some.inj (Tryz.func7.symm.trans hfn)).symm
      exact ⟨card_looks, fun j t ht => by
        rw [Tryz.params7] at ht
        have h3 : t = 38 := by
          rcases j with _ | j
          · simpa using ht.symm
          · simp at ht
        subst h3
        exact card_hop⟩)
    card_goes
#print axioms fnAddrIDs_card
end Go.Proofs.YtpddelepoaichaaGreatDoor

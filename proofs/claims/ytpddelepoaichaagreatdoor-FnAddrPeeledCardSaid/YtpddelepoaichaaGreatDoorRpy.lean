/- FnAddrPeeled: for every address (at most 20 parts, each of at most 100 bytes; others are not looked at) the IDs at its end are taken off one by one, the last one first, until another part is the last one, or nothing is left. Condition: the three listed tables are as the program's own text lays them. -/
import Derived.Test.YtpddelepoaichaaGreatDoorRpw
import Derived.Test.YtpddelepoaichaaGreatDoorRpx
import Derived.Test.YtpddelepoaichaaGreatDoorRpt
import Derived.Test.YtpddelepoaichaaGreatDoorRpk
import Derived.Test.YtpddelepoaichaaGreatDoorRpg
import Derived.Test.YtpddelepoaichaaGreatDoorCards
namespace Go.Proofs.YtpddelepoaichaaGreatDoor
open Go
theorem fnAddrPeeled_holds : Rows.FnAddrPeeledSaid := holds_of_lifted (fun os started H enc F => lifted os started H enc F)
theorem fnAddrPeeled_card : Rows.FnAddrPeeledCardSaid :=
  Claim7.holds_tied_plain_at .later [] [.data, .data, .data] true (true, "5edc8ae0067eac2a21f4366d2c815a108f7f66c85de263e1f53552641b31a332") true
    fnAddrPeeled_holds (fun _ h => by cases h) card_wf (fun _ h => by cases h) split_row_tie rfl ⟨rfl, rfl⟩ card_main rfl
    (fun f fn hf hfn => by
      obtain rfl : f = 5 := Option.some.inj ((show Tryz.prog.funcNamed "pub-symmory/laws.FnAddrPeeled" = some 5 by kernel_rfl).symm.trans hf) |>.symm
      obtain rfl : fn = Tryz.f5 := (Option.some.inj (Tryz.func5.symm.trans hfn)).symm
      exact ⟨card_looks, fun j t ht => by
        rw [Tryz.params5] at ht
        have h3 : t = 22 := by
          rcases j with _ | j
          · simpa using ht.symm
          · simp at ht
        subst h3
        exact card_hop⟩)
    card_goes
#print axioms fnAddrPeeled_card
end Go.Proofs.YtpddelepoaichaaGreatDoor

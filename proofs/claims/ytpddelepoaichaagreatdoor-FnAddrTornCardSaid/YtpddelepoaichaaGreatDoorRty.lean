/- FnAddrTorn: for every address (at most 20 parts, each of at most 100 bytes; others are not looked at) of which the last byte is lost, the split tells that it is none, and gives nothing. Condition: the three listed tables, and the error of a number that does not end, are as the program's own text lays them. -/
import Derived.Test.YtpddelepoaichaaGreatDoorRtw
import Derived.Test.YtpddelepoaichaaGreatDoorRtx
import Derived.Test.YtpddelepoaichaaGreatDoorRtt
import Derived.Test.YtpddelepoaichaaGreatDoorRtk
import Derived.Test.YtpddelepoaichaaGreatDoorRtg
import Derived.Test.YtpddelepoaichaaGreatDoorCards
namespace Go.Proofs.YtpddelepoaichaaGreatDoor
open Go
theorem fnAddrTorn_holds : Rows.FnAddrTornSaid := holds_of_lifted (fun os started H enc => lifted os started H enc)
theorem fnAddrTorn_card : Rows.FnAddrTornCardSaid :=
  Claim7.holds_tied_plain_at .later [] [.data, .data, .data, .sentinel] true (true, "5edc8ae0067eac2a21f4366d2c815a108f7f66c85de263e1f53552641b31a332") true
    fnAddrTorn_holds (fun _ h => by cases h) card_wf (fun _ h => by cases h) split_row_tie rfl ⟨rfl, rfl⟩ card_main rfl
    (fun f fn hf hfn => by
      obtain rfl : f = 4 := Option.some.inj ((show Tryz.prog.funcNamed "pub-symmory/laws.FnAddrTorn" = some 4 by kernel_rfl).symm.trans hf) |>.symm
      obtain rfl : fn = Tryz.f4 := (Option.some.inj (Tryz.func4.symm.trans hfn)).symm
      exact ⟨card_looks, fun j t ht => by
        rw [Tryz.params4] at ht
        have h3 : t = 22 := by
          rcases j with _ | j
          · simpa using ht.symm
          · simp at ht
        subst h3
        exact card_hop⟩)
    card_goes
#print axioms fnAddrTorn_card
end Go.Proofs.YtpddelepoaichaaGreatDoor

/- FnAddrAlone: for every data (at most 100 bytes; longer ones are not looked at) the address of its ID alone has no transport, and tells a peer without addresses. Condition: the two listed tables are as the program's own text lays them. -/
import Derived.Test.YtpddelepoaichaaGreatDoorRaw
import Derived.Test.YtpddelepoaichaaGreatDoorRax
import Derived.Test.YtpddelepoaichaaGreatDoorRat
import Derived.Test.YtpddelepoaichaaGreatDoorRak
import Derived.Test.YtpddelepoaichaaGreatDoorRag
import Derived.Test.YtpddelepoaichaaGreatDoorCards
namespace Go.Proofs.YtpddelepoaichaaGreatDoor
open Go
theorem fnAddrAlone_holds : Rows.FnAddrAloneSaid := holds_of_lifted (fun os started H enc => lifted os started H enc)
theorem fnAddrAlone_card : Rows.FnAddrAloneCardSaid :=
  Claim7.holds_tied_plain_at .later [] [.data, .data] true (true, "5edc8ae0067eac2a21f4366d2c815a108f7f66c85de263e1f53552641b31a332") true
    fnAddrAlone_holds (fun _ h => by cases h) card_wf (fun _ h => by cases h) split_row_tie rfl ⟨rfl, rfl⟩ card_main rfl
    (fun f fn hf hfn => by
      obtain rfl : f = 6 := Option.some.inj ((show Tryz.prog.funcNamed "pub-symmory/laws.FnAddrAlone" = some 6 by kernel_rfl).symm.trans hf) |>.symm
      obtain rfl : fn = Tryz.f6 := (Option.some.inj (Tryz.func6.symm.trans hfn)).symm
      exact ⟨card_looks, fun j t ht => by
        rw [Tryz.params6] at ht
        have h3 : t = 26 := by
          rcases j with _ | j
          · simpa using ht.symm
          · simp at ht
        subst h3
        exact card_hop⟩)
    card_goes
#print axioms fnAddrAlone_card
end Go.Proofs.YtpddelepoaichaaGreatDoor

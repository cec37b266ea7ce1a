/- FnAddrInfo: what an address tells of a peer is the ID that stands last, and what stands ahead of it as its one address, if anything does; so it is with the text of the address. Condition: the three listed tables, and the error of an address that is none, are as the program's own text lays them. -/
import Derived.Test.YthpcfnegfdcbjaaGreatDoorRow
import Derived.Test.YthpcfnegfdcbjaaGreatDoorRox
import Derived.Test.YthpcfnegfdcbjaaGreatDoorRot
import Derived.Test.YthpcfnegfdcbjaaGreatDoorRok
import Derived.Test.YthpcfnegfdcbjaaGreatDoorRog
import Derived.Test.YthpcfnegfdcbjaaGreatDoorCards
namespace Go.Proofs.YthpcfnegfdcbjaaGreatDoor
open Go
theorem fnAddrInfo_holds : Rows.FnAddrInfoSaid := holds_of_lifted (fun os started H enc => lifted os started H enc)
theorem fnAddrInfo_card : Rows.FnAddrInfoCardSaid :=
  Claim7.holds_tied_plain_at .later [] [.data, .data, .data, .sentinel] true (true, "412b1c8060867069a66715c8f30f0ab990cc9a80aeeda7539028dbae23b6272a") true
    fnAddrInfo_holds (fun _ h => by cases h) card_wf (fun _ h => by cases h) split_row_tie rfl ⟨rfl, rfl⟩ card_main rfl
    (fun f fn hf hfn => by
      obtain rfl : f = 3 := Option.some.inj ((show Tryz.prog.funcNamed "pub-symmory/laws.FnAddrInfo" = some 3 by kernel_rfl).symm.trans hf) |>.symm
      obtain rfl : fn = Tryz.f3 := (Option.some.inj (Tryz.func3.symm.trans hfn)).symm
      exact ⟨card_looks, fun j t ht => by
        rw [Tryz.params3] at ht
        have h3 : t = 22 := by
          rcases j with _ | j
          · simpa using ht.symm
          · simp at ht
        subst h3
        exact card_hop⟩)
    card_goes
#print axioms fnAddrInfo_card
end Go.Proofs.YthpcfnegfdcbjaaGreatDoor

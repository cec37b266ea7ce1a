/- FnAddrPeerText: The ID at the end of an address is an ID by itself, whose text leads back to it. Condition: the three listed tables are as the program's own text lays them. -/
import Derived.Test.YtllofneeodnllaaGreatDoorRew
import Derived.Test.YtllofneeodnllaaGreatDoorRex
import Derived.Test.YtllofneeodnllaaGreatDoorRet
import Derived.Test.YtllofneeodnllaaGreatDoorRek
import Derived.Test.YtllofneeodnllaaGreatDoorReg
import Derived.Test.YtllofneeodnllaaGreatDoorCards
namespace Go.Proofs.YtllofneeodnllaaGreatDoor
open Go
theorem fnAddrPeerText_holds : Rows.FnAddrPeerTextSaid := holds_of_lifted (fun os started H enc => lifted os started H enc)
theorem fnAddrPeerText_card : Rows.FnAddrPeerTextCardSaid :=
  Claim7.holds_tied_plain_at .later [] [.data, .data, .data] true (true, "09ee442c42c7edc08e9f8f5e05bde36f8c4c205c385b746c74bdf15c8ed99430") true
    fnAddrPeerText_holds (fun _ h => by cases h) card_wf (fun _ h => by cases h) split_row_tie rfl ⟨rfl, rfl⟩ card_main rfl
    (fun f fn hf hfn => by
      obtain rfl : f = 3 := Option.some.inj ((show Tryz.prog.funcNamed "pub-symmory/laws.FnAddrPeerText" = some 3 by kernel_rfl).symm.trans hf) |>.symm
      obtain rfl : fn = Tryz.f3 := (Option.some.inj (Tryz.func3.symm.trans hfn)).symm
      exact ⟨card_looks, fun j t ht => by
        rw [Tryz.params3] at ht
        rcases j with _ | j
        · obtain rfl : t = 22 := by simpa using ht.symm
          exact card_hop0
        rcases j with _ | j
        · obtain rfl : t = 23 := by simpa using ht.symm
          exact card_hop1
        · simp at ht⟩)
    card_goes
#print axioms fnAddrPeerText_card
end Go.Proofs.YtllofneeodnllaaGreatDoor

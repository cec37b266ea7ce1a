/- FnAddrWrong: bytes that are no address are so for every door, and the doors agree. Condition: the listed package variables are as the program's own text lays them. -/
import Derived.Test.YtghddiboggdhcaaGreatDoorRww
import Derived.Test.YtghddiboggdhcaaGreatDoorRwx
import Derived.Test.YtghddiboggdhcaaGreatDoorRwt
import Derived.Test.YtghddiboggdhcaaGreatDoorRwk
import Derived.Test.YtghddiboggdhcaaGreatDoorRwg
import Derived.Test.YtghddiboggdhcaaGreatDoorCards
namespace Go.Proofs.YtghddiboggdhcaaGreatDoor
open Go
theorem fnAddrWrong_holds : Rows.FnAddrWrongSaid := holds_of_lifted (fun os started H enc => lifted os started H enc)
theorem fnAddrWrong_card : Rows.FnAddrWrongCardSaid :=
  Claim7.holds_tied_plain_at .later [] [.sentinel, .sentinel, .sentinel, .data, .data, .data, .sentinel, .sentinel, .sentinel, .pinned, .data, .sentinel, .data, .sentinel, .sentinel, .sentinel, .data, .data, .sentinel, .sentinel, .sentinel, .sentinel] true (true, "1e6de949154f693bbb4c7b5c27996fa170841ce44a2c6954ce7d4dcc218588f5") true
    fnAddrWrong_holds (fun _ h => by cases h) card_wf (fun _ h => by cases h) split_row_tie rfl ⟨rfl, rfl⟩ card_main rfl
    (fun f fn hf hfn => by
      obtain rfl : f = 3 := Option.some.inj ((show Tryz.prog.funcNamed "pub-symmory/laws.FnAddrWrong" = some 3 by kernel_rfl).symm.trans hf) |>.symm
      obtain rfl : fn = Tryz.f3 := (Option.some.inj (Tryz.func3.symm.trans hfn)).symm
      exact ⟨card_looks, fun j t ht => by
        rw [Tryz.params3] at ht
        have h3 : t = 22 := by
          rcases j with _ | j
          · simpa using ht.symm
          · simp at ht
        subst h3
        exact card_hop⟩)
    card_goes
#print axioms fnAddrWrong_card
end Go.Proofs.YtghddiboggdhcaaGreatDoor

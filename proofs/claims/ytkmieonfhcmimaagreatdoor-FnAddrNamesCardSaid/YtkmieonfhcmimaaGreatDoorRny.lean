/- FnAddrNames: the IDs of the peers that addresses tell are the different ones at their ends. Condition: the three listed tables, and the error of an address that is none, are as the program's own text lays them. -/
import Derived.Test.YtkmieonfhcmimaaGreatDoorRnw
import Derived.Test.YtkmieonfhcmimaaGreatDoorRnx
import Derived.Test.YtkmieonfhcmimaaGreatDoorRnt
import Derived.Test.YtkmieonfhcmimaaGreatDoorRnk
import Derived.Test.YtkmieonfhcmimaaGreatDoorRng
import Derived.Test.YtkmieonfhcmimaaGreatDoorCards
namespace Go.Proofs.YtkmieonfhcmimaaGreatDoor
open Go
theorem fnAddrNames_holds : Rows.FnAddrNamesSaid := holds_of_lifted (fun os started H enc => lifted os started H enc)
theorem fnAddrNames_card : Rows.FnAddrNamesCardSaid :=
  Claim7.holds_tied_plain_at .later [] [.data, .data, .data, .sentinel] true (true, "b740c42c78935da9b2c85157ebdca86a47c5f1b8c567fbc673b7270b77f6c88a") true
    fnAddrNames_holds (fun _ h => by cases h) card_wf (fun _ h => by cases h) split_row_tie rfl ⟨rfl, rfl⟩ card_main rfl
    (fun f fn hf hfn => by
      obtain rfl : f = 3 := Option.some.inj ((show Tryz.prog.funcNamed "pub-symmory/laws.FnAddrNames" = some 3 by kernel_rfl).symm.trans hf) |>.symm
      obtain rfl : fn = Tryz.f3 := (Option.some.inj (Tryz.func3.symm.trans hfn)).symm
      exact ⟨card_looks, fun j t ht => by
        rw [Tryz.params3] at ht
        have h3 : t = 22 := by
          rcases j with _ | j
          · simpa using ht.symm
          · simp at ht
        subst h3
        exact card_hop⟩)
    card_goes
#print axioms fnAddrNames_card
end Go.Proofs.YtkmieonfhcmimaaGreatDoor

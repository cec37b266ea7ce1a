/- FnAddrMerged: what two lists of addresses tell together is what they tell, peer by peer. Condition: the three listed tables, and the error of an address that is none, are as the program's own text lays them. -/
import Derived.Test.YtkmieonfhcmimaaGreatDoorRgw
import Derived.Test.YtkmieonfhcmimaaGreatDoorRgx
import Derived.Test.YtkmieonfhcmimaaGreatDoorRgt
import Derived.Test.YtkmieonfhcmimaaGreatDoorRgk
import Derived.Test.YtkmieonfhcmimaaGreatDoorRgg
import Derived.Test.YtkmieonfhcmimaaGreatDoorCards
namespace Go.Proofs.YtkmieonfhcmimaaGreatDoor
open Go
theorem fnAddrMerged_holds : Rows.FnAddrMergedSaid := holds_of_lifted (fun os started H enc => lifted os started H enc)
theorem fnAddrMerged_card : Rows.FnAddrMergedCardSaid :=
  Claim7.holds_tied_plain_at .later [] [.data, .data, .data, .sentinel] true (true, "b740c42c78935da9b2c85157ebdca86a47c5f1b8c567fbc673b7270b77f6c88a") true
    fnAddrMerged_holds (fun _ h => by cases h) card_wf (fun _ h => by cases h) split_row_tie rfl ⟨rfl, rfl⟩ card_main rfl
    (fun f fn hf hfn => by
      obtain rfl : f = 4 := Option.some.inj ((show Tryz.prog.funcNamed "pub-symmory/laws.FnAddrMerged" = some 4 by kernel_rfl).symm.trans hf) |>.symm
      obtain rfl : fn = Tryz.f4 := (Option.some.inj (Tryz.func4.symm.trans hfn)).symm
      exact ⟨card_looks, fun j t ht => by
        rw [Tryz.params4] at ht
        rcases j with _ | j
        · obtain rfl : t = 22 := by simpa using ht.symm
          exact card_hop0
        rcases j with _ | j
        · obtain rfl : t = 22 := by simpa using ht.symm
          exact card_hop1
        · simp at ht⟩)
    card_goes
#print axioms fnAddrMerged_card
end Go.Proofs.YtkmieonfhcmimaaGreatDoor

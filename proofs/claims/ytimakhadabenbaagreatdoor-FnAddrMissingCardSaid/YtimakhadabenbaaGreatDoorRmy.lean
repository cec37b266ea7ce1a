/- FnAddrMissing: an address without an ID among addresses: there is no answer. Condition: the three listed tables, and the error of an address that is none, are as the program's own text lays them. -/
import Derived.Test.YtimakhadabenbaaGreatDoorRmw
import Derived.Test.YtimakhadabenbaaGreatDoorRmx
import Derived.Test.YtimakhadabenbaaGreatDoorRmt
import Derived.Test.YtimakhadabenbaaGreatDoorRmk
import Derived.Test.YtimakhadabenbaaGreatDoorRmg
import Derived.Test.YtimakhadabenbaaGreatDoorCards
namespace Go.Proofs.YtimakhadabenbaaGreatDoor
open Go
theorem fnAddrMissing_holds : Rows.FnAddrMissingSaid := holds_of_lifted (fun os started H enc => lifted os started H enc)
theorem fnAddrMissing_card : Rows.FnAddrMissingCardSaid :=
  Claim7.holds_tied_plain_at .later [] [.data, .data, .data, .sentinel] true (true, "ae0945b162df59ab01fd1225363179f2affe56ab3ffecff88cb45838449e0ad7") true
    fnAddrMissing_holds (fun _ h => by cases h) card_wf (fun _ h => by cases h) split_row_tie rfl ⟨rfl, rfl⟩ card_main rfl
    (fun f fn hf hfn => by
      obtain rfl : f = 3 := Option.some.inj ((show Tryz.prog.funcNamed "pub-symmory/laws.FnAddrMissing" = some 3 by kernel_rfl).symm.trans hf) |>.symm
      obtain rfl : fn = Tryz.f3 := (Option.some.inj (Tryz.func3.symm.trans hfn)).symm
      exact ⟨card_looks, fun j t ht => by
        rw [Tryz.params3] at ht
        rcases j with _ | j
        · obtain rfl : t = 22 := by simpa using ht.symm
          exact card_hop0
        rcases j with _ | j
        · obtain rfl : t = 23 := by simpa using ht.symm
          exact card_hop1
        rcases j with _ | j
        · obtain rfl : t = 5 := by simpa using ht.symm
          exact card_hop2
        · simp at ht⟩)
    card_goes
#print axioms fnAddrMissing_card
end Go.Proofs.YtimakhadabenbaaGreatDoor

/- FnAddrBytes: the addresses of a peer have its ID behind them, in their order; a peer without addresses has the one of its ID alone. Condition: the three listed tables are as the program's own text lays them. -/
import Derived.Test.YtllofneeodnllaaGreatDoorRbw
import Derived.Test.YtllofneeodnllaaGreatDoorRbx
import Derived.Test.YtllofneeodnllaaGreatDoorRbt
import Derived.Test.YtllofneeodnllaaGreatDoorRbk
import Derived.Test.YtllofneeodnllaaGreatDoorRbg
import Derived.Test.YtllofneeodnllaaGreatDoorCards
namespace Go.Proofs.YtllofneeodnllaaGreatDoor
open Go
theorem fnAddrBytes_holds : Rows.FnAddrBytesSaid := holds_of_lifted (fun os started H enc => lifted os started H enc)
theorem fnAddrBytes_card : Rows.FnAddrBytesCardSaid :=
  Claim7.holds_tied_plain_at .later [] [.data, .data, .data] true (true, "09ee442c42c7edc08e9f8f5e05bde36f8c4c205c385b746c74bdf15c8ed99430") true
    fnAddrBytes_holds (fun _ h => by cases h) card_wf (fun _ h => by cases h) split_row_tie rfl ⟨rfl, rfl⟩ card_main rfl
    (fun f fn hf hfn => by
      obtain rfl : f = 4 := Option.some.inj ((show Tryz.prog.funcNamed "pub-symmory/laws.FnAddrBytes" = some 4 by kernel_rfl).symm.trans hf) |>.symm
      obtain rfl : fn = Tryz.f4 := (Option.some.inj (Tryz.func4.symm.trans hfn)).symm
      exact ⟨card_looks, fun j t ht => by
        rw [Tryz.params4] at ht
        rcases j with _ | j
        · obtain rfl : t = 23 := by simpa using ht.symm
          exact card_hop0
        rcases j with _ | j
        · obtain rfl : t = 38 := by simpa using ht.symm
          exact card_hop1
        · simp at ht⟩)
    card_goes
#print axioms fnAddrBytes_card
end Go.Proofs.YtllofneeodnllaaGreatDoor

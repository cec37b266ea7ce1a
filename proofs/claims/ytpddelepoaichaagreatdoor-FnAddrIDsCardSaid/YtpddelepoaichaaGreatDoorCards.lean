/-
  DERIVED. GIVEN WITH THE SEED: THE CARDS: each row of YtpddelepoaichaaGreatDoorRows.lean that lists a variable, with what it lists TIED to the program's text (the seventh form; the later family's looks); each row that meets fmt, with fmt's text TOLD by the authors' own Lean function (tested against real Go, not proved from fmt's source: count such statements apart). THE CARD IS WHAT COUNTS. Prove the row's statement (the work); the ties are given (YtpddelepoaichaaGreatDoorTie.lean); close each card by the builder's one call (the guide's Derived/Test/ToyasCard.lean, 'card_holds'). Laid BY PROGRAM, IN A SANDBOX (cutbox-door.mjs). By AI agents, Wed Nov 11 2026. No macro, syntax, notation, axiom, sorry.
-/
import Derived.Test.YtpddelepoaichaaGreatDoorRows
import GoSem.ClaimSeven
namespace Go.Proofs.YtpddelepoaichaaGreatDoor
namespace Rows

/-- THE TIED CARD OF 'laws.FnAddrSplit'. -/
def fnAddrSplitCard : Claim7 := { stood := { row := fnAddrSplitRow, standIns := [], harness := (true, "5edc8ae0067eac2a21f4366d2c815a108f7f66c85de263e1f53552641b31a332"), looks := true }, kinds := [], alts := [], laidByText := true, laidKinds := [.data, .data, .data], laidTests := true, laidLooks := .later }
def FnAddrSplitCardSaid : Prop := Claim7.holds Tryz.pinned (.plain (OpenSpec.ofChange fnAddrSplitSpec)) fnAddrSplitCard

/-- THE TIED CARD OF 'laws.FnAddrTorn'. -/
def fnAddrTornCard : Claim7 := { stood := { row := fnAddrTornRow, standIns := [], harness := (true, "5edc8ae0067eac2a21f4366d2c815a108f7f66c85de263e1f53552641b31a332"), looks := true }, kinds := [], alts := [], laidByText := true, laidKinds := [.data, .data, .data, .sentinel], laidTests := true, laidLooks := .later }
def FnAddrTornCardSaid : Prop := Claim7.holds Tryz.pinned (.plain (OpenSpec.ofChange fnAddrTornSpec)) fnAddrTornCard

/-- THE TIED CARD OF 'laws.FnAddrPeeled'. -/
def fnAddrPeeledCard : Claim7 := { stood := { row := fnAddrPeeledRow, standIns := [], harness := (true, "5edc8ae0067eac2a21f4366d2c815a108f7f66c85de263e1f53552641b31a332"), looks := true }, kinds := [], alts := [], laidByText := true, laidKinds := [.data, .data, .data], laidTests := true, laidLooks := .later }
def FnAddrPeeledCardSaid : Prop := Claim7.holds Tryz.pinned (.plain (OpenSpec.ofChange fnAddrPeeledSpec)) fnAddrPeeledCard

/-- THE TIED CARD OF 'laws.FnAddrAlone'. -/
def fnAddrAloneCard : Claim7 := { stood := { row := fnAddrAloneRow, standIns := [], harness := (true, "5edc8ae0067eac2a21f4366d2c815a108f7f66c85de263e1f53552641b31a332"), looks := true }, kinds := [], alts := [], laidByText := true, laidKinds := [.data, .data], laidTests := true, laidLooks := .later }
def FnAddrAloneCardSaid : Prop := Claim7.holds Tryz.pinned (.plain (OpenSpec.ofChange fnAddrAloneSpec)) fnAddrAloneCard

/-- THE TIED CARD OF 'laws.FnAddrIDs'. -/
def fnAddrIDsCard : Claim7 := { stood := { row := fnAddrIDsRow, standIns := [], harness := (true, "5edc8ae0067eac2a21f4366d2c815a108f7f66c85de263e1f53552641b31a332"), looks := true }, kinds := [], alts := [], laidByText := true, laidKinds := [.data, .data], laidTests := true, laidLooks := .later }
def FnAddrIDsCardSaid : Prop := Claim7.holds Tryz.pinned (.plain (OpenSpec.ofChange fnAddrIDsSpec)) fnAddrIDsCard

/-- THE SECOND FORM's CARD OF 'laws.FnAddrSplit'. -/
def fnAddrSplitUptoCard : Claim7 := { stood := { row := fnAddrSplitUptoRow, standIns := [], harness := (true, "5edc8ae0067eac2a21f4366d2c815a108f7f66c85de263e1f53552641b31a332"), looks := true }, kinds := [], alts := [], laidByText := true, laidKinds := [.data, .data, .data], laidTests := true, laidLooks := .later }
def FnAddrSplitUptoCardSaid : Prop := Claim7.holds Tryz.pinned (.plain (OpenSpec.upto fnAddrSplitSpec)) fnAddrSplitUptoCard

/-- THE SECOND FORM's CARD OF 'laws.FnAddrTorn'. -/
def fnAddrTornUptoCard : Claim7 := { stood := { row := fnAddrTornUptoRow, standIns := [], harness := (true, "5edc8ae0067eac2a21f4366d2c815a108f7f66c85de263e1f53552641b31a332"), looks := true }, kinds := [], alts := [], laidByText := true, laidKinds := [.data, .data, .data, .sentinel], laidTests := true, laidLooks := .later }
def FnAddrTornUptoCardSaid : Prop := Claim7.holds Tryz.pinned (.plain (OpenSpec.upto fnAddrTornSpec)) fnAddrTornUptoCard

/-- THE SECOND FORM's CARD OF 'laws.FnAddrAlone'. -/
def fnAddrAloneUptoCard : Claim7 := { stood := { row := fnAddrAloneUptoRow, standIns := [], harness := (true, "5edc8ae0067eac2a21f4366d2c815a108f7f66c85de263e1f53552641b31a332"), looks := true }, kinds := [], alts := [], laidByText := true, laidKinds := [.data, .data], laidTests := true, laidLooks := .later }
def FnAddrAloneUptoCardSaid : Prop := Claim7.holds Tryz.pinned (.plain (OpenSpec.upto fnAddrAloneSpec)) fnAddrAloneUptoCard

/-- THE SECOND FORM's CARD OF 'laws.FnAddrIDs'. -/
def fnAddrIDsUptoCard : Claim7 := { stood := { row := fnAddrIDsUptoRow, standIns := [], harness := (true, "5edc8ae0067eac2a21f4366d2c815a108f7f66c85de263e1f53552641b31a332"), looks := true }, kinds := [], alts := [], laidByText := true, laidKinds := [.data, .data], laidTests := true, laidLooks := .later }
def FnAddrIDsUptoCardSaid : Prop := Claim7.holds Tryz.pinned (.plain (OpenSpec.upto fnAddrIDsSpec)) fnAddrIDsUptoCard
end Rows
end Go.Proofs.YtpddelepoaichaaGreatDoor

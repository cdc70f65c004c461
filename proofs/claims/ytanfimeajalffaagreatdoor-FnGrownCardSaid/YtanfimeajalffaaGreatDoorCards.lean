/-
  DERIVED. GIVEN WITH THE SEED: THE CARDS: each row of YtanfimeajalffaaGreatDoorRows.lean that lists a variable, with what it lists TIED to the program's text (the seventh form; the later family's looks); each row that meets fmt, with fmt's text TOLD by the authors' own Lean function (tested against real Go, not proved from fmt's source: count such statements apart). THE CARD IS WHAT COUNTS. Prove the row's statement (the work); the ties are given (YtanfimeajalffaaGreatDoorTie.lean); close each card by the builder's one call (the guide's Derived/Test/ToyasCard.lean, 'card_holds'). Laid BY PROGRAM, IN A SANDBOX (cutbox-door.mjs). By AI agents, Wed Nov 11 2026. No macro, syntax, notation, axiom, sorry.
-/
import Derived.Test.YtanfimeajalffaaGreatDoorRows
import GoSem.ClaimSeven
namespace Go.Proofs.YtanfimeajalffaaGreatDoor
namespace Rows

/-- THE TIED CARD OF 'laws.FnBack'. -/
def fnBackCard : Claim7 := { stood := { row := fnBackRow, standIns := [], harness := (true, "02c18adab922727b679c9479b37917122c1f988aa11e798451e8b35383c8a2da"), looks := true }, kinds := [], alts := [], laidByText := true, laidKinds := [.sentinel], laidTests := true, laidLooks := .later }
def FnBackCardSaid : Prop := Claim7.holds Tryz.pinned (.plain (OpenSpec.ofChange fnBackSpec)) fnBackCard

/-- THE TIED CARD OF 'laws.FnFind'. -/
def fnFindCard : Claim7 := { stood := { row := fnFindRow, standIns := [], harness := (true, "02c18adab922727b679c9479b37917122c1f988aa11e798451e8b35383c8a2da"), looks := true }, kinds := [], alts := [], laidByText := true, laidKinds := [.sentinel, .sentinel], laidTests := true, laidLooks := .later }
def FnFindCardSaid : Prop := Claim7.holds Tryz.pinned (.plain (OpenSpec.ofChange fnFindSpec)) fnFindCard

/-- THE TIED CARD OF 'laws.FnGrown'. -/
def fnGrownCard : Claim7 := { stood := { row := fnGrownRow, standIns := [], harness := (true, "02c18adab922727b679c9479b37917122c1f988aa11e798451e8b35383c8a2da"), looks := true }, kinds := [], alts := [], laidByText := true, laidKinds := [.sentinel, .sentinel], laidTests := true, laidLooks := .later }
def FnGrownCardSaid : Prop := Claim7.holds Tryz.pinned (.plain (OpenSpec.ofChange fnGrownSpec)) fnGrownCard

/-- THE TIED CARD OF 'laws.FnFindAll'. -/
def fnFindAllCard : Claim7 := { stood := { row := fnFindAllRow, standIns := [], harness := (true, "02c18adab922727b679c9479b37917122c1f988aa11e798451e8b35383c8a2da"), looks := true }, kinds := [], alts := [], laidByText := true, laidKinds := [.sentinel, .sentinel], laidTests := true, laidLooks := .later }
def FnFindAllCardSaid : Prop := Claim7.holds Tryz.pinned (.plain (OpenSpec.ofChange fnFindAllSpec)) fnFindAllCard

/-- THE SECOND FORM's CARD OF 'laws.FnBack'. -/
def fnBackUptoCard : Claim7 := { stood := { row := fnBackUptoRow, standIns := [], harness := (true, "02c18adab922727b679c9479b37917122c1f988aa11e798451e8b35383c8a2da"), looks := true }, kinds := [], alts := [], laidByText := true, laidKinds := [.sentinel], laidTests := true, laidLooks := .later }
def FnBackUptoCardSaid : Prop := Claim7.holds Tryz.pinned (.plain (OpenSpec.upto fnBackSpec)) fnBackUptoCard

/-- THE SECOND FORM's CARD OF 'laws.FnFind'. -/
def fnFindUptoCard : Claim7 := { stood := { row := fnFindUptoRow, standIns := [], harness := (true, "02c18adab922727b679c9479b37917122c1f988aa11e798451e8b35383c8a2da"), looks := true }, kinds := [], alts := [], laidByText := true, laidKinds := [.sentinel, .sentinel], laidTests := true, laidLooks := .later }
def FnFindUptoCardSaid : Prop := Claim7.holds Tryz.pinned (.plain (OpenSpec.upto fnFindSpec)) fnFindUptoCard

/-- THE SECOND FORM's CARD OF 'laws.FnGrown'. -/
def fnGrownUptoCard : Claim7 := { stood := { row := fnGrownUptoRow, standIns := [], harness := (true, "02c18adab922727b679c9479b37917122c1f988aa11e798451e8b35383c8a2da"), looks := true }, kinds := [], alts := [], laidByText := true, laidKinds := [.sentinel, .sentinel], laidTests := true, laidLooks := .later }
def FnGrownUptoCardSaid : Prop := Claim7.holds Tryz.pinned (.plain (OpenSpec.upto fnGrownSpec)) fnGrownUptoCard

/-- THE SECOND FORM's CARD OF 'laws.FnFindAll'. -/
def fnFindAllUptoCard : Claim7 := { stood := { row := fnFindAllUptoRow, standIns := [], harness := (true, "02c18adab922727b679c9479b37917122c1f988aa11e798451e8b35383c8a2da"), looks := true }, kinds := [], alts := [], laidByText := true, laidKinds := [.sentinel, .sentinel], laidTests := true, laidLooks := .later }
def FnFindAllUptoCardSaid : Prop := Claim7.holds Tryz.pinned (.plain (OpenSpec.upto fnFindAllSpec)) fnFindAllUptoCard
end Rows
end Go.Proofs.YtanfimeajalffaaGreatDoor

/-
  DERIVED. GIVEN WITH THE SEED: THE CARDS: each row of YtanfimeajalffaaDoorRows.lean that lists a variable, with what it lists TIED to the program's text (the seventh form; the later family's looks); each row that meets fmt, with fmt's text TOLD by the authors' own Lean function (tested against real Go, not proved from fmt's source: count such statements apart). THE CARD IS WHAT COUNTS. Prove the row's statement (the work); the ties are given (YtanfimeajalffaaDoorTie.lean); close each card by the builder's one call (the guide's Derived/Test/ToyasCard.lean, 'card_holds'). Laid BY PROGRAM, IN A SANDBOX (cutbox-door.mjs). By AI agents, Wed Nov 11 2026. No macro, syntax, notation, axiom, sorry.
-/
import Derived.Test.YtanfimeajalffaaDoorRows
import GoSem.ClaimSeven
namespace Go.Proofs.YtanfimeajalffaaDoor
namespace Rows

/-- THE TIED CARD OF 'laws.FnDirs'. -/
def fnDirsCard : Claim7 := { stood := { row := fnDirsRow, standIns := [], harness := (true, "674cf7953d339576f719cad41a02ed5580ed67cb276810968d23d6cfd3311900"), looks := true }, kinds := [], alts := [], laidByText := true, laidKinds := [.sentinel], laidTests := true, laidLooks := .later }
def FnDirsCardSaid : Prop := Claim7.holds Tryd.pinned (.plain (OpenSpec.ofChange fnDirsSpec)) fnDirsCard

/-- THE TIED CARD OF 'laws.FnAgain'. -/
def fnAgainCard : Claim7 := { stood := { row := fnAgainRow, standIns := [], harness := (true, "674cf7953d339576f719cad41a02ed5580ed67cb276810968d23d6cfd3311900"), looks := true }, kinds := [], alts := [], laidByText := true, laidKinds := [.sentinel], laidTests := true, laidLooks := .later }
def FnAgainCardSaid : Prop := Claim7.holds Tryd.pinned (.plain (OpenSpec.ofChange fnAgainSpec)) fnAgainCard

/-- THE TIED CARD OF 'laws.FnCut'. -/
def fnCutCard : Claim7 := { stood := { row := fnCutRow, standIns := [], harness := (true, "674cf7953d339576f719cad41a02ed5580ed67cb276810968d23d6cfd3311900"), looks := true }, kinds := [], alts := [], laidByText := true, laidKinds := [.sentinel], laidTests := true, laidLooks := .later }
def FnCutCardSaid : Prop := Claim7.holds Tryd.pinned (.plain (OpenSpec.ofChange fnCutSpec)) fnCutCard

/-- THE TIED CARD OF 'laws.FnHead'. -/
def fnHeadCard : Claim7 := { stood := { row := fnHeadRow, standIns := [], harness := (true, "674cf7953d339576f719cad41a02ed5580ed67cb276810968d23d6cfd3311900"), looks := true }, kinds := [], alts := [], laidByText := true, laidKinds := [.sentinel], laidTests := true, laidLooks := .later }
def FnHeadCardSaid : Prop := Claim7.holds Tryd.pinned (.plain (OpenSpec.ofChange fnHeadSpec)) fnHeadCard

/-- THE SECOND FORM's CARD OF 'laws.FnDirs'. -/
def fnDirsUptoCard : Claim7 := { stood := { row := fnDirsUptoRow, standIns := [], harness := (true, "674cf7953d339576f719cad41a02ed5580ed67cb276810968d23d6cfd3311900"), looks := true }, kinds := [], alts := [], laidByText := true, laidKinds := [.sentinel], laidTests := true, laidLooks := .later }
def FnDirsUptoCardSaid : Prop := Claim7.holds Tryd.pinned (.plain (OpenSpec.upto fnDirsSpec)) fnDirsUptoCard

/-- THE SECOND FORM's CARD OF 'laws.FnAgain'. -/
def fnAgainUptoCard : Claim7 := { stood := { row := fnAgainUptoRow, standIns := [], harness := (true, "674cf7953d339576f719cad41a02ed5580ed67cb276810968d23d6cfd3311900"), looks := true }, kinds := [], alts := [], laidByText := true, laidKinds := [.sentinel], laidTests := true, laidLooks := .later }
def FnAgainUptoCardSaid : Prop := Claim7.holds Tryd.pinned (.plain (OpenSpec.upto fnAgainSpec)) fnAgainUptoCard

/-- THE SECOND FORM's CARD OF 'laws.FnCut'. -/
def fnCutUptoCard : Claim7 := { stood := { row := fnCutUptoRow, standIns := [], harness := (true, "674cf7953d339576f719cad41a02ed5580ed67cb276810968d23d6cfd3311900"), looks := true }, kinds := [], alts := [], laidByText := true, laidKinds := [.sentinel], laidTests := true, laidLooks := .later }
def FnCutUptoCardSaid : Prop := Claim7.holds Tryd.pinned (.plain (OpenSpec.upto fnCutSpec)) fnCutUptoCard

/-- THE SECOND FORM's CARD OF 'laws.FnHead'. -/
def fnHeadUptoCard : Claim7 := { stood := { row := fnHeadUptoRow, standIns := [], harness := (true, "674cf7953d339576f719cad41a02ed5580ed67cb276810968d23d6cfd3311900"), looks := true }, kinds := [], alts := [], laidByText := true, laidKinds := [.sentinel], laidTests := true, laidLooks := .later }
def FnHeadUptoCardSaid : Prop := Claim7.holds Tryd.pinned (.plain (OpenSpec.upto fnHeadSpec)) fnHeadUptoCard
end Rows
end Go.Proofs.YtanfimeajalffaaDoor

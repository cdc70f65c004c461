/-
  DERIVED. GIVEN WITH THE SEED: THE CARDS: each row of YtopajiokchpgbaaDoorRows.lean that lists a variable, with what it lists TIED to the program's text (the seventh form; the later family's looks); each row that meets fmt, with fmt's text TOLD by the authors' own Lean function (tested against real Go, not proved from fmt's source: count such statements apart). THE CARD IS WHAT COUNTS. Prove the row's statement (the work); the ties are given (YtopajiokchpgbaaDoorTie.lean); close each card by the builder's one call (the guide's Derived/Test/ToyasCard.lean, 'card_holds'). Laid BY PROGRAM, IN A SANDBOX (cutbox-door.mjs). By AI agents, Wed Nov 11 2026. No macro, syntax, notation, axiom, sorry.
-/
import Derived.Test.YtopajiokchpgbaaDoorRows
import GoSem.ClaimSeven
namespace Go.Proofs.YtopajiokchpgbaaDoor
namespace Rows

/-- THE TIED CARD OF 'laws.FnIntAt'. -/
def fnIntAtCard : Claim7 := { stood := { row := fnIntAtRow, standIns := [], harness := (true, "f5df2392684864b028bbac5038ef13c7e25af0807a5849eff9d9bc628ba26a46"), looks := true }, kinds := [], alts := [], laidByText := true, laidKinds := [.sentinel], laidTests := true, laidLooks := .later }
def FnIntAtCardSaid : Prop := Claim7.holds Tryd.pinned (.plain (OpenSpec.ofChange fnIntAtSpec)) fnIntAtCard

/-- THE TIED CARD OF 'laws.FnIntOut'. -/
def fnIntOutCard : Claim7 := { stood := { row := fnIntOutRow, standIns := [], harness := (true, "f5df2392684864b028bbac5038ef13c7e25af0807a5849eff9d9bc628ba26a46"), looks := true }, kinds := [], alts := [], laidByText := true, laidKinds := [.sentinel], laidTests := true, laidLooks := .later }
def FnIntOutCardSaid : Prop := Claim7.holds Tryd.pinned (.plain (OpenSpec.ofChange fnIntOutSpec)) fnIntOutCard

/-- THE TIED CARD OF 'laws.FnStringAt'. -/
def fnStringAtCard : Claim7 := { stood := { row := fnStringAtRow, standIns := [], harness := (true, "f5df2392684864b028bbac5038ef13c7e25af0807a5849eff9d9bc628ba26a46"), looks := true }, kinds := [], alts := [], laidByText := true, laidKinds := [.sentinel], laidTests := true, laidLooks := .later }
def FnStringAtCardSaid : Prop := Claim7.holds Tryd.pinned (.plain (OpenSpec.ofChange fnStringAtSpec)) fnStringAtCard

/-- THE TIED CARD OF 'laws.FnStringOut'. -/
def fnStringOutCard : Claim7 := { stood := { row := fnStringOutRow, standIns := [], harness := (true, "f5df2392684864b028bbac5038ef13c7e25af0807a5849eff9d9bc628ba26a46"), looks := true }, kinds := [], alts := [], laidByText := true, laidKinds := [.sentinel], laidTests := true, laidLooks := .later }
def FnStringOutCardSaid : Prop := Claim7.holds Tryd.pinned (.plain (OpenSpec.ofChange fnStringOutSpec)) fnStringOutCard

/-- THE SECOND FORM's CARD OF 'laws.FnIntAt'. -/
def fnIntAtUptoCard : Claim7 := { stood := { row := fnIntAtUptoRow, standIns := [], harness := (true, "f5df2392684864b028bbac5038ef13c7e25af0807a5849eff9d9bc628ba26a46"), looks := true }, kinds := [], alts := [], laidByText := true, laidKinds := [.sentinel], laidTests := true, laidLooks := .later }
def FnIntAtUptoCardSaid : Prop := Claim7.holds Tryd.pinned (.plain (OpenSpec.upto fnIntAtSpec)) fnIntAtUptoCard

/-- THE SECOND FORM's CARD OF 'laws.FnIntOut'. -/
def fnIntOutUptoCard : Claim7 := { stood := { row := fnIntOutUptoRow, standIns := [], harness := (true, "f5df2392684864b028bbac5038ef13c7e25af0807a5849eff9d9bc628ba26a46"), looks := true }, kinds := [], alts := [], laidByText := true, laidKinds := [.sentinel], laidTests := true, laidLooks := .later }
def FnIntOutUptoCardSaid : Prop := Claim7.holds Tryd.pinned (.plain (OpenSpec.upto fnIntOutSpec)) fnIntOutUptoCard

/-- THE SECOND FORM's CARD OF 'laws.FnStringAt'. -/
def fnStringAtUptoCard : Claim7 := { stood := { row := fnStringAtUptoRow, standIns := [], harness := (true, "f5df2392684864b028bbac5038ef13c7e25af0807a5849eff9d9bc628ba26a46"), looks := true }, kinds := [], alts := [], laidByText := true, laidKinds := [.sentinel], laidTests := true, laidLooks := .later }
def FnStringAtUptoCardSaid : Prop := Claim7.holds Tryd.pinned (.plain (OpenSpec.upto fnStringAtSpec)) fnStringAtUptoCard

/-- THE SECOND FORM's CARD OF 'laws.FnStringOut'. -/
def fnStringOutUptoCard : Claim7 := { stood := { row := fnStringOutUptoRow, standIns := [], harness := (true, "f5df2392684864b028bbac5038ef13c7e25af0807a5849eff9d9bc628ba26a46"), looks := true }, kinds := [], alts := [], laidByText := true, laidKinds := [.sentinel], laidTests := true, laidLooks := .later }
def FnStringOutUptoCardSaid : Prop := Claim7.holds Tryd.pinned (.plain (OpenSpec.upto fnStringOutSpec)) fnStringOutUptoCard
end Rows
end Go.Proofs.YtopajiokchpgbaaDoor

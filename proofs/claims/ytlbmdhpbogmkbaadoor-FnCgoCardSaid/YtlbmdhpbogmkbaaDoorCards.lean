/-
  DERIVED. GIVEN WITH THE SEED: THE CARDS: each row of YtlbmdhpbogmkbaaDoorRows.lean that lists a variable, with what it lists TIED to the program's text (the seventh form; the later family's looks); each row that meets fmt, with fmt's text TOLD by the authors' own Lean function (tested against real Go, not proved from fmt's source: count such statements apart). THE CARD IS WHAT COUNTS. Prove the row's statement (the work); the ties are given (YtlbmdhpbogmkbaaDoorTie.lean); close each card by the builder's one call (the guide's Derived/Test/ToyasCard.lean, 'card_holds'). Laid BY PROGRAM, IN A SANDBOX (cutbox-door.mjs). By AI agents, Wed Nov 11 2026. No macro, syntax, notation, axiom, sorry.
-/
import Derived.Test.YtlbmdhpbogmkbaaDoorRows
import GoSem.ClaimSeven
namespace Go.Proofs.YtlbmdhpbogmkbaaDoor
namespace Rows

/-- THE TIED CARD OF 'laws.FnCgo'. -/
def fnCgoCard : Claim7 := { stood := { row := fnCgoRow, standIns := [], harness := (true, "11b4fcdbcecc4758b6fa26ae33855175684c34ad14311eb49986160b07a65f3b"), looks := false }, kinds := [], alts := [], laidByText := true, laidKinds := [.data, .listed, .data, .pinned], laidTests := true, laidLooks := .later }
def FnCgoCardSaid : Prop := Claim7.holds Tryd.pinned (.plain (OpenSpec.ofChange fnCgoSpec)) fnCgoCard

/-- THE TIED CARD OF 'laws.FnCgoJoined'. -/
def fnCgoJoinedCard : Claim7 := { stood := { row := fnCgoJoinedRow, standIns := [], harness := (true, "11b4fcdbcecc4758b6fa26ae33855175684c34ad14311eb49986160b07a65f3b"), looks := false }, kinds := [], alts := [], laidByText := true, laidKinds := [.data, .listed, .data, .pinned], laidTests := true, laidLooks := .later }
def FnCgoJoinedCardSaid : Prop := Claim7.holds Tryd.pinned (.plain (OpenSpec.ofChange fnCgoJoinedSpec)) fnCgoJoinedCard

/-- THE TIED CARD OF 'laws.FnCgoOne'. -/
def fnCgoOneCard : Claim7 := { stood := { row := fnCgoOneRow, standIns := [], harness := (true, "11b4fcdbcecc4758b6fa26ae33855175684c34ad14311eb49986160b07a65f3b"), looks := false }, kinds := [], alts := [], laidByText := true, laidKinds := [.data, .listed, .data, .pinned], laidTests := true, laidLooks := .later }
def FnCgoOneCardSaid : Prop := Claim7.holds Tryd.pinned (.plain (OpenSpec.ofChange fnCgoOneSpec)) fnCgoOneCard

/-- THE SECOND FORM's CARD OF 'laws.FnCgo'. -/
def fnCgoUptoCard : Claim7 := { stood := { row := fnCgoUptoRow, standIns := [], harness := (true, "11b4fcdbcecc4758b6fa26ae33855175684c34ad14311eb49986160b07a65f3b"), looks := false }, kinds := [], alts := [], laidByText := true, laidKinds := [.data, .listed, .data, .pinned], laidTests := true, laidLooks := .later }
def FnCgoUptoCardSaid : Prop := Claim7.holds Tryd.pinned (.plain (OpenSpec.upto fnCgoSpec)) fnCgoUptoCard

/-- THE SECOND FORM's CARD OF 'laws.FnCgoJoined'. -/
def fnCgoJoinedUptoCard : Claim7 := { stood := { row := fnCgoJoinedUptoRow, standIns := [], harness := (true, "11b4fcdbcecc4758b6fa26ae33855175684c34ad14311eb49986160b07a65f3b"), looks := false }, kinds := [], alts := [], laidByText := true, laidKinds := [.data, .listed, .data, .pinned], laidTests := true, laidLooks := .later }
def FnCgoJoinedUptoCardSaid : Prop := Claim7.holds Tryd.pinned (.plain (OpenSpec.upto fnCgoJoinedSpec)) fnCgoJoinedUptoCard

/-- THE SECOND FORM's CARD OF 'laws.FnCgoOne'. -/
def fnCgoOneUptoCard : Claim7 := { stood := { row := fnCgoOneUptoRow, standIns := [], harness := (true, "11b4fcdbcecc4758b6fa26ae33855175684c34ad14311eb49986160b07a65f3b"), looks := false }, kinds := [], alts := [], laidByText := true, laidKinds := [.data, .listed, .data, .pinned], laidTests := true, laidLooks := .later }
def FnCgoOneUptoCardSaid : Prop := Claim7.holds Tryd.pinned (.plain (OpenSpec.upto fnCgoOneSpec)) fnCgoOneUptoCard
end Rows
end Go.Proofs.YtlbmdhpbogmkbaaDoor

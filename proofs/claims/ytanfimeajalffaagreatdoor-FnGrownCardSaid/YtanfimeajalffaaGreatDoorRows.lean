/-
  NARROWER THAN 'FOR EVERY INPUT', by the rows' own cells (each row's printed sentence says how): FnBack: ifaces, laid · FnFind: ifaces, laid · FnGrown: ifaces, laid · FnFindAll: ifaces, laid.
  DERIVED. THE GIVEN ROWS OF THIS SEAT. 4 by the template 'for every input the law returns true; each argument reads behind the call as it read before'; 0 by the template 'total and deterministic' (their statements: YtanfimeajalffaaGreatDoorTotals.lean).
  GIVEN WITH THE SEED: the statements are not yours to turn. If you find one false, say at which input.
  Laid BY PROGRAM, IN A SANDBOX (cutbox-rows.mjs): the forced cells as the released guide's own fill.sh prints them over the translation 4e591eba19ce9f1a… (all of the seat's roots in one cut). By AI agents, Wed Nov 11 2026. No macro, syntax, notation, axiom, sorry.
-/
import Derived.Test.YtanfimeajalffaaGreatDoorChecked
import GoSem.Claim
import GoSem.ClaimJoined
import GoSem.ClaimMapViews
import Derived.JoinedTies
import Derived.KernelRfl
namespace Go.Proofs.YtanfimeajalffaaGreatDoor
/- THE CELL 'sum', in the pinned program and in every row, IS THE sha256 OF THE DUMP (.gsa) THAT YtanfimeajalffaaGreatDoorProg.lean LOADS. Nothing in Lean hashes anything: it is a label: what it is worth is what the hold of that sum in a sandbox is worth. -/
noncomputable def Tryz.pinned : Pinned := { name := "ytanfimeajalffaagreatdoor", sum := "4e591eba19ce9f1a46b4c5f3bbc52a6480df08250c12cc76d7f0113e05966dbd", checked := Tryz.checked }
namespace Rows
def none {H : Type} : Left H := { results := [], args := [] }

/- WHAT THE LISTED PACKAGE-LEVEL VARIABLES READ AS WHEN THE CALL BEGINS. Each datum BY PROGRAM (the guide's laid-datum.mjs) off the statement by which the dump's own 'gosem.cut.vars' lays the variable. In a bare row this is a premise. The card (YtanfimeajalffaaGreatDoorCards.lean) ties it to the program's text. -/
def laid_loop_example_pub_g01467_pub_modindex_errCorrupt {H : Type} : DataW H := .iface "*errors.errorString" (.ptr (.agg [.lit (.string [99, 111, 114, 114, 117, 112, 116, 32, 105, 110, 100, 101, 120])]))
def laid_loop_example_pub_g01467_pub_modindex_errCannotFindPackage {H : Type} : DataW H := .iface "*errors.errorString" (.ptr (.agg [.lit (.string [99, 97, 110, 110, 111, 116, 32, 102, 105, 110, 100, 32, 112, 97, 99, 107, 97, 103, 101])]))

/-- 'laws.FnBack': WHATEVER THE INPUT: true; the input reads as it did. -/
def fnBackSpec : ChangeSpec := { name := "fnBack", vars := ["loop.example/pub-g01467/pub/modindex.errCorrupt"], fn := fun _ => fun
  | [d, g1] => { results := [.lit (.bool true)], args := [d], vars := [g1] }
  | _ => none }
def fnBackRow : OpenClaim := { program := "ytanfimeajalffaagreatdoor", sum := "4e591eba19ce9f1a46b4c5f3bbc52a6480df08250c12cc76d7f0113e05966dbd", func := "loop.example/pub-g01467/laws.FnBack", spec := "fnBack", inPlace := ["internal/bytealg.abigen_runtime_cmpstring"], unfollowed := true, recurses := true, named := ["loop.example/pub-g01467/pub/modindex.errCorrupt"], ifaces := true, apart := false, laid := [("loop.example/pub-g01467/pub/modindex.errCorrupt", laid_loop_example_pub_g01467_pub_modindex_errCorrupt)] }
def FnBackSaid : Prop := fnBackRow.holds Tryz.pinned (OpenSpec.ofChange fnBackSpec)

/-- ITS FALSE NEIGHBOUR: 'it returns false'. Refute it at one input. -/
def fnBackWrong : ChangeSpec := { name := "fnBack", vars := ["loop.example/pub-g01467/pub/modindex.errCorrupt"], fn := fun _ => fun
  | [d, g1] => { results := [.lit (.bool false)], args := [d], vars := [g1] }
  | _ => none }
def FnBackWrongFalsely : Prop := fnBackRow.holds Tryz.pinned (OpenSpec.ofChange fnBackWrong)

/-- 'laws.FnFind': WHATEVER THE INPUT: true; the input reads as it did. -/
def fnFindSpec : ChangeSpec := { name := "fnFind", vars := ["loop.example/pub-g01467/pub/modindex.errCorrupt", "loop.example/pub-g01467/pub/modindex.errCannotFindPackage"], fn := fun _ => fun
  | [d1, d2, g1, g2] => { results := [.lit (.bool true)], args := [d1, d2], vars := [g1, g2] }
  | _ => none }
def fnFindRow : OpenClaim := { program := "ytanfimeajalffaagreatdoor", sum := "4e591eba19ce9f1a46b4c5f3bbc52a6480df08250c12cc76d7f0113e05966dbd", func := "loop.example/pub-g01467/laws.FnFind", spec := "fnFind", inPlace := ["internal/bytealg.abigen_runtime_cmpstring"], unfollowed := true, recurses := true, named := ["loop.example/pub-g01467/pub/modindex.errCorrupt", "loop.example/pub-g01467/pub/modindex.errCannotFindPackage"], ifaces := true, apart := false, laid := [("loop.example/pub-g01467/pub/modindex.errCorrupt", laid_loop_example_pub_g01467_pub_modindex_errCorrupt), ("loop.example/pub-g01467/pub/modindex.errCannotFindPackage", laid_loop_example_pub_g01467_pub_modindex_errCannotFindPackage)] }
def FnFindSaid : Prop := fnFindRow.holds Tryz.pinned (OpenSpec.ofChange fnFindSpec)

/-- ITS FALSE NEIGHBOUR: 'it returns false'. Refute it at one input. -/
def fnFindWrong : ChangeSpec := { name := "fnFind", vars := ["loop.example/pub-g01467/pub/modindex.errCorrupt", "loop.example/pub-g01467/pub/modindex.errCannotFindPackage"], fn := fun _ => fun
  | [d1, d2, g1, g2] => { results := [.lit (.bool false)], args := [d1, d2], vars := [g1, g2] }
  | _ => none }
def FnFindWrongFalsely : Prop := fnFindRow.holds Tryz.pinned (OpenSpec.ofChange fnFindWrong)

/-- 'laws.FnGrown': WHATEVER THE INPUT: true; the input reads as it did. -/
def fnGrownSpec : ChangeSpec := { name := "fnGrown", vars := ["loop.example/pub-g01467/pub/modindex.errCorrupt", "loop.example/pub-g01467/pub/modindex.errCannotFindPackage"], fn := fun _ => fun
  | [d1, d2, g1, g2] => { results := [.lit (.bool true)], args := [d1, d2], vars := [g1, g2] }
  | _ => none }
def fnGrownRow : OpenClaim := { program := "ytanfimeajalffaagreatdoor", sum := "4e591eba19ce9f1a46b4c5f3bbc52a6480df08250c12cc76d7f0113e05966dbd", func := "loop.example/pub-g01467/laws.FnGrown", spec := "fnGrown", inPlace := ["internal/bytealg.abigen_runtime_cmpstring"], unfollowed := true, recurses := true, named := ["loop.example/pub-g01467/pub/modindex.errCorrupt", "loop.example/pub-g01467/pub/modindex.errCannotFindPackage"], ifaces := true, apart := false, laid := [("loop.example/pub-g01467/pub/modindex.errCorrupt", laid_loop_example_pub_g01467_pub_modindex_errCorrupt), ("loop.example/pub-g01467/pub/modindex.errCannotFindPackage", laid_loop_example_pub_g01467_pub_modindex_errCannotFindPackage)] }
def FnGrownSaid : Prop := fnGrownRow.holds Tryz.pinned (OpenSpec.ofChange fnGrownSpec)

/-- ITS FALSE NEIGHBOUR: 'it returns false'. Refute it at one input. -/
def fnGrownWrong : ChangeSpec := { name := "fnGrown", vars := ["loop.example/pub-g01467/pub/modindex.errCorrupt", "loop.example/pub-g01467/pub/modindex.errCannotFindPackage"], fn := fun _ => fun
  | [d1, d2, g1, g2] => { results := [.lit (.bool false)], args := [d1, d2], vars := [g1, g2] }
  | _ => none }
def FnGrownWrongFalsely : Prop := fnGrownRow.holds Tryz.pinned (OpenSpec.ofChange fnGrownWrong)

/-- 'laws.FnFindAll': WHATEVER THE INPUT: true; the input reads as it did. -/
def fnFindAllSpec : ChangeSpec := { name := "fnFindAll", vars := ["loop.example/pub-g01467/pub/modindex.errCorrupt", "loop.example/pub-g01467/pub/modindex.errCannotFindPackage"], fn := fun _ => fun
  | [d, g1, g2] => { results := [.lit (.bool true)], args := [d], vars := [g1, g2] }
  | _ => none }
def fnFindAllRow : OpenClaim := { program := "ytanfimeajalffaagreatdoor", sum := "4e591eba19ce9f1a46b4c5f3bbc52a6480df08250c12cc76d7f0113e05966dbd", func := "loop.example/pub-g01467/laws.FnFindAll", spec := "fnFindAll", inPlace := ["internal/bytealg.abigen_runtime_cmpstring"], unfollowed := true, recurses := true, named := ["loop.example/pub-g01467/pub/modindex.errCorrupt", "loop.example/pub-g01467/pub/modindex.errCannotFindPackage"], ifaces := true, apart := false, laid := [("loop.example/pub-g01467/pub/modindex.errCorrupt", laid_loop_example_pub_g01467_pub_modindex_errCorrupt), ("loop.example/pub-g01467/pub/modindex.errCannotFindPackage", laid_loop_example_pub_g01467_pub_modindex_errCannotFindPackage)] }
def FnFindAllSaid : Prop := fnFindAllRow.holds Tryz.pinned (OpenSpec.ofChange fnFindAllSpec)

/-- ITS FALSE NEIGHBOUR: 'it returns false'. Refute it at one input. -/
def fnFindAllWrong : ChangeSpec := { name := "fnFindAll", vars := ["loop.example/pub-g01467/pub/modindex.errCorrupt", "loop.example/pub-g01467/pub/modindex.errCannotFindPackage"], fn := fun _ => fun
  | [d, g1, g2] => { results := [.lit (.bool false)], args := [d], vars := [g1, g2] }
  | _ => none }
def FnFindAllWrongFalsely : Prop := fnFindAllRow.holds Tryz.pinned (OpenSpec.ofChange fnFindAllWrong)

/- THE SECOND FORM. 'bulk': how many values and letters a reading holds, each counted each time it is reached (what is shared counts as often as it is met; a slice's spare places count too). A statement '..UptoSaid' is the law's where the arguments, and the package variables that the reading takes, are together of bulk at most 1048576: NARROWER than '..Said'. Prove '..Said' where nothing that the law and all that it calls make is longer than what came in: it says more and counts as full. Else prove '..UptoSaid'. A law counts once. -/
mutual
def uptoBulk {H : Type} : DataW H → Nat
  | .lit (.string bytes) => bytes.length + 1
  | .lit _ => 1
  | .nil => 1
  | .ptr d => uptoBulk d + 1
  | .slice elems spare => uptoBulkAll elems + uptoBulkAll spare + 1
  | .agg parts => uptoBulkAll parts + 1
  | .iface _ d => uptoBulk d + 1
  | .map entries => uptoBulkEntries entries + 1
  | .held _ => 1
def uptoBulkAll {H : Type} : List (DataW H) → Nat
  | [] => 0
  | d :: r => uptoBulk d + uptoBulkAll r
def uptoBulkEntries {H : Type} : List (Lit × DataW H) → Nat
  | [] => 0
  | x :: r => uptoBulkEntry x + uptoBulkEntries r
def uptoBulkEntry {H : Type} : Lit × DataW H → Nat
  | (.string bytes, d) => bytes.length + uptoBulk d + 1
  | (_, d) => uptoBulk d + 1
 end
def uptoSmall : (H : Type) → List (DataW H) → Bool := fun _ ds => decide (uptoBulkAll ds ≤ 1048576)
def OpenSpec.upto (s : _root_.Go.ChangeSpec) : _root_.Go.OpenSpec := { _root_.Go.OpenSpec.ofChange s with cond := some uptoSmall }

/-- 'laws.FnBack', WHERE WHAT IT READS IS OF BULK AT MOST 1048576: true; the input reads as it did. -/
def fnBackUptoRow : OpenClaim := { program := "ytanfimeajalffaagreatdoor", sum := "4e591eba19ce9f1a46b4c5f3bbc52a6480df08250c12cc76d7f0113e05966dbd", func := "loop.example/pub-g01467/laws.FnBack", spec := "fnBack", inPlace := ["internal/bytealg.abigen_runtime_cmpstring"], unfollowed := true, recurses := true, named := ["loop.example/pub-g01467/pub/modindex.errCorrupt"], ifaces := true, apart := false, laid := [("loop.example/pub-g01467/pub/modindex.errCorrupt", laid_loop_example_pub_g01467_pub_modindex_errCorrupt)], narrowed := true }
def FnBackUptoSaid : Prop := fnBackUptoRow.holds Tryz.pinned (OpenSpec.upto fnBackSpec)

/-- 'laws.FnFind', WHERE WHAT IT READS IS OF BULK AT MOST 1048576: true; the input reads as it did. -/
def fnFindUptoRow : OpenClaim := { program := "ytanfimeajalffaagreatdoor", sum := "4e591eba19ce9f1a46b4c5f3bbc52a6480df08250c12cc76d7f0113e05966dbd", func := "loop.example/pub-g01467/laws.FnFind", spec := "fnFind", inPlace := ["internal/bytealg.abigen_runtime_cmpstring"], unfollowed := true, recurses := true, named := ["loop.example/pub-g01467/pub/modindex.errCorrupt", "loop.example/pub-g01467/pub/modindex.errCannotFindPackage"], ifaces := true, apart := false, laid := [("loop.example/pub-g01467/pub/modindex.errCorrupt", laid_loop_example_pub_g01467_pub_modindex_errCorrupt), ("loop.example/pub-g01467/pub/modindex.errCannotFindPackage", laid_loop_example_pub_g01467_pub_modindex_errCannotFindPackage)], narrowed := true }
def FnFindUptoSaid : Prop := fnFindUptoRow.holds Tryz.pinned (OpenSpec.upto fnFindSpec)

/-- 'laws.FnGrown', WHERE WHAT IT READS IS OF BULK AT MOST 1048576: true; the input reads as it did. -/
def fnGrownUptoRow : OpenClaim := { program := "ytanfimeajalffaagreatdoor", sum := "4e591eba19ce9f1a46b4c5f3bbc52a6480df08250c12cc76d7f0113e05966dbd", func := "loop.example/pub-g01467/laws.FnGrown", spec := "fnGrown", inPlace := ["internal/bytealg.abigen_runtime_cmpstring"], unfollowed := true, recurses := true, named := ["loop.example/pub-g01467/pub/modindex.errCorrupt", "loop.example/pub-g01467/pub/modindex.errCannotFindPackage"], ifaces := true, apart := false, laid := [("loop.example/pub-g01467/pub/modindex.errCorrupt", laid_loop_example_pub_g01467_pub_modindex_errCorrupt), ("loop.example/pub-g01467/pub/modindex.errCannotFindPackage", laid_loop_example_pub_g01467_pub_modindex_errCannotFindPackage)], narrowed := true }
def FnGrownUptoSaid : Prop := fnGrownUptoRow.holds Tryz.pinned (OpenSpec.upto fnGrownSpec)

/-- 'laws.FnFindAll', WHERE WHAT IT READS IS OF BULK AT MOST 1048576: true; the input reads as it did. -/
def fnFindAllUptoRow : OpenClaim := { program := "ytanfimeajalffaagreatdoor", sum := "4e591eba19ce9f1a46b4c5f3bbc52a6480df08250c12cc76d7f0113e05966dbd", func := "loop.example/pub-g01467/laws.FnFindAll", spec := "fnFindAll", inPlace := ["internal/bytealg.abigen_runtime_cmpstring"], unfollowed := true, recurses := true, named := ["loop.example/pub-g01467/pub/modindex.errCorrupt", "loop.example/pub-g01467/pub/modindex.errCannotFindPackage"], ifaces := true, apart := false, laid := [("loop.example/pub-g01467/pub/modindex.errCorrupt", laid_loop_example_pub_g01467_pub_modindex_errCorrupt), ("loop.example/pub-g01467/pub/modindex.errCannotFindPackage", laid_loop_example_pub_g01467_pub_modindex_errCannotFindPackage)], narrowed := true }
def FnFindAllUptoSaid : Prop := fnFindAllUptoRow.holds Tryz.pinned (OpenSpec.upto fnFindAllSpec)

end Rows
end Go.Proofs.YtanfimeajalffaaGreatDoor

/-
  NARROWER THAN 'FOR EVERY INPUT', by the rows' own cells (each row's printed sentence says how): FnDirs: ifaces, laid · FnAgain: ifaces, laid · FnCut: ifaces, laid · FnHead: ifaces, laid.
  DERIVED. THE GIVEN ROWS OF THIS SEAT. 4 by the template 'for every input the law returns true; each argument reads behind the call as it read before'; 0 by the template 'total and deterministic' (their statements: YtanfimeajalffaaDoorTotals.lean).
  GIVEN WITH THE SEED: the statements are not yours to turn. If you find one false, say at which input.
  Laid BY PROGRAM, IN A SANDBOX (cutbox-rows.mjs): the forced cells as the released guide's own fill.sh prints them over the translation 187c236e1ded1b49… (all of the seat's roots in one cut). By AI agents, Wed Nov 11 2026. No macro, syntax, notation, axiom, sorry.
-/
import Derived.Test.YtanfimeajalffaaDoorChecked
import GoSem.Claim
import GoSem.ClaimJoined
import GoSem.ClaimMapViews
import Derived.JoinedTies
import Derived.KernelRfl
namespace Go.Proofs.YtanfimeajalffaaDoor
/- THE CELL 'sum', in the pinned program and in every row, IS THE sha256 OF THE DUMP (.gsa) THAT YtanfimeajalffaaDoorProg.lean LOADS. Nothing in Lean hashes anything: it is a label: what it is worth is what the hold of that sum in a sandbox is worth. -/
noncomputable def Tryd.pinned : Pinned := { name := "ytanfimeajalffaadoor", sum := "187c236e1ded1b49a080af499b8812f819f45b6c8b14285b73098f43be395ed1", checked := Tryd.checked }
namespace Rows
def none {H : Type} : Left H := { results := [], args := [] }

/- WHAT THE LISTED PACKAGE-LEVEL VARIABLES READ AS WHEN THE CALL BEGINS. Each datum BY PROGRAM (the guide's laid-datum.mjs) off the statement by which the dump's own 'gosem.cut.vars' lays the variable. In a bare row this is a premise. The card (YtanfimeajalffaaDoorCards.lean) ties it to the program's text. -/
def laid_loop_example_pub_g01467_pub_modindex_errCorrupt {H : Type} : DataW H := .iface "*errors.errorString" (.ptr (.agg [.lit (.string [99, 111, 114, 114, 117, 112, 116, 32, 105, 110, 100, 101, 120])]))

/-- 'laws.FnDirs': WHATEVER THE INPUT: true; the input reads as it did. -/
def fnDirsSpec : ChangeSpec := { name := "fnDirs", vars := ["loop.example/pub-g01467/pub/modindex.errCorrupt"], fn := fun _ => fun
  | [d, g1] => { results := [.lit (.bool true)], args := [d], vars := [g1] }
  | _ => none }
def fnDirsRow : OpenClaim := { program := "ytanfimeajalffaadoor", sum := "187c236e1ded1b49a080af499b8812f819f45b6c8b14285b73098f43be395ed1", func := "loop.example/pub-g01467/laws.FnDirs", spec := "fnDirs", inPlace := ["internal/bytealg.abigen_runtime_cmpstring"], unfollowed := true, recurses := true, named := ["loop.example/pub-g01467/pub/modindex.errCorrupt"], ifaces := true, apart := false, laid := [("loop.example/pub-g01467/pub/modindex.errCorrupt", laid_loop_example_pub_g01467_pub_modindex_errCorrupt)] }
def FnDirsSaid : Prop := fnDirsRow.holds Tryd.pinned (OpenSpec.ofChange fnDirsSpec)

/-- ITS FALSE NEIGHBOUR: 'it returns false'. Refute it at one input. -/
def fnDirsWrong : ChangeSpec := { name := "fnDirs", vars := ["loop.example/pub-g01467/pub/modindex.errCorrupt"], fn := fun _ => fun
  | [d, g1] => { results := [.lit (.bool false)], args := [d], vars := [g1] }
  | _ => none }
def FnDirsWrongFalsely : Prop := fnDirsRow.holds Tryd.pinned (OpenSpec.ofChange fnDirsWrong)

/-- 'laws.FnAgain': WHATEVER THE INPUT: true; the input reads as it did. -/
def fnAgainSpec : ChangeSpec := { name := "fnAgain", vars := ["loop.example/pub-g01467/pub/modindex.errCorrupt"], fn := fun _ => fun
  | [d, g1] => { results := [.lit (.bool true)], args := [d], vars := [g1] }
  | _ => none }
def fnAgainRow : OpenClaim := { program := "ytanfimeajalffaadoor", sum := "187c236e1ded1b49a080af499b8812f819f45b6c8b14285b73098f43be395ed1", func := "loop.example/pub-g01467/laws.FnAgain", spec := "fnAgain", inPlace := ["internal/bytealg.abigen_runtime_cmpstring"], unfollowed := true, recurses := true, named := ["loop.example/pub-g01467/pub/modindex.errCorrupt"], ifaces := true, apart := false, laid := [("loop.example/pub-g01467/pub/modindex.errCorrupt", laid_loop_example_pub_g01467_pub_modindex_errCorrupt)] }
def FnAgainSaid : Prop := fnAgainRow.holds Tryd.pinned (OpenSpec.ofChange fnAgainSpec)

/-- ITS FALSE NEIGHBOUR: 'it returns false'. Refute it at one input. -/
def fnAgainWrong : ChangeSpec := { name := "fnAgain", vars := ["loop.example/pub-g01467/pub/modindex.errCorrupt"], fn := fun _ => fun
  | [d, g1] => { results := [.lit (.bool false)], args := [d], vars := [g1] }
  | _ => none }
def FnAgainWrongFalsely : Prop := fnAgainRow.holds Tryd.pinned (OpenSpec.ofChange fnAgainWrong)

/-- 'laws.FnCut': WHATEVER THE INPUT: true; the input reads as it did. -/
def fnCutSpec : ChangeSpec := { name := "fnCut", vars := ["loop.example/pub-g01467/pub/modindex.errCorrupt"], fn := fun _ => fun
  | [d1, d2, g1] => { results := [.lit (.bool true)], args := [d1, d2], vars := [g1] }
  | _ => none }
def fnCutRow : OpenClaim := { program := "ytanfimeajalffaadoor", sum := "187c236e1ded1b49a080af499b8812f819f45b6c8b14285b73098f43be395ed1", func := "loop.example/pub-g01467/laws.FnCut", spec := "fnCut", inPlace := ["internal/bytealg.abigen_runtime_cmpstring"], unfollowed := true, recurses := true, named := ["loop.example/pub-g01467/pub/modindex.errCorrupt"], ifaces := true, apart := false, laid := [("loop.example/pub-g01467/pub/modindex.errCorrupt", laid_loop_example_pub_g01467_pub_modindex_errCorrupt)] }
def FnCutSaid : Prop := fnCutRow.holds Tryd.pinned (OpenSpec.ofChange fnCutSpec)

/-- ITS FALSE NEIGHBOUR: 'it returns false'. Refute it at one input. -/
def fnCutWrong : ChangeSpec := { name := "fnCut", vars := ["loop.example/pub-g01467/pub/modindex.errCorrupt"], fn := fun _ => fun
  | [d1, d2, g1] => { results := [.lit (.bool false)], args := [d1, d2], vars := [g1] }
  | _ => none }
def FnCutWrongFalsely : Prop := fnCutRow.holds Tryd.pinned (OpenSpec.ofChange fnCutWrong)

/-- 'laws.FnHead': WHATEVER THE INPUT: true; the input reads as it did. -/
def fnHeadSpec : ChangeSpec := { name := "fnHead", vars := ["loop.example/pub-g01467/pub/modindex.errCorrupt"], fn := fun _ => fun
  | [d1, d2, g1] => { results := [.lit (.bool true)], args := [d1, d2], vars := [g1] }
  | _ => none }
def fnHeadRow : OpenClaim := { program := "ytanfimeajalffaadoor", sum := "187c236e1ded1b49a080af499b8812f819f45b6c8b14285b73098f43be395ed1", func := "loop.example/pub-g01467/laws.FnHead", spec := "fnHead", inPlace := ["internal/bytealg.abigen_runtime_cmpstring"], unfollowed := true, recurses := true, named := ["loop.example/pub-g01467/pub/modindex.errCorrupt"], ifaces := true, apart := false, laid := [("loop.example/pub-g01467/pub/modindex.errCorrupt", laid_loop_example_pub_g01467_pub_modindex_errCorrupt)] }
def FnHeadSaid : Prop := fnHeadRow.holds Tryd.pinned (OpenSpec.ofChange fnHeadSpec)

/-- ITS FALSE NEIGHBOUR: 'it returns false'. Refute it at one input. -/
def fnHeadWrong : ChangeSpec := { name := "fnHead", vars := ["loop.example/pub-g01467/pub/modindex.errCorrupt"], fn := fun _ => fun
  | [d1, d2, g1] => { results := [.lit (.bool false)], args := [d1, d2], vars := [g1] }
  | _ => none }
def FnHeadWrongFalsely : Prop := fnHeadRow.holds Tryd.pinned (OpenSpec.ofChange fnHeadWrong)

/- THE SECOND FORM. 'bulk': how many values and letters a reading holds, each counted each time it is reached (what is shared counts as often as it is met; a slice's spare places count too). A statement '..UptoSaid' is the law's where the arguments, and the package variables that the reading takes, are together of bulk at most 1048576: NARROWER than '..Said'. Prove '..Said' where nothing that the law and all that it calls make is longer than what came in: it says more and counts as full. Else prove '..UptoSaid'. A law counts once. -/
mutual
def uptoBulk {H : Type} : DataW H → Nat
  | .lit (.string bytes) => bytes.length + 1
  | .lit _ => 1
  | .nil => 1
  | .ptr d => uptoBulk d + 1
  | .slice elems spare => uptoBulkAll elems + uptoBulkAll spare + 1
  | .agg parts => uptoBulkAll parts + 1
  | .iface _ d => uptoBulk d + 1
  | .map entries => uptoBulkEntries entries + 1
  | .held _ => 1
def uptoBulkAll {H : Type} : List (DataW H) → Nat
  | [] => 0
  | d :: r => uptoBulk d + uptoBulkAll r
def uptoBulkEntries {H : Type} : List (Lit × DataW H) → Nat
  | [] => 0
  | x :: r => uptoBulkEntry x + uptoBulkEntries r
def uptoBulkEntry {H : Type} : Lit × DataW H → Nat
  | (.string bytes, d) => bytes.length + uptoBulk d + 1
  | (_, d) => uptoBulk d + 1
 end
def uptoSmall : (H : Type) → List (DataW H) → Bool := fun _ ds => decide (uptoBulkAll ds ≤ 1048576)
def OpenSpec.upto (s : _root_.Go.ChangeSpec) : _root_.Go.OpenSpec := { _root_.Go.OpenSpec.ofChange s with cond := some uptoSmall }

/-- 'laws.FnDirs', WHERE WHAT IT READS IS OF BULK AT MOST 1048576: true; the input reads as it did. -/
def fnDirsUptoRow : OpenClaim := { program := "ytanfimeajalffaadoor", sum := "187c236e1ded1b49a080af499b8812f819f45b6c8b14285b73098f43be395ed1", func := "loop.example/pub-g01467/laws.FnDirs", spec := "fnDirs", inPlace := ["internal/bytealg.abigen_runtime_cmpstring"], unfollowed := true, recurses := true, named := ["loop.example/pub-g01467/pub/modindex.errCorrupt"], ifaces := true, apart := false, laid := [("loop.example/pub-g01467/pub/modindex.errCorrupt", laid_loop_example_pub_g01467_pub_modindex_errCorrupt)], narrowed := true }
def FnDirsUptoSaid : Prop := fnDirsUptoRow.holds Tryd.pinned (OpenSpec.upto fnDirsSpec)

/-- 'laws.FnAgain', WHERE WHAT IT READS IS OF BULK AT MOST 1048576: true; the input reads as it did. -/
def fnAgainUptoRow : OpenClaim := { program := "ytanfimeajalffaadoor", sum := "187c236e1ded1b49a080af499b8812f819f45b6c8b14285b73098f43be395ed1", func := "loop.example/pub-g01467/laws.FnAgain", spec := "fnAgain", inPlace := ["internal/bytealg.abigen_runtime_cmpstring"], unfollowed := true, recurses := true, named := ["loop.example/pub-g01467/pub/modindex.errCorrupt"], ifaces := true, apart := false, laid := [("loop.example/pub-g01467/pub/modindex.errCorrupt", laid_loop_example_pub_g01467_pub_modindex_errCorrupt)], narrowed := true }
def FnAgainUptoSaid : Prop := fnAgainUptoRow.holds Tryd.pinned (OpenSpec.upto fnAgainSpec)

/-- 'laws.FnCut', WHERE WHAT IT READS IS OF BULK AT MOST 1048576: true; the input reads as it did. -/
def fnCutUptoRow : OpenClaim := { program := "ytanfimeajalffaadoor", sum := "187c236e1ded1b49a080af499b8812f819f45b6c8b14285b73098f43be395ed1", func := "loop.example/pub-g01467/laws.FnCut", spec := "fnCut", inPlace := ["internal/bytealg.abigen_runtime_cmpstring"], unfollowed := true, recurses := true, named := ["loop.example/pub-g01467/pub/modindex.errCorrupt"], ifaces := true, apart := false, laid := [("loop.example/pub-g01467/pub/modindex.errCorrupt", laid_loop_example_pub_g01467_pub_modindex_errCorrupt)], narrowed := true }
def FnCutUptoSaid : Prop := fnCutUptoRow.holds Tryd.pinned (OpenSpec.upto fnCutSpec)

/-- 'laws.FnHead', WHERE WHAT IT READS IS OF BULK AT MOST 1048576: true; the input reads as it did. -/
def fnHeadUptoRow : OpenClaim := { program := "ytanfimeajalffaadoor", sum := "187c236e1ded1b49a080af499b8812f819f45b6c8b14285b73098f43be395ed1", func := "loop.example/pub-g01467/laws.FnHead", spec := "fnHead", inPlace := ["internal/bytealg.abigen_runtime_cmpstring"], unfollowed := true, recurses := true, named := ["loop.example/pub-g01467/pub/modindex.errCorrupt"], ifaces := true, apart := false, laid := [("loop.example/pub-g01467/pub/modindex.errCorrupt", laid_loop_example_pub_g01467_pub_modindex_errCorrupt)], narrowed := true }
def FnHeadUptoSaid : Prop := fnHeadUptoRow.holds Tryd.pinned (OpenSpec.upto fnHeadSpec)

end Rows
end Go.Proofs.YtanfimeajalffaaDoor

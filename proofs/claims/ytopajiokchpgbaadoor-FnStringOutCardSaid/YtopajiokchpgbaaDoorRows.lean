/-
  NARROWER THAN 'FOR EVERY INPUT', by the rows' own cells (each row's printed sentence says how): FnIntAt: ifaces, laid · FnIntOut: ifaces, laid · FnStringAt: ifaces, laid · FnStringOut: ifaces, laid.
  DERIVED. THE GIVEN ROWS OF THIS SEAT. 4 by the template 'for every input the law returns true; each argument reads behind the call as it read before'; 0 by the template 'total and deterministic' (their statements: YtopajiokchpgbaaDoorTotals.lean).
  GIVEN WITH THE SEED: the statements are not yours to turn. If you find one false, say at which input.
  Laid BY PROGRAM, IN A SANDBOX (cutbox-rows.mjs): the forced cells as the released guide's own fill.sh prints them over the translation 899a4a3dd2f0e069… (all of the seat's roots in one cut). By AI agents, Wed Nov 11 2026. No macro, syntax, notation, axiom, sorry.
-/
import Derived.Test.YtopajiokchpgbaaDoorChecked
import GoSem.Claim
import GoSem.ClaimJoined
import GoSem.ClaimMapViews
import Derived.JoinedTies
import Derived.KernelRfl
namespace Go.Proofs.YtopajiokchpgbaaDoor
/- THE CELL 'sum', in the pinned program and in every row, IS THE sha256 OF THE DUMP (.gsa) THAT YtopajiokchpgbaaDoorProg.lean LOADS. Nothing in Lean hashes anything: it is a label: what it is worth is what the hold of that sum in a sandbox is worth. -/
noncomputable def Tryd.pinned : Pinned := { name := "ytopajiokchpgbaadoor", sum := "899a4a3dd2f0e069d914d90ced5a0d0153b08bcf1e711aede12e946be630cdf6", checked := Tryd.checked }
namespace Rows
def none {H : Type} : Left H := { results := [], args := [] }

/- WHAT THE LISTED PACKAGE-LEVEL VARIABLES READ AS WHEN THE CALL BEGINS. Each datum BY PROGRAM (the guide's laid-datum.mjs) off the statement by which the dump's own 'gosem.cut.vars' lays the variable. In a bare row this is a premise. The card (YtopajiokchpgbaaDoorCards.lean) ties it to the program's text. -/
def laid_loop_example_pub_g01467_pub_modindex_errCorrupt {H : Type} : DataW H := .iface "*errors.errorString" (.ptr (.agg [.lit (.string [99, 111, 114, 114, 117, 112, 116, 32, 105, 110, 100, 101, 120])]))

/-- 'laws.FnIntAt': WHATEVER THE INPUT: true; the input reads as it did. -/
def fnIntAtSpec : ChangeSpec := { name := "fnIntAt", vars := ["loop.example/pub-g01467/pub/modindex.errCorrupt"], fn := fun _ => fun
  | [d1, d2, d3, g1] => { results := [.lit (.bool true)], args := [d1, d2, d3], vars := [g1] }
  | _ => none }
def fnIntAtRow : OpenClaim := { program := "ytopajiokchpgbaadoor", sum := "899a4a3dd2f0e069d914d90ced5a0d0153b08bcf1e711aede12e946be630cdf6", func := "loop.example/pub-g01467/laws.FnIntAt", spec := "fnIntAt", named := ["loop.example/pub-g01467/pub/modindex.errCorrupt"], ifaces := true, apart := false, laid := [("loop.example/pub-g01467/pub/modindex.errCorrupt", laid_loop_example_pub_g01467_pub_modindex_errCorrupt)] }
def FnIntAtSaid : Prop := fnIntAtRow.holds Tryd.pinned (OpenSpec.ofChange fnIntAtSpec)

/-- ITS FALSE NEIGHBOUR: 'it returns false'. Refute it at one input. -/
def fnIntAtWrong : ChangeSpec := { name := "fnIntAt", vars := ["loop.example/pub-g01467/pub/modindex.errCorrupt"], fn := fun _ => fun
  | [d1, d2, d3, g1] => { results := [.lit (.bool false)], args := [d1, d2, d3], vars := [g1] }
  | _ => none }
def FnIntAtWrongFalsely : Prop := fnIntAtRow.holds Tryd.pinned (OpenSpec.ofChange fnIntAtWrong)

/-- 'laws.FnIntOut': WHATEVER THE INPUT: true; the input reads as it did. -/
def fnIntOutSpec : ChangeSpec := { name := "fnIntOut", vars := ["loop.example/pub-g01467/pub/modindex.errCorrupt"], fn := fun _ => fun
  | [d1, d2, g1] => { results := [.lit (.bool true)], args := [d1, d2], vars := [g1] }
  | _ => none }
def fnIntOutRow : OpenClaim := { program := "ytopajiokchpgbaadoor", sum := "899a4a3dd2f0e069d914d90ced5a0d0153b08bcf1e711aede12e946be630cdf6", func := "loop.example/pub-g01467/laws.FnIntOut", spec := "fnIntOut", named := ["loop.example/pub-g01467/pub/modindex.errCorrupt"], ifaces := true, apart := false, laid := [("loop.example/pub-g01467/pub/modindex.errCorrupt", laid_loop_example_pub_g01467_pub_modindex_errCorrupt)] }
def FnIntOutSaid : Prop := fnIntOutRow.holds Tryd.pinned (OpenSpec.ofChange fnIntOutSpec)

/-- ITS FALSE NEIGHBOUR: 'it returns false'. Refute it at one input. -/
def fnIntOutWrong : ChangeSpec := { name := "fnIntOut", vars := ["loop.example/pub-g01467/pub/modindex.errCorrupt"], fn := fun _ => fun
  | [d1, d2, g1] => { results := [.lit (.bool false)], args := [d1, d2], vars := [g1] }
  | _ => none }
def FnIntOutWrongFalsely : Prop := fnIntOutRow.holds Tryd.pinned (OpenSpec.ofChange fnIntOutWrong)

/-- 'laws.FnStringAt': WHATEVER THE INPUT: true; the input reads as it did. -/
def fnStringAtSpec : ChangeSpec := { name := "fnStringAt", vars := ["loop.example/pub-g01467/pub/modindex.errCorrupt"], fn := fun _ => fun
  | [d1, d2, d3, g1] => { results := [.lit (.bool true)], args := [d1, d2, d3], vars := [g1] }
  | _ => none }
def fnStringAtRow : OpenClaim := { program := "ytopajiokchpgbaadoor", sum := "899a4a3dd2f0e069d914d90ced5a0d0153b08bcf1e711aede12e946be630cdf6", func := "loop.example/pub-g01467/laws.FnStringAt", spec := "fnStringAt", named := ["loop.example/pub-g01467/pub/modindex.errCorrupt"], ifaces := true, apart := false, laid := [("loop.example/pub-g01467/pub/modindex.errCorrupt", laid_loop_example_pub_g01467_pub_modindex_errCorrupt)] }
def FnStringAtSaid : Prop := fnStringAtRow.holds Tryd.pinned (OpenSpec.ofChange fnStringAtSpec)

/-- ITS FALSE NEIGHBOUR: 'it returns false'. Refute it at one input. -/
def fnStringAtWrong : ChangeSpec := { name := "fnStringAt", vars := ["loop.example/pub-g01467/pub/modindex.errCorrupt"], fn := fun _ => fun
  | [d1, d2, d3, g1] => { results := [.lit (.bool false)], args := [d1, d2, d3], vars := [g1] }
  | _ => none }
def FnStringAtWrongFalsely : Prop := fnStringAtRow.holds Tryd.pinned (OpenSpec.ofChange fnStringAtWrong)

/-- 'laws.FnStringOut': WHATEVER THE INPUT: true; the input reads as it did. -/
def fnStringOutSpec : ChangeSpec := { name := "fnStringOut", vars := ["loop.example/pub-g01467/pub/modindex.errCorrupt"], fn := fun _ => fun
  | [d1, d2, d3, g1] => { results := [.lit (.bool true)], args := [d1, d2, d3], vars := [g1] }
  | _ => none }
def fnStringOutRow : OpenClaim := { program := "ytopajiokchpgbaadoor", sum := "899a4a3dd2f0e069d914d90ced5a0d0153b08bcf1e711aede12e946be630cdf6", func := "loop.example/pub-g01467/laws.FnStringOut", spec := "fnStringOut", named := ["loop.example/pub-g01467/pub/modindex.errCorrupt"], ifaces := true, apart := false, laid := [("loop.example/pub-g01467/pub/modindex.errCorrupt", laid_loop_example_pub_g01467_pub_modindex_errCorrupt)] }
def FnStringOutSaid : Prop := fnStringOutRow.holds Tryd.pinned (OpenSpec.ofChange fnStringOutSpec)

/-- ITS FALSE NEIGHBOUR: 'it returns false'. Refute it at one input. -/
def fnStringOutWrong : ChangeSpec := { name := "fnStringOut", vars := ["loop.example/pub-g01467/pub/modindex.errCorrupt"], fn := fun _ => fun
  | [d1, d2, d3, g1] => { results := [.lit (.bool false)], args := [d1, d2, d3], vars := [g1] }
  | _ => none }
def FnStringOutWrongFalsely : Prop := fnStringOutRow.holds Tryd.pinned (OpenSpec.ofChange fnStringOutWrong)

/- THE SECOND FORM. 'bulk': how many values and letters a reading holds, each counted each time it is reached (what is shared counts as often as it is met; a slice's spare places count too). A statement '..UptoSaid' is the law's where the arguments, and the package variables that the reading takes, are together of bulk at most 1048576: NARROWER than '..Said'. Prove '..Said' where nothing that the law and all that it calls make is longer than what came in: it says more and counts as full. Else prove '..UptoSaid'. A law counts once. -/
mutual
def uptoBulk {H : Type} : DataW H → Nat
  | .lit (.string bytes) => bytes.length + 1
  | .lit _ => 1
  | .nil => 1
  | .ptr d => uptoBulk d + 1
  | .slice elems spare => uptoBulkAll elems + uptoBulkAll spare + 1
  | .agg parts => uptoBulkAll parts + 1
  | .iface _ d => uptoBulk d + 1
  | .map entries => uptoBulkEntries entries + 1
  | .held _ => 1
def uptoBulkAll {H : Type} : List (DataW H) → Nat
  | [] => 0
  | d :: r => uptoBulk d + uptoBulkAll r
def uptoBulkEntries {H : Type} : List (Lit × DataW H) → Nat
  | [] => 0
  | x :: r => uptoBulkEntry x + uptoBulkEntries r
def uptoBulkEntry {H : Type} : Lit × DataW H → Nat
  | (.string bytes, d) => bytes.length + uptoBulk d + 1
  | (_, d) => uptoBulk d + 1
 end
def uptoSmall : (H : Type) → List (DataW H) → Bool := fun _ ds => decide (uptoBulkAll ds ≤ 1048576)
def OpenSpec.upto (s : _root_.Go.ChangeSpec) : _root_.Go.OpenSpec := { _root_.Go.OpenSpec.ofChange s with cond := some uptoSmall }

/-- 'laws.FnIntAt', WHERE WHAT IT READS IS OF BULK AT MOST 1048576: true; the input reads as it did. -/
def fnIntAtUptoRow : OpenClaim := { program := "ytopajiokchpgbaadoor", sum := "899a4a3dd2f0e069d914d90ced5a0d0153b08bcf1e711aede12e946be630cdf6", func := "loop.example/pub-g01467/laws.FnIntAt", spec := "fnIntAt", named := ["loop.example/pub-g01467/pub/modindex.errCorrupt"], ifaces := true, apart := false, laid := [("loop.example/pub-g01467/pub/modindex.errCorrupt", laid_loop_example_pub_g01467_pub_modindex_errCorrupt)], narrowed := true }
def FnIntAtUptoSaid : Prop := fnIntAtUptoRow.holds Tryd.pinned (OpenSpec.upto fnIntAtSpec)

/-- 'laws.FnIntOut', WHERE WHAT IT READS IS OF BULK AT MOST 1048576: true; the input reads as it did. -/
def fnIntOutUptoRow : OpenClaim := { program := "ytopajiokchpgbaadoor", sum := "899a4a3dd2f0e069d914d90ced5a0d0153b08bcf1e711aede12e946be630cdf6", func := "loop.example/pub-g01467/laws.FnIntOut", spec := "fnIntOut", named := ["loop.example/pub-g01467/pub/modindex.errCorrupt"], ifaces := true, apart := false, laid := [("loop.example/pub-g01467/pub/modindex.errCorrupt", laid_loop_example_pub_g01467_pub_modindex_errCorrupt)], narrowed := true }
def FnIntOutUptoSaid : Prop := fnIntOutUptoRow.holds Tryd.pinned (OpenSpec.upto fnIntOutSpec)

/-- 'laws.FnStringAt', WHERE WHAT IT READS IS OF BULK AT MOST 1048576: true; the input reads as it did. -/
def fnStringAtUptoRow : OpenClaim := { program := "ytopajiokchpgbaadoor", sum := "899a4a3dd2f0e069d914d90ced5a0d0153b08bcf1e711aede12e946be630cdf6", func := "loop.example/pub-g01467/laws.FnStringAt", spec := "fnStringAt", named := ["loop.example/pub-g01467/pub/modindex.errCorrupt"], ifaces := true, apart := false, laid := [("loop.example/pub-g01467/pub/modindex.errCorrupt", laid_loop_example_pub_g01467_pub_modindex_errCorrupt)], narrowed := true }
def FnStringAtUptoSaid : Prop := fnStringAtUptoRow.holds Tryd.pinned (OpenSpec.upto fnStringAtSpec)

/-- 'laws.FnStringOut', WHERE WHAT IT READS IS OF BULK AT MOST 1048576: true; the input reads as it did. -/
def fnStringOutUptoRow : OpenClaim := { program := "ytopajiokchpgbaadoor", sum := "899a4a3dd2f0e069d914d90ced5a0d0153b08bcf1e711aede12e946be630cdf6", func := "loop.example/pub-g01467/laws.FnStringOut", spec := "fnStringOut", named := ["loop.example/pub-g01467/pub/modindex.errCorrupt"], ifaces := true, apart := false, laid := [("loop.example/pub-g01467/pub/modindex.errCorrupt", laid_loop_example_pub_g01467_pub_modindex_errCorrupt)], narrowed := true }
def FnStringOutUptoSaid : Prop := fnStringOutUptoRow.holds Tryd.pinned (OpenSpec.upto fnStringOutSpec)

end Rows
end Go.Proofs.YtopajiokchpgbaaDoor

/-
  No cell of these rows narrows 'for every input' (looked for: loops, veiled, ifaces, maps, wideKeys, modest, calm, conditions, laid).
  DERIVED. THE GIVEN ROWS OF THIS SEAT. 4 by the template 'for every input the law returns true; each argument reads behind the call as it read before'; 0 by the template 'total and deterministic' (their statements: Qxb6602884aTotals.lean).
  GIVEN WITH THE SEED: the statements are not yours to turn. If you find one false, say at which input.
  Laid BY PROGRAM, IN A SANDBOX (cutbox-rows.mjs): the forced cells as the released guide's own fill.sh prints them over the translation 5aaa97dd3208b094… (all of the seat's roots in one cut). By AI agents, Wed Nov 11 2026. No macro, syntax, notation, axiom, sorry.
-/
import Derived.Test.Qxb6602884aChecked
import GoSem.Claim
import GoSem.ClaimJoined
import GoSem.ClaimMapViews
import Derived.JoinedTies
import Derived.KernelRfl
namespace Go.Proofs.Qxb6602884a
/- THE CELL 'sum', in the pinned program and in every row, IS THE sha256 OF THE DUMP (.gsa) THAT Qxb6602884aProg.lean LOADS. Nothing in Lean hashes anything: it is a label: what it is worth is what the hold of that sum in a sandbox is worth. -/
noncomputable def Try.pinned : Pinned := { name := "qxb6602884a", sum := "5aaa97dd3208b0943cc566e1d309252366caf3f825ffbafc5f4d1182d8d2acd0", checked := Try.checked }
namespace Rows
def none {H : Type} : Left H := { results := [], args := [] }

/-- 'zzlaws_store_b1.FnSameLinesIsEquivalence': WHATEVER THE INPUT: true; the input reads as it did. -/
def fnSameLinesIsEquivalenceSpec : ChangeSpec := { name := "fnSameLinesIsEquivalence", fn := fun _ => fun
  | [d1, d2, d3] => { results := [.lit (.bool true)], args := [d1, d2, d3] }
  | _ => none }
def fnSameLinesIsEquivalenceRow : OpenClaim := { program := "qxb6602884a", sum := "5aaa97dd3208b0943cc566e1d309252366caf3f825ffbafc5f4d1182d8d2acd0", func := "example.com/stockhold/stockhold/zzlaws_store_b1.FnSameLinesIsEquivalence", spec := "fnSameLinesIsEquivalence", apart := false }
def FnSameLinesIsEquivalenceSaid : Prop := fnSameLinesIsEquivalenceRow.holds Try.pinned (OpenSpec.ofChange fnSameLinesIsEquivalenceSpec)

/-- ITS FALSE NEIGHBOUR: 'it returns false'. Refute it at one input. -/
def fnSameLinesIsEquivalenceWrong : ChangeSpec := { name := "fnSameLinesIsEquivalence", fn := fun _ => fun
  | [d1, d2, d3] => { results := [.lit (.bool false)], args := [d1, d2, d3] }
  | _ => none }
def FnSameLinesIsEquivalenceWrongFalsely : Prop := fnSameLinesIsEquivalenceRow.holds Try.pinned (OpenSpec.ofChange fnSameLinesIsEquivalenceWrong)

/-- 'zzlaws_store_b1.FnSameLinesRefusesAnyEdit': WHATEVER THE INPUT: true; the input reads as it did. -/
def fnSameLinesRefusesAnyEditSpec : ChangeSpec := { name := "fnSameLinesRefusesAnyEdit", fn := fun _ => fun
  | [d1, d2, d3, d4] => { results := [.lit (.bool true)], args := [d1, d2, d3, d4] }
  | _ => none }
def fnSameLinesRefusesAnyEditRow : OpenClaim := { program := "qxb6602884a", sum := "5aaa97dd3208b0943cc566e1d309252366caf3f825ffbafc5f4d1182d8d2acd0", func := "example.com/stockhold/stockhold/zzlaws_store_b1.FnSameLinesRefusesAnyEdit", spec := "fnSameLinesRefusesAnyEdit", apart := false }
def FnSameLinesRefusesAnyEditSaid : Prop := fnSameLinesRefusesAnyEditRow.holds Try.pinned (OpenSpec.ofChange fnSameLinesRefusesAnyEditSpec)

/-- ITS FALSE NEIGHBOUR: 'it returns false'. Refute it at one input. -/
def fnSameLinesRefusesAnyEditWrong : ChangeSpec := { name := "fnSameLinesRefusesAnyEdit", fn := fun _ => fun
  | [d1, d2, d3, d4] => { results := [.lit (.bool false)], args := [d1, d2, d3, d4] }
  | _ => none }
def FnSameLinesRefusesAnyEditWrongFalsely : Prop := fnSameLinesRefusesAnyEditRow.holds Try.pinned (OpenSpec.ofChange fnSameLinesRefusesAnyEditWrong)

/-- 'zzlaws_store_b1.FnSplitLinesExact': WHATEVER THE INPUT: true; the input reads as it did. -/
def fnSplitLinesExactSpec : ChangeSpec := { name := "fnSplitLinesExact", fn := fun _ => fun
  | [d] => { results := [.lit (.bool true)], args := [d] }
  | _ => none }
def fnSplitLinesExactRow : OpenClaim := { program := "qxb6602884a", sum := "5aaa97dd3208b0943cc566e1d309252366caf3f825ffbafc5f4d1182d8d2acd0", func := "example.com/stockhold/stockhold/zzlaws_store_b1.FnSplitLinesExact", spec := "fnSplitLinesExact", apart := false }
def FnSplitLinesExactSaid : Prop := fnSplitLinesExactRow.holds Try.pinned (OpenSpec.ofChange fnSplitLinesExactSpec)

/-- ITS FALSE NEIGHBOUR: 'it returns false'. Refute it at one input. -/
def fnSplitLinesExactWrong : ChangeSpec := { name := "fnSplitLinesExact", fn := fun _ => fun
  | [d] => { results := [.lit (.bool false)], args := [d] }
  | _ => none }
def FnSplitLinesExactWrongFalsely : Prop := fnSplitLinesExactRow.holds Try.pinned (OpenSpec.ofChange fnSplitLinesExactWrong)

/-- 'zzlaws_store_b1.FnSameLinesAgreesWithSplitArrays': WHATEVER THE INPUT: true; the input reads as it did. -/
def fnSameLinesAgreesWithSplitArraysSpec : ChangeSpec := { name := "fnSameLinesAgreesWithSplitArrays", fn := fun _ => fun
  | [d1, d2] => { results := [.lit (.bool true)], args := [d1, d2] }
  | _ => none }
def fnSameLinesAgreesWithSplitArraysRow : OpenClaim := { program := "qxb6602884a", sum := "5aaa97dd3208b0943cc566e1d309252366caf3f825ffbafc5f4d1182d8d2acd0", func := "example.com/stockhold/stockhold/zzlaws_store_b1.FnSameLinesAgreesWithSplitArrays", spec := "fnSameLinesAgreesWithSplitArrays", apart := false }
def FnSameLinesAgreesWithSplitArraysSaid : Prop := fnSameLinesAgreesWithSplitArraysRow.holds Try.pinned (OpenSpec.ofChange fnSameLinesAgreesWithSplitArraysSpec)

/-- ITS FALSE NEIGHBOUR: 'it returns false'. Refute it at one input. -/
def fnSameLinesAgreesWithSplitArraysWrong : ChangeSpec := { name := "fnSameLinesAgreesWithSplitArrays", fn := fun _ => fun
  | [d1, d2] => { results := [.lit (.bool false)], args := [d1, d2] }
  | _ => none }
def FnSameLinesAgreesWithSplitArraysWrongFalsely : Prop := fnSameLinesAgreesWithSplitArraysRow.holds Try.pinned (OpenSpec.ofChange fnSameLinesAgreesWithSplitArraysWrong)

end Rows
end Go.Proofs.Qxb6602884a

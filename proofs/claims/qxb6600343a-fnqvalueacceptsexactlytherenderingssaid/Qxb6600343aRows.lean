/-
  No cell of these rows narrows 'for every input' (looked for: loops, veiled, ifaces, maps, wideKeys, modest, calm, conditions, laid).
  DERIVED. THE GIVEN ROWS OF THIS SEAT. 5 by the template 'for every input the law returns true; each argument reads behind the call as it read before'; 0 by the template 'total and deterministic' (their statements: Qxb6600343aTotals.lean).
  GIVEN WITH THE SEED: the statements are not yours to turn. If you find one false, say at which input.
  Laid BY PROGRAM, IN A SANDBOX (cutbox-rows.mjs): the forced cells as the released guide's own fill.sh prints them over the translation 90afad635ddb3917… (all of the seat's roots in one cut). By AI agents, Wed Nov 11 2026. No macro, syntax, notation, axiom, sorry.
-/
import Derived.Test.Qxb6600343aChecked
import GoSem.Claim
import GoSem.ClaimJoined
import GoSem.ClaimMapViews
import Derived.JoinedTies
import Derived.KernelRfl
namespace Go.Proofs.Qxb6600343a
/- THE CELL 'sum', in the pinned program and in every row, IS THE sha256 OF THE DUMP (.gsa) THAT Qxb6600343aProg.lean LOADS. Nothing in Lean hashes anything: it is a label: what it is worth is what the hold of that sum in a sandbox is worth. -/
noncomputable def Try.pinned : Pinned := { name := "qxb6600343a", sum := "90afad635ddb391705e34689e1bec7d5385de60631034d12bf531799dfaeef25", checked := Try.checked }
namespace Rows
def none {H : Type} : Left H := { results := [], args := [] }

/-- 'zzlaws_root_b1.FnIllFormedLengthIsMaximalSubpart': WHATEVER THE INPUT: true; the input reads as it did. -/
def fnIllFormedLengthIsMaximalSubpartSpec : ChangeSpec := { name := "fnIllFormedLengthIsMaximalSubpart", fn := fun _ => fun
  | [d] => { results := [.lit (.bool true)], args := [d] }
  | _ => none }
def fnIllFormedLengthIsMaximalSubpartRow : OpenClaim := { program := "qxb6600343a", sum := "90afad635ddb391705e34689e1bec7d5385de60631034d12bf531799dfaeef25", func := "example.com/request-rules/request-rules/zzlaws_root_b1.FnIllFormedLengthIsMaximalSubpart", spec := "fnIllFormedLengthIsMaximalSubpart", apart := false }
def FnIllFormedLengthIsMaximalSubpartSaid : Prop := fnIllFormedLengthIsMaximalSubpartRow.holds Try.pinned (OpenSpec.ofChange fnIllFormedLengthIsMaximalSubpartSpec)

/-- ITS FALSE NEIGHBOUR: 'it returns false'. Refute it at one input. -/
def fnIllFormedLengthIsMaximalSubpartWrong : ChangeSpec := { name := "fnIllFormedLengthIsMaximalSubpart", fn := fun _ => fun
  | [d] => { results := [.lit (.bool false)], args := [d] }
  | _ => none }
def FnIllFormedLengthIsMaximalSubpartWrongFalsely : Prop := fnIllFormedLengthIsMaximalSubpartRow.holds Try.pinned (OpenSpec.ofChange fnIllFormedLengthIsMaximalSubpartWrong)

/-- 'zzlaws_root_b1.FnIllFormedLengthUnderCuts': WHATEVER THE INPUT: true; the input reads as it did. -/
def fnIllFormedLengthUnderCutsSpec : ChangeSpec := { name := "fnIllFormedLengthUnderCuts", fn := fun _ => fun
  | [d1, d2] => { results := [.lit (.bool true)], args := [d1, d2] }
  | _ => none }
def fnIllFormedLengthUnderCutsRow : OpenClaim := { program := "qxb6600343a", sum := "90afad635ddb391705e34689e1bec7d5385de60631034d12bf531799dfaeef25", func := "example.com/request-rules/request-rules/zzlaws_root_b1.FnIllFormedLengthUnderCuts", spec := "fnIllFormedLengthUnderCuts", apart := false }
def FnIllFormedLengthUnderCutsSaid : Prop := fnIllFormedLengthUnderCutsRow.holds Try.pinned (OpenSpec.ofChange fnIllFormedLengthUnderCutsSpec)

/-- ITS FALSE NEIGHBOUR: 'it returns false'. Refute it at one input. -/
def fnIllFormedLengthUnderCutsWrong : ChangeSpec := { name := "fnIllFormedLengthUnderCuts", fn := fun _ => fun
  | [d1, d2] => { results := [.lit (.bool false)], args := [d1, d2] }
  | _ => none }
def FnIllFormedLengthUnderCutsWrongFalsely : Prop := fnIllFormedLengthUnderCutsRow.holds Try.pinned (OpenSpec.ofChange fnIllFormedLengthUnderCutsWrong)

/-- 'zzlaws_root_b1.FnIllFormedLengthSpansAWholeCharacter': WHATEVER THE INPUT: true; the input reads as it did. -/
def fnIllFormedLengthSpansAWholeCharacterSpec : ChangeSpec := { name := "fnIllFormedLengthSpansAWholeCharacter", fn := fun _ => fun
  | [d1, d2] => { results := [.lit (.bool true)], args := [d1, d2] }
  | _ => none }
def fnIllFormedLengthSpansAWholeCharacterRow : OpenClaim := { program := "qxb6600343a", sum := "90afad635ddb391705e34689e1bec7d5385de60631034d12bf531799dfaeef25", func := "example.com/request-rules/request-rules/zzlaws_root_b1.FnIllFormedLengthSpansAWholeCharacter", spec := "fnIllFormedLengthSpansAWholeCharacter", apart := false }
def FnIllFormedLengthSpansAWholeCharacterSaid : Prop := fnIllFormedLengthSpansAWholeCharacterRow.holds Try.pinned (OpenSpec.ofChange fnIllFormedLengthSpansAWholeCharacterSpec)

/-- ITS FALSE NEIGHBOUR: 'it returns false'. Refute it at one input. -/
def fnIllFormedLengthSpansAWholeCharacterWrong : ChangeSpec := { name := "fnIllFormedLengthSpansAWholeCharacter", fn := fun _ => fun
  | [d1, d2] => { results := [.lit (.bool false)], args := [d1, d2] }
  | _ => none }
def FnIllFormedLengthSpansAWholeCharacterWrongFalsely : Prop := fnIllFormedLengthSpansAWholeCharacterRow.holds Try.pinned (OpenSpec.ofChange fnIllFormedLengthSpansAWholeCharacterWrong)

/-- 'zzlaws_root_b1.FnQvalueAcceptsExactlyTheRenderings': WHATEVER THE INPUT: true; the input reads as it did. -/
def fnQvalueAcceptsExactlyTheRenderingsSpec : ChangeSpec := { name := "fnQvalueAcceptsExactlyTheRenderings", fn := fun _ => fun
  | [d] => { results := [.lit (.bool true)], args := [d] }
  | _ => none }
def fnQvalueAcceptsExactlyTheRenderingsRow : OpenClaim := { program := "qxb6600343a", sum := "90afad635ddb391705e34689e1bec7d5385de60631034d12bf531799dfaeef25", func := "example.com/request-rules/request-rules/zzlaws_root_b1.FnQvalueAcceptsExactlyTheRenderings", spec := "fnQvalueAcceptsExactlyTheRenderings", apart := false }
def FnQvalueAcceptsExactlyTheRenderingsSaid : Prop := fnQvalueAcceptsExactlyTheRenderingsRow.holds Try.pinned (OpenSpec.ofChange fnQvalueAcceptsExactlyTheRenderingsSpec)

/-- ITS FALSE NEIGHBOUR: 'it returns false'. Refute it at one input. -/
def fnQvalueAcceptsExactlyTheRenderingsWrong : ChangeSpec := { name := "fnQvalueAcceptsExactlyTheRenderings", fn := fun _ => fun
  | [d] => { results := [.lit (.bool false)], args := [d] }
  | _ => none }
def FnQvalueAcceptsExactlyTheRenderingsWrongFalsely : Prop := fnQvalueAcceptsExactlyTheRenderingsRow.holds Try.pinned (OpenSpec.ofChange fnQvalueAcceptsExactlyTheRenderingsWrong)

/-- 'zzlaws_root_b1.FnQvaluePaddingKeepsTheWeight': WHATEVER THE INPUT: true; the input reads as it did. -/
def fnQvaluePaddingKeepsTheWeightSpec : ChangeSpec := { name := "fnQvaluePaddingKeepsTheWeight", fn := fun _ => fun
  | [d] => { results := [.lit (.bool true)], args := [d] }
  | _ => none }
def fnQvaluePaddingKeepsTheWeightRow : OpenClaim := { program := "qxb6600343a", sum := "90afad635ddb391705e34689e1bec7d5385de60631034d12bf531799dfaeef25", func := "example.com/request-rules/request-rules/zzlaws_root_b1.FnQvaluePaddingKeepsTheWeight", spec := "fnQvaluePaddingKeepsTheWeight", apart := false }
def FnQvaluePaddingKeepsTheWeightSaid : Prop := fnQvaluePaddingKeepsTheWeightRow.holds Try.pinned (OpenSpec.ofChange fnQvaluePaddingKeepsTheWeightSpec)

/-- ITS FALSE NEIGHBOUR: 'it returns false'. Refute it at one input. -/
def fnQvaluePaddingKeepsTheWeightWrong : ChangeSpec := { name := "fnQvaluePaddingKeepsTheWeight", fn := fun _ => fun
  | [d] => { results := [.lit (.bool false)], args := [d] }
  | _ => none }
def FnQvaluePaddingKeepsTheWeightWrongFalsely : Prop := fnQvaluePaddingKeepsTheWeightRow.holds Try.pinned (OpenSpec.ofChange fnQvaluePaddingKeepsTheWeightWrong)

end Rows
end Go.Proofs.Qxb6600343a

/-
  No cell of these rows narrows 'for every input' (looked for: loops, veiled, ifaces, maps, wideKeys, modest, calm, conditions, laid).
  DERIVED. THE GIVEN ROWS OF THIS SEAT. 5 by the template 'for every input the law returns true; each argument reads behind the call as it read before'; 0 by the template 'total and deterministic' (their statements: Qxb6001372aTotals.lean).
  GIVEN WITH THE SEED: the statements are not yours to turn. If you find one false, say at which input.
  Laid BY PROGRAM, IN A SANDBOX (cutbox-rows.mjs): the forced cells as the released guide's own fill.sh prints them over the translation 39094fefe8b9eb31… (all of the seat's roots in one cut). By AI agents, Wed Nov 11 2026. No macro, syntax, notation, axiom, sorry.
-/
import Derived.Test.Qxb6001372aChecked
import GoSem.Claim
import GoSem.ClaimJoined
import GoSem.ClaimMapViews
import Derived.JoinedTies
import Derived.KernelRfl
namespace Go.Proofs.Qxb6001372a
/- THE CELL 'sum', in the pinned program and in every row, IS THE sha256 OF THE DUMP (.gsa) THAT Qxb6001372aProg.lean LOADS. Nothing in Lean hashes anything: it is a label: what it is worth is what the hold of that sum in a sandbox is worth. -/
noncomputable def Try.pinned : Pinned := { name := "qxb6001372a", sum := "39094fefe8b9eb318cbbb44d04e7cc07429ba17d2f26aaf400ec3af05790f652", checked := Try.checked }
namespace Rows
def none {H : Type} : Left H := { results := [], args := [] }

/-- 'zzlaws_failover_b1.FnOptionsSizeAddsOverSplit': WHATEVER THE INPUT: true; the input reads as it did. -/
def fnOptionsSizeAddsOverSplitSpec : ChangeSpec := { name := "fnOptionsSizeAddsOverSplit", fn := fun _ => fun
  | [d1, d2, d3] => { results := [.lit (.bool true)], args := [d1, d2, d3] }
  | _ => none }
def fnOptionsSizeAddsOverSplitRow : OpenClaim := { program := "qxb6001372a", sum := "39094fefe8b9eb318cbbb44d04e7cc07429ba17d2f26aaf400ec3af05790f652", func := "example.com/leasepair/leasepair/zzlaws_failover_b1.FnOptionsSizeAddsOverSplit", spec := "fnOptionsSizeAddsOverSplit", apart := false }
def FnOptionsSizeAddsOverSplitSaid : Prop := fnOptionsSizeAddsOverSplitRow.holds Try.pinned (OpenSpec.ofChange fnOptionsSizeAddsOverSplitSpec)

/-- ITS FALSE NEIGHBOUR: 'it returns false'. Refute it at one input. -/
def fnOptionsSizeAddsOverSplitWrong : ChangeSpec := { name := "fnOptionsSizeAddsOverSplit", fn := fun _ => fun
  | [d1, d2, d3] => { results := [.lit (.bool false)], args := [d1, d2, d3] }
  | _ => none }
def FnOptionsSizeAddsOverSplitWrongFalsely : Prop := fnOptionsSizeAddsOverSplitRow.holds Try.pinned (OpenSpec.ofChange fnOptionsSizeAddsOverSplitWrong)

/-- 'zzlaws_failover_b1.FnOptionsSizeOrderFree': WHATEVER THE INPUT: true; the input reads as it did. -/
def fnOptionsSizeOrderFreeSpec : ChangeSpec := { name := "fnOptionsSizeOrderFree", fn := fun _ => fun
  | [d1, d2] => { results := [.lit (.bool true)], args := [d1, d2] }
  | _ => none }
def fnOptionsSizeOrderFreeRow : OpenClaim := { program := "qxb6001372a", sum := "39094fefe8b9eb318cbbb44d04e7cc07429ba17d2f26aaf400ec3af05790f652", func := "example.com/leasepair/leasepair/zzlaws_failover_b1.FnOptionsSizeOrderFree", spec := "fnOptionsSizeOrderFree", apart := false }
def FnOptionsSizeOrderFreeSaid : Prop := fnOptionsSizeOrderFreeRow.holds Try.pinned (OpenSpec.ofChange fnOptionsSizeOrderFreeSpec)

/-- ITS FALSE NEIGHBOUR: 'it returns false'. Refute it at one input. -/
def fnOptionsSizeOrderFreeWrong : ChangeSpec := { name := "fnOptionsSizeOrderFree", fn := fun _ => fun
  | [d1, d2] => { results := [.lit (.bool false)], args := [d1, d2] }
  | _ => none }
def FnOptionsSizeOrderFreeWrongFalsely : Prop := fnOptionsSizeOrderFreeRow.holds Try.pinned (OpenSpec.ofChange fnOptionsSizeOrderFreeWrong)

/-- 'zzlaws_failover_b1.FnOptionsSizeHeaderBound': WHATEVER THE INPUT: true; the input reads as it did. -/
def fnOptionsSizeHeaderBoundSpec : ChangeSpec := { name := "fnOptionsSizeHeaderBound", fn := fun _ => fun
  | [d1, d2] => { results := [.lit (.bool true)], args := [d1, d2] }
  | _ => none }
def fnOptionsSizeHeaderBoundRow : OpenClaim := { program := "qxb6001372a", sum := "39094fefe8b9eb318cbbb44d04e7cc07429ba17d2f26aaf400ec3af05790f652", func := "example.com/leasepair/leasepair/zzlaws_failover_b1.FnOptionsSizeHeaderBound", spec := "fnOptionsSizeHeaderBound", apart := false }
def FnOptionsSizeHeaderBoundSaid : Prop := fnOptionsSizeHeaderBoundRow.holds Try.pinned (OpenSpec.ofChange fnOptionsSizeHeaderBoundSpec)

/-- ITS FALSE NEIGHBOUR: 'it returns false'. Refute it at one input. -/
def fnOptionsSizeHeaderBoundWrong : ChangeSpec := { name := "fnOptionsSizeHeaderBound", fn := fun _ => fun
  | [d1, d2] => { results := [.lit (.bool false)], args := [d1, d2] }
  | _ => none }
def FnOptionsSizeHeaderBoundWrongFalsely : Prop := fnOptionsSizeHeaderBoundRow.holds Try.pinned (OpenSpec.ofChange fnOptionsSizeHeaderBoundWrong)

/-- 'zzlaws_failover_b1.FnOutOfContactIdempotent': WHATEVER THE INPUT: true; the input reads as it did. -/
def fnOutOfContactIdempotentSpec : ChangeSpec := { name := "fnOutOfContactIdempotent", fn := fun _ => fun
  | [d] => { results := [.lit (.bool true)], args := [d] }
  | _ => none }
def fnOutOfContactIdempotentRow : OpenClaim := { program := "qxb6001372a", sum := "39094fefe8b9eb318cbbb44d04e7cc07429ba17d2f26aaf400ec3af05790f652", func := "example.com/leasepair/leasepair/zzlaws_failover_b1.FnOutOfContactIdempotent", spec := "fnOutOfContactIdempotent", apart := false }
def FnOutOfContactIdempotentSaid : Prop := fnOutOfContactIdempotentRow.holds Try.pinned (OpenSpec.ofChange fnOutOfContactIdempotentSpec)

/-- ITS FALSE NEIGHBOUR: 'it returns false'. Refute it at one input. -/
def fnOutOfContactIdempotentWrong : ChangeSpec := { name := "fnOutOfContactIdempotent", fn := fun _ => fun
  | [d] => { results := [.lit (.bool false)], args := [d] }
  | _ => none }
def FnOutOfContactIdempotentWrongFalsely : Prop := fnOutOfContactIdempotentRow.holds Try.pinned (OpenSpec.ofChange fnOutOfContactIdempotentWrong)

/-- 'zzlaws_failover_b1.FnOutOfContactLeavesNoInContactState': WHATEVER THE INPUT: true; the input reads as it did. -/
def fnOutOfContactLeavesNoInContactStateSpec : ChangeSpec := { name := "fnOutOfContactLeavesNoInContactState", fn := fun _ => fun
  | [d] => { results := [.lit (.bool true)], args := [d] }
  | _ => none }
def fnOutOfContactLeavesNoInContactStateRow : OpenClaim := { program := "qxb6001372a", sum := "39094fefe8b9eb318cbbb44d04e7cc07429ba17d2f26aaf400ec3af05790f652", func := "example.com/leasepair/leasepair/zzlaws_failover_b1.FnOutOfContactLeavesNoInContactState", spec := "fnOutOfContactLeavesNoInContactState", apart := false }
def FnOutOfContactLeavesNoInContactStateSaid : Prop := fnOutOfContactLeavesNoInContactStateRow.holds Try.pinned (OpenSpec.ofChange fnOutOfContactLeavesNoInContactStateSpec)

/-- ITS FALSE NEIGHBOUR: 'it returns false'. Refute it at one input. -/
def fnOutOfContactLeavesNoInContactStateWrong : ChangeSpec := { name := "fnOutOfContactLeavesNoInContactState", fn := fun _ => fun
  | [d] => { results := [.lit (.bool false)], args := [d] }
  | _ => none }
def FnOutOfContactLeavesNoInContactStateWrongFalsely : Prop := fnOutOfContactLeavesNoInContactStateRow.holds Try.pinned (OpenSpec.ofChange fnOutOfContactLeavesNoInContactStateWrong)

end Rows
end Go.Proofs.Qxb6001372a

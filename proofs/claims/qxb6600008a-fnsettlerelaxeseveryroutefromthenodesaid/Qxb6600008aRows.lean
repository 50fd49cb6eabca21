/-
  No cell of these rows narrows 'for every input' (looked for: loops, veiled, ifaces, maps, wideKeys, modest, calm, conditions, laid).
  DERIVED. THE GIVEN ROWS OF THIS SEAT. 6 by the template 'for every input the law returns true; each argument reads behind the call as it read before'; 0 by the template 'total and deterministic' (their statements: Qxb6600008aTotals.lean).
  GIVEN WITH THE SEED: the statements are not yours to turn. If you find one false, say at which input.
  Laid BY PROGRAM, IN A SANDBOX (cutbox-rows.mjs): the forced cells as the released guide's own fill.sh prints them over the translation 75ba06ea8fdd9b40… (all of the seat's roots in one cut). By AI agents, Wed Nov 11 2026. No macro, syntax, notation, axiom, sorry.
-/
import Derived.Test.Qxb6600008aChecked
import GoSem.Claim
import GoSem.ClaimJoined
import GoSem.ClaimMapViews
import Derived.JoinedTies
import Derived.KernelRfl
namespace Go.Proofs.Qxb6600008a
/- THE CELL 'sum', in the pinned program and in every row, IS THE sha256 OF THE DUMP (.gsa) THAT Qxb6600008aProg.lean LOADS. Nothing in Lean hashes anything: it is a label: what it is worth is what the hold of that sum in a sandbox is worth. -/
noncomputable def Try.pinned : Pinned := { name := "qxb6600008a", sum := "75ba06ea8fdd9b40b2cff10d611baa14d9f8bb39a1fb32c0cb45ca915fc6f90c", checked := Try.checked }
namespace Rows
def none {H : Type} : Left H := { results := [], args := [] }

/-- 'zzlaws_internal_plan_b1.FnCheapestIsFirstLeastReducedCost': WHATEVER THE INPUT: true; the input reads as it did. -/
def fnCheapestIsFirstLeastReducedCostSpec : ChangeSpec := { name := "fnCheapestIsFirstLeastReducedCost", fn := fun _ => fun
  | [d1, d2, d3, d4, d5] => { results := [.lit (.bool true)], args := [d1, d2, d3, d4, d5] }
  | _ => none }
def fnCheapestIsFirstLeastReducedCostRow : OpenClaim := { program := "qxb6600008a", sum := "75ba06ea8fdd9b40b2cff10d611baa14d9f8bb39a1fb32c0cb45ca915fc6f90c", func := "example.com/presage/presage/zzlaws_internal_plan_b1.FnCheapestIsFirstLeastReducedCost", spec := "fnCheapestIsFirstLeastReducedCost", apart := false }
def FnCheapestIsFirstLeastReducedCostSaid : Prop := fnCheapestIsFirstLeastReducedCostRow.holds Try.pinned (OpenSpec.ofChange fnCheapestIsFirstLeastReducedCostSpec)

/-- ITS FALSE NEIGHBOUR: 'it returns false'. Refute it at one input. -/
def fnCheapestIsFirstLeastReducedCostWrong : ChangeSpec := { name := "fnCheapestIsFirstLeastReducedCost", fn := fun _ => fun
  | [d1, d2, d3, d4, d5] => { results := [.lit (.bool false)], args := [d1, d2, d3, d4, d5] }
  | _ => none }
def FnCheapestIsFirstLeastReducedCostWrongFalsely : Prop := fnCheapestIsFirstLeastReducedCostRow.holds Try.pinned (OpenSpec.ofChange fnCheapestIsFirstLeastReducedCostWrong)

/-- 'zzlaws_internal_plan_b1.FnCheapestSeesOnlyWhetherSupplyIsLeft': WHATEVER THE INPUT: true; the input reads as it did. -/
def fnCheapestSeesOnlyWhetherSupplyIsLeftSpec : ChangeSpec := { name := "fnCheapestSeesOnlyWhetherSupplyIsLeft", fn := fun _ => fun
  | [d1, d2, d3, d4, d5] => { results := [.lit (.bool true)], args := [d1, d2, d3, d4, d5] }
  | _ => none }
def fnCheapestSeesOnlyWhetherSupplyIsLeftRow : OpenClaim := { program := "qxb6600008a", sum := "75ba06ea8fdd9b40b2cff10d611baa14d9f8bb39a1fb32c0cb45ca915fc6f90c", func := "example.com/presage/presage/zzlaws_internal_plan_b1.FnCheapestSeesOnlyWhetherSupplyIsLeft", spec := "fnCheapestSeesOnlyWhetherSupplyIsLeft", apart := false }
def FnCheapestSeesOnlyWhetherSupplyIsLeftSaid : Prop := fnCheapestSeesOnlyWhetherSupplyIsLeftRow.holds Try.pinned (OpenSpec.ofChange fnCheapestSeesOnlyWhetherSupplyIsLeftSpec)

/-- ITS FALSE NEIGHBOUR: 'it returns false'. Refute it at one input. -/
def fnCheapestSeesOnlyWhetherSupplyIsLeftWrong : ChangeSpec := { name := "fnCheapestSeesOnlyWhetherSupplyIsLeft", fn := fun _ => fun
  | [d1, d2, d3, d4, d5] => { results := [.lit (.bool false)], args := [d1, d2, d3, d4, d5] }
  | _ => none }
def FnCheapestSeesOnlyWhetherSupplyIsLeftWrongFalsely : Prop := fnCheapestSeesOnlyWhetherSupplyIsLeftRow.holds Try.pinned (OpenSpec.ofChange fnCheapestSeesOnlyWhetherSupplyIsLeftWrong)

/-- 'zzlaws_internal_plan_b1.FnCheapestKeepsItsChoiceWhenRivalsLose': WHATEVER THE INPUT: true; the input reads as it did. -/
def fnCheapestKeepsItsChoiceWhenRivalsLoseSpec : ChangeSpec := { name := "fnCheapestKeepsItsChoiceWhenRivalsLose", fn := fun _ => fun
  | [d1, d2, d3, d4, d5, d6, d7] => { results := [.lit (.bool true)], args := [d1, d2, d3, d4, d5, d6, d7] }
  | _ => none }
def fnCheapestKeepsItsChoiceWhenRivalsLoseRow : OpenClaim := { program := "qxb6600008a", sum := "75ba06ea8fdd9b40b2cff10d611baa14d9f8bb39a1fb32c0cb45ca915fc6f90c", func := "example.com/presage/presage/zzlaws_internal_plan_b1.FnCheapestKeepsItsChoiceWhenRivalsLose", spec := "fnCheapestKeepsItsChoiceWhenRivalsLose", apart := false }
def FnCheapestKeepsItsChoiceWhenRivalsLoseSaid : Prop := fnCheapestKeepsItsChoiceWhenRivalsLoseRow.holds Try.pinned (OpenSpec.ofChange fnCheapestKeepsItsChoiceWhenRivalsLoseSpec)

/-- ITS FALSE NEIGHBOUR: 'it returns false'. Refute it at one input. -/
def fnCheapestKeepsItsChoiceWhenRivalsLoseWrong : ChangeSpec := { name := "fnCheapestKeepsItsChoiceWhenRivalsLose", fn := fun _ => fun
  | [d1, d2, d3, d4, d5, d6, d7] => { results := [.lit (.bool false)], args := [d1, d2, d3, d4, d5, d6, d7] }
  | _ => none }
def FnCheapestKeepsItsChoiceWhenRivalsLoseWrongFalsely : Prop := fnCheapestKeepsItsChoiceWhenRivalsLoseRow.holds Try.pinned (OpenSpec.ofChange fnCheapestKeepsItsChoiceWhenRivalsLoseWrong)

/-- 'zzlaws_internal_plan_b1.FnSettleRelaxesEveryRouteFromTheNode': WHATEVER THE INPUT: true; the input reads as it did. -/
def fnSettleRelaxesEveryRouteFromTheNodeSpec : ChangeSpec := { name := "fnSettleRelaxesEveryRouteFromTheNode", fn := fun _ => fun
  | [d1, d2, d3, d4, d5, d6, d7, d8, d9, d10] => { results := [.lit (.bool true)], args := [d1, d2, d3, d4, d5, d6, d7, d8, d9, d10] }
  | _ => none }
def fnSettleRelaxesEveryRouteFromTheNodeRow : OpenClaim := { program := "qxb6600008a", sum := "75ba06ea8fdd9b40b2cff10d611baa14d9f8bb39a1fb32c0cb45ca915fc6f90c", func := "example.com/presage/presage/zzlaws_internal_plan_b1.FnSettleRelaxesEveryRouteFromTheNode", spec := "fnSettleRelaxesEveryRouteFromTheNode", apart := false }
def FnSettleRelaxesEveryRouteFromTheNodeSaid : Prop := fnSettleRelaxesEveryRouteFromTheNodeRow.holds Try.pinned (OpenSpec.ofChange fnSettleRelaxesEveryRouteFromTheNodeSpec)

/-- ITS FALSE NEIGHBOUR: 'it returns false'. Refute it at one input. -/
def fnSettleRelaxesEveryRouteFromTheNodeWrong : ChangeSpec := { name := "fnSettleRelaxesEveryRouteFromTheNode", fn := fun _ => fun
  | [d1, d2, d3, d4, d5, d6, d7, d8, d9, d10] => { results := [.lit (.bool false)], args := [d1, d2, d3, d4, d5, d6, d7, d8, d9, d10] }
  | _ => none }
def FnSettleRelaxesEveryRouteFromTheNodeWrongFalsely : Prop := fnSettleRelaxesEveryRouteFromTheNodeRow.holds Try.pinned (OpenSpec.ofChange fnSettleRelaxesEveryRouteFromTheNodeWrong)

/-- 'zzlaws_internal_plan_b1.FnSettleTwiceIsSettleOnce': WHATEVER THE INPUT: true; the input reads as it did. -/
def fnSettleTwiceIsSettleOnceSpec : ChangeSpec := { name := "fnSettleTwiceIsSettleOnce", fn := fun _ => fun
  | [d1, d2, d3, d4, d5, d6, d7, d8, d9, d10] => { results := [.lit (.bool true)], args := [d1, d2, d3, d4, d5, d6, d7, d8, d9, d10] }
  | _ => none }
def fnSettleTwiceIsSettleOnceRow : OpenClaim := { program := "qxb6600008a", sum := "75ba06ea8fdd9b40b2cff10d611baa14d9f8bb39a1fb32c0cb45ca915fc6f90c", func := "example.com/presage/presage/zzlaws_internal_plan_b1.FnSettleTwiceIsSettleOnce", spec := "fnSettleTwiceIsSettleOnce", apart := false }
def FnSettleTwiceIsSettleOnceSaid : Prop := fnSettleTwiceIsSettleOnceRow.holds Try.pinned (OpenSpec.ofChange fnSettleTwiceIsSettleOnceSpec)

/-- ITS FALSE NEIGHBOUR: 'it returns false'. Refute it at one input. -/
def fnSettleTwiceIsSettleOnceWrong : ChangeSpec := { name := "fnSettleTwiceIsSettleOnce", fn := fun _ => fun
  | [d1, d2, d3, d4, d5, d6, d7, d8, d9, d10] => { results := [.lit (.bool false)], args := [d1, d2, d3, d4, d5, d6, d7, d8, d9, d10] }
  | _ => none }
def FnSettleTwiceIsSettleOnceWrongFalsely : Prop := fnSettleTwiceIsSettleOnceRow.holds Try.pinned (OpenSpec.ofChange fnSettleTwiceIsSettleOnceWrong)

/-- 'zzlaws_internal_plan_b1.FnSettleSameSideInEitherOrder': WHATEVER THE INPUT: true; the input reads as it did. -/
def fnSettleSameSideInEitherOrderSpec : ChangeSpec := { name := "fnSettleSameSideInEitherOrder", fn := fun _ => fun
  | [d1, d2, d3, d4, d5, d6, d7, d8, d9, d10, d11, d12] => { results := [.lit (.bool true)], args := [d1, d2, d3, d4, d5, d6, d7, d8, d9, d10, d11, d12] }
  | _ => none }
def fnSettleSameSideInEitherOrderRow : OpenClaim := { program := "qxb6600008a", sum := "75ba06ea8fdd9b40b2cff10d611baa14d9f8bb39a1fb32c0cb45ca915fc6f90c", func := "example.com/presage/presage/zzlaws_internal_plan_b1.FnSettleSameSideInEitherOrder", spec := "fnSettleSameSideInEitherOrder", apart := false }
def FnSettleSameSideInEitherOrderSaid : Prop := fnSettleSameSideInEitherOrderRow.holds Try.pinned (OpenSpec.ofChange fnSettleSameSideInEitherOrderSpec)

/-- ITS FALSE NEIGHBOUR: 'it returns false'. Refute it at one input. -/
def fnSettleSameSideInEitherOrderWrong : ChangeSpec := { name := "fnSettleSameSideInEitherOrder", fn := fun _ => fun
  | [d1, d2, d3, d4, d5, d6, d7, d8, d9, d10, d11, d12] => { results := [.lit (.bool false)], args := [d1, d2, d3, d4, d5, d6, d7, d8, d9, d10, d11, d12] }
  | _ => none }
def FnSettleSameSideInEitherOrderWrongFalsely : Prop := fnSettleSameSideInEitherOrderRow.holds Try.pinned (OpenSpec.ofChange fnSettleSameSideInEitherOrderWrong)

end Rows
end Go.Proofs.Qxb6600008a

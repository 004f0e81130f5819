/-
  No cell of these rows narrows 'for every input' (looked for: loops, veiled, ifaces, maps, wideKeys, modest, calm, conditions, laid).
  DERIVED. THE GIVEN ROWS OF THIS SEAT. 5 by the template 'for every input the law returns true; each argument reads behind the call as it read before'; 0 by the template 'total and deterministic' (their statements: Qxb6602369aTotals.lean).
  GIVEN WITH THE SEED: the statements are not yours to turn. If you find one false, say at which input.
  Laid BY PROGRAM, IN A SANDBOX (cutbox-rows.mjs): the forced cells as the released guide's own fill.sh prints them over the translation 3ee203fd9fb24d88… (all of the seat's roots in one cut). By AI agents, Wed Nov 11 2026. No macro, syntax, notation, axiom, sorry.
-/
import Derived.Test.Qxb6602369aChecked
import GoSem.Claim
import GoSem.ClaimJoined
import GoSem.ClaimMapViews
import Derived.JoinedTies
import Derived.KernelRfl
namespace Go.Proofs.Qxb6602369a
/- THE CELL 'sum', in the pinned program and in every row, IS THE sha256 OF THE DUMP (.gsa) THAT Qxb6602369aProg.lean LOADS. Nothing in Lean hashes anything: it is a label: what it is worth is what the hold of that sum in a sandbox is worth. -/
noncomputable def Try.pinned : Pinned := { name := "qxb6602369a", sum := "3ee203fd9fb24d8880ca93c02917a7c278e35d1f802d69c34615f9eb9c327c70", checked := Try.checked }
namespace Rows
def none {H : Type} : Left H := { results := [], args := [] }

/-- 'zzlaws_internal_graph_b1.FnOnCycleIsNontrivialComponent': WHATEVER THE INPUT: true; the input reads as it did. -/
def fnOnCycleIsNontrivialComponentSpec : ChangeSpec := { name := "fnOnCycleIsNontrivialComponent", fn := fun _ => fun
  | [d] => { results := [.lit (.bool true)], args := [d] }
  | _ => none }
def fnOnCycleIsNontrivialComponentRow : OpenClaim := { program := "qxb6602369a", sum := "3ee203fd9fb24d8880ca93c02917a7c278e35d1f802d69c34615f9eb9c327c70", func := "example.com/toposcribe/toposcribe/zzlaws_internal_graph_b1.FnOnCycleIsNontrivialComponent", spec := "fnOnCycleIsNontrivialComponent", unfollowed := true, recurses := true, apart := false }
def FnOnCycleIsNontrivialComponentSaid : Prop := fnOnCycleIsNontrivialComponentRow.holds Try.pinned (OpenSpec.ofChange fnOnCycleIsNontrivialComponentSpec)

/-- ITS FALSE NEIGHBOUR: 'it returns false'. Refute it at one input. -/
def fnOnCycleIsNontrivialComponentWrong : ChangeSpec := { name := "fnOnCycleIsNontrivialComponent", fn := fun _ => fun
  | [d] => { results := [.lit (.bool false)], args := [d] }
  | _ => none }
def FnOnCycleIsNontrivialComponentWrongFalsely : Prop := fnOnCycleIsNontrivialComponentRow.holds Try.pinned (OpenSpec.ofChange fnOnCycleIsNontrivialComponentWrong)

/-- 'zzlaws_internal_graph_b1.FnOnCycleSameOnReversedNeeds': WHATEVER THE INPUT: true; the input reads as it did. -/
def fnOnCycleSameOnReversedNeedsSpec : ChangeSpec := { name := "fnOnCycleSameOnReversedNeeds", fn := fun _ => fun
  | [d] => { results := [.lit (.bool true)], args := [d] }
  | _ => none }
def fnOnCycleSameOnReversedNeedsRow : OpenClaim := { program := "qxb6602369a", sum := "3ee203fd9fb24d8880ca93c02917a7c278e35d1f802d69c34615f9eb9c327c70", func := "example.com/toposcribe/toposcribe/zzlaws_internal_graph_b1.FnOnCycleSameOnReversedNeeds", spec := "fnOnCycleSameOnReversedNeeds", unfollowed := true, recurses := true, apart := false }
def FnOnCycleSameOnReversedNeedsSaid : Prop := fnOnCycleSameOnReversedNeedsRow.holds Try.pinned (OpenSpec.ofChange fnOnCycleSameOnReversedNeedsSpec)

/-- ITS FALSE NEIGHBOUR: 'it returns false'. Refute it at one input. -/
def fnOnCycleSameOnReversedNeedsWrong : ChangeSpec := { name := "fnOnCycleSameOnReversedNeeds", fn := fun _ => fun
  | [d] => { results := [.lit (.bool false)], args := [d] }
  | _ => none }
def FnOnCycleSameOnReversedNeedsWrongFalsely : Prop := fnOnCycleSameOnReversedNeedsRow.holds Try.pinned (OpenSpec.ofChange fnOnCycleSameOnReversedNeedsWrong)

/-- 'zzlaws_internal_graph_b1.FnFirstCycleIsLeastShortestCycleThroughLowest': WHATEVER THE INPUT: true; the input reads as it did. -/
def fnFirstCycleIsLeastShortestCycleThroughLowestSpec : ChangeSpec := { name := "fnFirstCycleIsLeastShortestCycleThroughLowest", fn := fun _ => fun
  | [d] => { results := [.lit (.bool true)], args := [d] }
  | _ => none }
def fnFirstCycleIsLeastShortestCycleThroughLowestRow : OpenClaim := { program := "qxb6602369a", sum := "3ee203fd9fb24d8880ca93c02917a7c278e35d1f802d69c34615f9eb9c327c70", func := "example.com/toposcribe/toposcribe/zzlaws_internal_graph_b1.FnFirstCycleIsLeastShortestCycleThroughLowest", spec := "fnFirstCycleIsLeastShortestCycleThroughLowest", unfollowed := true, recurses := true, apart := false }
def FnFirstCycleIsLeastShortestCycleThroughLowestSaid : Prop := fnFirstCycleIsLeastShortestCycleThroughLowestRow.holds Try.pinned (OpenSpec.ofChange fnFirstCycleIsLeastShortestCycleThroughLowestSpec)

/-- ITS FALSE NEIGHBOUR: 'it returns false'. Refute it at one input. -/
def fnFirstCycleIsLeastShortestCycleThroughLowestWrong : ChangeSpec := { name := "fnFirstCycleIsLeastShortestCycleThroughLowest", fn := fun _ => fun
  | [d] => { results := [.lit (.bool false)], args := [d] }
  | _ => none }
def FnFirstCycleIsLeastShortestCycleThroughLowestWrongFalsely : Prop := fnFirstCycleIsLeastShortestCycleThroughLowestRow.holds Try.pinned (OpenSpec.ofChange fnFirstCycleIsLeastShortestCycleThroughLowestWrong)

/-- 'zzlaws_internal_graph_b1.FnFirstCycleSeesPartsAsNeedsOfTheirNode': WHATEVER THE INPUT: true; the input reads as it did. -/
def fnFirstCycleSeesPartsAsNeedsOfTheirNodeSpec : ChangeSpec := { name := "fnFirstCycleSeesPartsAsNeedsOfTheirNode", fn := fun _ => fun
  | [d] => { results := [.lit (.bool true)], args := [d] }
  | _ => none }
def fnFirstCycleSeesPartsAsNeedsOfTheirNodeRow : OpenClaim := { program := "qxb6602369a", sum := "3ee203fd9fb24d8880ca93c02917a7c278e35d1f802d69c34615f9eb9c327c70", func := "example.com/toposcribe/toposcribe/zzlaws_internal_graph_b1.FnFirstCycleSeesPartsAsNeedsOfTheirNode", spec := "fnFirstCycleSeesPartsAsNeedsOfTheirNode", unfollowed := true, recurses := true, apart := false }
def FnFirstCycleSeesPartsAsNeedsOfTheirNodeSaid : Prop := fnFirstCycleSeesPartsAsNeedsOfTheirNodeRow.holds Try.pinned (OpenSpec.ofChange fnFirstCycleSeesPartsAsNeedsOfTheirNodeSpec)

/-- ITS FALSE NEIGHBOUR: 'it returns false'. Refute it at one input. -/
def fnFirstCycleSeesPartsAsNeedsOfTheirNodeWrong : ChangeSpec := { name := "fnFirstCycleSeesPartsAsNeedsOfTheirNode", fn := fun _ => fun
  | [d] => { results := [.lit (.bool false)], args := [d] }
  | _ => none }
def FnFirstCycleSeesPartsAsNeedsOfTheirNodeWrongFalsely : Prop := fnFirstCycleSeesPartsAsNeedsOfTheirNodeRow.holds Try.pinned (OpenSpec.ofChange fnFirstCycleSeesPartsAsNeedsOfTheirNodeWrong)

/-- 'zzlaws_internal_graph_b1.FnNewSorterNumbersItemsAndTheirNeeds': WHATEVER THE INPUT: true; the input reads as it did. -/
def fnNewSorterNumbersItemsAndTheirNeedsSpec : ChangeSpec := { name := "fnNewSorterNumbersItemsAndTheirNeeds", fn := fun _ => fun
  | [d] => { results := [.lit (.bool true)], args := [d] }
  | _ => none }
def fnNewSorterNumbersItemsAndTheirNeedsRow : OpenClaim := { program := "qxb6602369a", sum := "3ee203fd9fb24d8880ca93c02917a7c278e35d1f802d69c34615f9eb9c327c70", func := "example.com/toposcribe/toposcribe/zzlaws_internal_graph_b1.FnNewSorterNumbersItemsAndTheirNeeds", spec := "fnNewSorterNumbersItemsAndTheirNeeds", unfollowed := true, recurses := true, apart := false }
def FnNewSorterNumbersItemsAndTheirNeedsSaid : Prop := fnNewSorterNumbersItemsAndTheirNeedsRow.holds Try.pinned (OpenSpec.ofChange fnNewSorterNumbersItemsAndTheirNeedsSpec)

/-- ITS FALSE NEIGHBOUR: 'it returns false'. Refute it at one input. -/
def fnNewSorterNumbersItemsAndTheirNeedsWrong : ChangeSpec := { name := "fnNewSorterNumbersItemsAndTheirNeeds", fn := fun _ => fun
  | [d] => { results := [.lit (.bool false)], args := [d] }
  | _ => none }
def FnNewSorterNumbersItemsAndTheirNeedsWrongFalsely : Prop := fnNewSorterNumbersItemsAndTheirNeedsRow.holds Try.pinned (OpenSpec.ofChange fnNewSorterNumbersItemsAndTheirNeedsWrong)

end Rows
end Go.Proofs.Qxb6602369a

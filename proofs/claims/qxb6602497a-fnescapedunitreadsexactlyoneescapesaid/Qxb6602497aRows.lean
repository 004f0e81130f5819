/-
  No cell of these rows narrows 'for every input' (looked for: loops, veiled, ifaces, maps, wideKeys, modest, calm, conditions, laid).
  DERIVED. THE GIVEN ROWS OF THIS SEAT. 2 by the template 'for every input the law returns true; each argument reads behind the call as it read before'; 0 by the template 'total and deterministic' (their statements: Qxb6602497aTotals.lean).
  GIVEN WITH THE SEED: the statements are not yours to turn. If you find one false, say at which input.
  Laid BY PROGRAM, IN A SANDBOX (cutbox-rows.mjs): the forced cells as the released guide's own fill.sh prints them over the translation 811d9f7a63f54a5a… (all of the seat's roots in one cut). By AI agents, Wed Nov 11 2026. No macro, syntax, notation, axiom, sorry.
-/
import Derived.Test.Qxb6602497aChecked
import GoSem.Claim
import GoSem.ClaimJoined
import GoSem.ClaimMapViews
import Derived.JoinedTies
import Derived.KernelRfl
namespace Go.Proofs.Qxb6602497a
/- THE CELL 'sum', in the pinned program and in every row, IS THE sha256 OF THE DUMP (.gsa) THAT Qxb6602497aProg.lean LOADS. Nothing in Lean hashes anything: it is a label: what it is worth is what the hold of that sum in a sandbox is worth. -/
noncomputable def Try.pinned : Pinned := { name := "qxb6602497a", sum := "811d9f7a63f54a5ac4643763806835674100e085fc36cda36d852fcc75dca308", checked := Try.checked }
namespace Rows
def none {H : Type} : Left H := { results := [], args := [] }

/-- 'zzlaws_object_b1.FnEscapedUnitReadsExactlyOneEscape': WHATEVER THE INPUT: true; the input reads as it did. -/
def fnEscapedUnitReadsExactlyOneEscapeSpec : ChangeSpec := { name := "fnEscapedUnitReadsExactlyOneEscape", fn := fun _ => fun
  | [d1, d2] => { results := [.lit (.bool true)], args := [d1, d2] }
  | _ => none }
def fnEscapedUnitReadsExactlyOneEscapeRow : OpenClaim := { program := "qxb6602497a", sum := "811d9f7a63f54a5ac4643763806835674100e085fc36cda36d852fcc75dca308", func := "example.com/holdfast/holdfast/zzlaws_object_b1.FnEscapedUnitReadsExactlyOneEscape", spec := "fnEscapedUnitReadsExactlyOneEscape", apart := false }
def FnEscapedUnitReadsExactlyOneEscapeSaid : Prop := fnEscapedUnitReadsExactlyOneEscapeRow.holds Try.pinned (OpenSpec.ofChange fnEscapedUnitReadsExactlyOneEscapeSpec)

/-- ITS FALSE NEIGHBOUR: 'it returns false'. Refute it at one input. -/
def fnEscapedUnitReadsExactlyOneEscapeWrong : ChangeSpec := { name := "fnEscapedUnitReadsExactlyOneEscape", fn := fun _ => fun
  | [d1, d2] => { results := [.lit (.bool false)], args := [d1, d2] }
  | _ => none }
def FnEscapedUnitReadsExactlyOneEscapeWrongFalsely : Prop := fnEscapedUnitReadsExactlyOneEscapeRow.holds Try.pinned (OpenSpec.ofChange fnEscapedUnitReadsExactlyOneEscapeWrong)

/-- 'zzlaws_object_b1.FnEscapedUnitInvertsEscapeWriting': WHATEVER THE INPUT: true; the input reads as it did. -/
def fnEscapedUnitInvertsEscapeWritingSpec : ChangeSpec := { name := "fnEscapedUnitInvertsEscapeWriting", fn := fun _ => fun
  | [d1, d2, d3, d4] => { results := [.lit (.bool true)], args := [d1, d2, d3, d4] }
  | _ => none }
def fnEscapedUnitInvertsEscapeWritingRow : OpenClaim := { program := "qxb6602497a", sum := "811d9f7a63f54a5ac4643763806835674100e085fc36cda36d852fcc75dca308", func := "example.com/holdfast/holdfast/zzlaws_object_b1.FnEscapedUnitInvertsEscapeWriting", spec := "fnEscapedUnitInvertsEscapeWriting", apart := false }
def FnEscapedUnitInvertsEscapeWritingSaid : Prop := fnEscapedUnitInvertsEscapeWritingRow.holds Try.pinned (OpenSpec.ofChange fnEscapedUnitInvertsEscapeWritingSpec)

/-- ITS FALSE NEIGHBOUR: 'it returns false'. Refute it at one input. -/
def fnEscapedUnitInvertsEscapeWritingWrong : ChangeSpec := { name := "fnEscapedUnitInvertsEscapeWriting", fn := fun _ => fun
  | [d1, d2, d3, d4] => { results := [.lit (.bool false)], args := [d1, d2, d3, d4] }
  | _ => none }
def FnEscapedUnitInvertsEscapeWritingWrongFalsely : Prop := fnEscapedUnitInvertsEscapeWritingRow.holds Try.pinned (OpenSpec.ofChange fnEscapedUnitInvertsEscapeWritingWrong)

end Rows
end Go.Proofs.Qxb6602497a

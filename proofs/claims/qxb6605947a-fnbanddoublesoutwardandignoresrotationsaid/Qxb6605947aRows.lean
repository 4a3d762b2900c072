/-
  No cell of these rows narrows 'for every input' (looked for: loops, veiled, ifaces, maps, wideKeys, modest, calm, conditions, laid).
  DERIVED. THE GIVEN ROWS OF THIS SEAT. 2 by the template 'for every input the law returns true; each argument reads behind the call as it read before'; 0 by the template 'total and deterministic' (their statements: Qxb6605947aTotals.lean).
  GIVEN WITH THE SEED: the statements are not yours to turn. If you find one false, say at which input.
  Laid BY PROGRAM, IN A SANDBOX (cutbox-rows.mjs): the forced cells as the released guide's own fill.sh prints them over the translation 6764504c2411474d… (all of the seat's roots in one cut). By AI agents, Wed Nov 11 2026. No macro, syntax, notation, axiom, sorry.
-/
import Derived.Test.Qxb6605947aChecked
import GoSem.Claim
import GoSem.ClaimJoined
import GoSem.ClaimMapViews
import Derived.JoinedTies
import Derived.KernelRfl
namespace Go.Proofs.Qxb6605947a
/- THE CELL 'sum', in the pinned program and in every row, IS THE sha256 OF THE DUMP (.gsa) THAT Qxb6605947aProg.lean LOADS. Nothing in Lean hashes anything: it is a label: what it is worth is what the hold of that sum in a sandbox is worth. -/
noncomputable def Try.pinned : Pinned := { name := "qxb6605947a", sum := "6764504c2411474d3bdc0fa14d35066ab282d57f31df358faf3d4bffd1cff3d0", checked := Try.checked }
namespace Rows
def none {H : Type} : Left H := { results := [], args := [] }

/-- 'zzlaws_chord_b1.FnBandIsTheOffsetsTopBit': WHATEVER THE INPUT: true; the input reads as it did. -/
def fnBandIsTheOffsetsTopBitSpec : ChangeSpec := { name := "fnBandIsTheOffsetsTopBit", fn := fun _ => fun
  | [d1, d2] => { results := [.lit (.bool true)], args := [d1, d2] }
  | _ => none }
def fnBandIsTheOffsetsTopBitRow : OpenClaim := { program := "qxb6605947a", sum := "6764504c2411474d3bdc0fa14d35066ab282d57f31df358faf3d4bffd1cff3d0", func := "example.com/ringrise/ringrise/zzlaws_chord_b1.FnBandIsTheOffsetsTopBit", spec := "fnBandIsTheOffsetsTopBit", apart := false }
def FnBandIsTheOffsetsTopBitSaid : Prop := fnBandIsTheOffsetsTopBitRow.holds Try.pinned (OpenSpec.ofChange fnBandIsTheOffsetsTopBitSpec)

/-- ITS FALSE NEIGHBOUR: 'it returns false'. Refute it at one input. -/
def fnBandIsTheOffsetsTopBitWrong : ChangeSpec := { name := "fnBandIsTheOffsetsTopBit", fn := fun _ => fun
  | [d1, d2] => { results := [.lit (.bool false)], args := [d1, d2] }
  | _ => none }
def FnBandIsTheOffsetsTopBitWrongFalsely : Prop := fnBandIsTheOffsetsTopBitRow.holds Try.pinned (OpenSpec.ofChange fnBandIsTheOffsetsTopBitWrong)

/-- 'zzlaws_chord_b1.FnBandDoublesOutwardAndIgnoresRotation': WHATEVER THE INPUT: true; the input reads as it did. -/
def fnBandDoublesOutwardAndIgnoresRotationSpec : ChangeSpec := { name := "fnBandDoublesOutwardAndIgnoresRotation", fn := fun _ => fun
  | [d1, d2, d3] => { results := [.lit (.bool true)], args := [d1, d2, d3] }
  | _ => none }
def fnBandDoublesOutwardAndIgnoresRotationRow : OpenClaim := { program := "qxb6605947a", sum := "6764504c2411474d3bdc0fa14d35066ab282d57f31df358faf3d4bffd1cff3d0", func := "example.com/ringrise/ringrise/zzlaws_chord_b1.FnBandDoublesOutwardAndIgnoresRotation", spec := "fnBandDoublesOutwardAndIgnoresRotation", apart := false }
def FnBandDoublesOutwardAndIgnoresRotationSaid : Prop := fnBandDoublesOutwardAndIgnoresRotationRow.holds Try.pinned (OpenSpec.ofChange fnBandDoublesOutwardAndIgnoresRotationSpec)

/-- ITS FALSE NEIGHBOUR: 'it returns false'. Refute it at one input. -/
def fnBandDoublesOutwardAndIgnoresRotationWrong : ChangeSpec := { name := "fnBandDoublesOutwardAndIgnoresRotation", fn := fun _ => fun
  | [d1, d2, d3] => { results := [.lit (.bool false)], args := [d1, d2, d3] }
  | _ => none }
def FnBandDoublesOutwardAndIgnoresRotationWrongFalsely : Prop := fnBandDoublesOutwardAndIgnoresRotationRow.holds Try.pinned (OpenSpec.ofChange fnBandDoublesOutwardAndIgnoresRotationWrong)

end Rows
end Go.Proofs.Qxb6605947a

/-
  No cell of these rows narrows 'for every input' (looked for: loops, veiled, ifaces, maps, wideKeys, modest, calm, conditions, laid).
  DERIVED. THE GIVEN ROWS OF THIS SEAT. 2 by the template 'for every input the law returns true; each argument reads behind the call as it read before'; 0 by the template 'total and deterministic' (their statements: Qxb6608691aTotals.lean).
  GIVEN WITH THE SEED: the statements are not yours to turn. If you find one false, say at which input.
  Laid BY PROGRAM, IN A SANDBOX (cutbox-rows.mjs): the forced cells as the released guide's own fill.sh prints them over the translation 55daff8d2d320d40… (all of the seat's roots in one cut). By AI agents, Wed Nov 11 2026. No macro, syntax, notation, axiom, sorry.
-/
import Derived.Test.Qxb6608691aChecked
import GoSem.Claim
import GoSem.ClaimJoined
import GoSem.ClaimMapViews
import Derived.JoinedTies
import Derived.KernelRfl
namespace Go.Proofs.Qxb6608691a
/- THE CELL 'sum', in the pinned program and in every row, IS THE sha256 OF THE DUMP (.gsa) THAT Qxb6608691aProg.lean LOADS. Nothing in Lean hashes anything: it is a label: what it is worth is what the hold of that sum in a sandbox is worth. -/
noncomputable def Try.pinned : Pinned := { name := "qxb6608691a", sum := "55daff8d2d320d4057b9fec47efdce1645fbc4a577547ee6dc3c61701bb0efa9", checked := Try.checked }
namespace Rows
def none {H : Type} : Left H := { results := [], args := [] }

/-- 'zzlaws_pkg_http1_b1.FnEventInjectiveAndDecodes': WHATEVER THE INPUT: true; the input reads as it did. -/
def fnEventInjectiveAndDecodesSpec : ChangeSpec := { name := "fnEventInjectiveAndDecodes", fn := fun _ => fun
  | [d1, d2, d3, d4] => { results := [.lit (.bool true)], args := [d1, d2, d3, d4] }
  | _ => none }
def fnEventInjectiveAndDecodesRow : OpenClaim := { program := "qxb6608691a", sum := "55daff8d2d320d4057b9fec47efdce1645fbc4a577547ee6dc3c61701bb0efa9", func := "example.com/sievegate/sievegate/zzlaws_pkg_http1_b1.FnEventInjectiveAndDecodes", spec := "fnEventInjectiveAndDecodes", apart := false }
def FnEventInjectiveAndDecodesSaid : Prop := fnEventInjectiveAndDecodesRow.holds Try.pinned (OpenSpec.ofChange fnEventInjectiveAndDecodesSpec)

/-- ITS FALSE NEIGHBOUR: 'it returns false'. Refute it at one input. -/
def fnEventInjectiveAndDecodesWrong : ChangeSpec := { name := "fnEventInjectiveAndDecodes", fn := fun _ => fun
  | [d1, d2, d3, d4] => { results := [.lit (.bool false)], args := [d1, d2, d3, d4] }
  | _ => none }
def FnEventInjectiveAndDecodesWrongFalsely : Prop := fnEventInjectiveAndDecodesRow.holds Try.pinned (OpenSpec.ofChange fnEventInjectiveAndDecodesWrong)

/-- 'zzlaws_pkg_http1_b1.FnEventArrivalTagMarksOnlyPad': WHATEVER THE INPUT: true; the input reads as it did. -/
def fnEventArrivalTagMarksOnlyPadSpec : ChangeSpec := { name := "fnEventArrivalTagMarksOnlyPad", fn := fun _ => fun
  | [d1, d2] => { results := [.lit (.bool true)], args := [d1, d2] }
  | _ => none }
def fnEventArrivalTagMarksOnlyPadRow : OpenClaim := { program := "qxb6608691a", sum := "55daff8d2d320d4057b9fec47efdce1645fbc4a577547ee6dc3c61701bb0efa9", func := "example.com/sievegate/sievegate/zzlaws_pkg_http1_b1.FnEventArrivalTagMarksOnlyPad", spec := "fnEventArrivalTagMarksOnlyPad", apart := false }
def FnEventArrivalTagMarksOnlyPadSaid : Prop := fnEventArrivalTagMarksOnlyPadRow.holds Try.pinned (OpenSpec.ofChange fnEventArrivalTagMarksOnlyPadSpec)

/-- ITS FALSE NEIGHBOUR: 'it returns false'. Refute it at one input. -/
def fnEventArrivalTagMarksOnlyPadWrong : ChangeSpec := { name := "fnEventArrivalTagMarksOnlyPad", fn := fun _ => fun
  | [d1, d2] => { results := [.lit (.bool false)], args := [d1, d2] }
  | _ => none }
def FnEventArrivalTagMarksOnlyPadWrongFalsely : Prop := fnEventArrivalTagMarksOnlyPadRow.holds Try.pinned (OpenSpec.ofChange fnEventArrivalTagMarksOnlyPadWrong)

end Rows
end Go.Proofs.Qxb6608691a

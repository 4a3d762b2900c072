/-
  No cell of these rows narrows 'for every input' (looked for: loops, veiled, ifaces, maps, wideKeys, modest, calm, conditions, laid).
  DERIVED. THE GIVEN ROWS OF THIS SEAT. 3 by the template 'for every input the law returns true; each argument reads behind the call as it read before'; 0 by the template 'total and deterministic' (their statements: Qxb6605934aFmtTotals.lean).
  GIVEN WITH THE SEED: the statements are not yours to turn. If you find one false, say at which input.
  Laid BY PROGRAM, IN A SANDBOX (cutbox-rows.mjs): the forced cells as the released guide's own fill.sh prints them over the translation 8f7d503decd13eea… (all of the seat's roots in one cut). By AI agents, Wed Nov 11 2026. No macro, syntax, notation, axiom, sorry.
-/
import Derived.Test.Qxb6605934aFmtChecked
import GoSem.Claim
import GoSem.ClaimJoined
import GoSem.ClaimMapViews
import Derived.JoinedTies
import Derived.KernelRfl
namespace Go.Proofs.Qxb6605934aFmt
/- THE CELL 'sum', in the pinned program and in every row, IS THE sha256 OF THE DUMP (.gsa) THAT Qxb6605934aFmtProg.lean LOADS. Nothing in Lean hashes anything: it is a label: what it is worth is what the hold of that sum in a sandbox is worth. -/
noncomputable def Tryf.pinned : Pinned := { name := "qxb6605934afmt", sum := "8f7d503decd13eeae9148cb773437d2b11d6f868700b8cd56f320ce87072ba33", checked := Tryf.checked }
namespace Rows
def none {H : Type} : Left H := { results := [], args := [] }

/-- 'zzlaws_ssz_b1.FnEncoderByteListScriptLayout': WHATEVER THE INPUT: true; the input reads as it did. -/
def fnEncoderByteListScriptLayoutSpec : ChangeSpec := { name := "fnEncoderByteListScriptLayout", fn := fun _ => fun
  | [d1, d2] => { results := [.lit (.bool true)], args := [d1, d2] }
  | _ => none }
def fnEncoderByteListScriptLayoutRow : OpenClaim := { program := "qxb6605934afmt", sum := "8f7d503decd13eeae9148cb773437d2b11d6f868700b8cd56f320ce87072ba33", func := "example.com/scriptorium/scriptorium/zzlaws_ssz_b1.FnEncoderByteListScriptLayout", spec := "fnEncoderByteListScriptLayout", stops := ["fmt.errorf"], inPlace := ["fmt.errorf"], apart := false }
/-- NO THEOREM (fmt's text is open here; it may be false): for the released tool's asking of the row's closed facts alone. THE STATEMENT IS 'FnEncoderByteListScriptLayoutToldSaid' (Qxb6605934aFmtCards.lean). -/
def FnEncoderByteListScriptLayoutFormAsk : Prop := fnEncoderByteListScriptLayoutRow.holds Tryf.pinned (OpenSpec.ofChange fnEncoderByteListScriptLayoutSpec)

/-- ITS FALSE NEIGHBOUR: 'it returns false'. Refute it at one input. -/
def fnEncoderByteListScriptLayoutWrong : ChangeSpec := { name := "fnEncoderByteListScriptLayout", fn := fun _ => fun
  | [d1, d2] => { results := [.lit (.bool false)], args := [d1, d2] }
  | _ => none }
def FnEncoderByteListScriptLayoutWrongFormAsk : Prop := fnEncoderByteListScriptLayoutRow.holds Tryf.pinned (OpenSpec.ofChange fnEncoderByteListScriptLayoutWrong)

/-- 'zzlaws_ssz_b1.FnDecoderByteVectorReadsEncoderByteVector': WHATEVER THE INPUT: true; the input reads as it did. -/
def fnDecoderByteVectorReadsEncoderByteVectorSpec : ChangeSpec := { name := "fnDecoderByteVectorReadsEncoderByteVector", fn := fun _ => fun
  | [d1, d2] => { results := [.lit (.bool true)], args := [d1, d2] }
  | _ => none }
def fnDecoderByteVectorReadsEncoderByteVectorRow : OpenClaim := { program := "qxb6605934afmt", sum := "8f7d503decd13eeae9148cb773437d2b11d6f868700b8cd56f320ce87072ba33", func := "example.com/scriptorium/scriptorium/zzlaws_ssz_b1.FnDecoderByteVectorReadsEncoderByteVector", spec := "fnDecoderByteVectorReadsEncoderByteVector", stops := ["fmt.errorf"], inPlace := ["fmt.errorf"], apart := false }
/-- NO THEOREM (fmt's text is open here; it may be false): for the released tool's asking of the row's closed facts alone. THE STATEMENT IS 'FnDecoderByteVectorReadsEncoderByteVectorToldSaid' (Qxb6605934aFmtCards.lean). -/
def FnDecoderByteVectorReadsEncoderByteVectorFormAsk : Prop := fnDecoderByteVectorReadsEncoderByteVectorRow.holds Tryf.pinned (OpenSpec.ofChange fnDecoderByteVectorReadsEncoderByteVectorSpec)

/-- ITS FALSE NEIGHBOUR: 'it returns false'. Refute it at one input. -/
def fnDecoderByteVectorReadsEncoderByteVectorWrong : ChangeSpec := { name := "fnDecoderByteVectorReadsEncoderByteVector", fn := fun _ => fun
  | [d1, d2] => { results := [.lit (.bool false)], args := [d1, d2] }
  | _ => none }
def FnDecoderByteVectorReadsEncoderByteVectorWrongFormAsk : Prop := fnDecoderByteVectorReadsEncoderByteVectorRow.holds Tryf.pinned (OpenSpec.ofChange fnDecoderByteVectorReadsEncoderByteVectorWrong)

/-- 'zzlaws_ssz_b1.FnDecoderVariableScriptReadsWords': WHATEVER THE INPUT: true; the input reads as it did. -/
def fnDecoderVariableScriptReadsWordsSpec : ChangeSpec := { name := "fnDecoderVariableScriptReadsWords", fn := fun _ => fun
  | [d1, d2] => { results := [.lit (.bool true)], args := [d1, d2] }
  | _ => none }
def fnDecoderVariableScriptReadsWordsRow : OpenClaim := { program := "qxb6605934afmt", sum := "8f7d503decd13eeae9148cb773437d2b11d6f868700b8cd56f320ce87072ba33", func := "example.com/scriptorium/scriptorium/zzlaws_ssz_b1.FnDecoderVariableScriptReadsWords", spec := "fnDecoderVariableScriptReadsWords", stops := ["fmt.errorf"], inPlace := ["fmt.errorf"], named := ["encoding/binary.LittleEndian"], apart := false }
/-- NO THEOREM (fmt's text is open here; it may be false): for the released tool's asking of the row's closed facts alone. THE STATEMENT IS 'FnDecoderVariableScriptReadsWordsToldSaid' (Qxb6605934aFmtCards.lean). -/
def FnDecoderVariableScriptReadsWordsFormAsk : Prop := fnDecoderVariableScriptReadsWordsRow.holds Tryf.pinned (OpenSpec.ofChange fnDecoderVariableScriptReadsWordsSpec)

/-- ITS FALSE NEIGHBOUR: 'it returns false'. Refute it at one input. -/
def fnDecoderVariableScriptReadsWordsWrong : ChangeSpec := { name := "fnDecoderVariableScriptReadsWords", fn := fun _ => fun
  | [d1, d2] => { results := [.lit (.bool false)], args := [d1, d2] }
  | _ => none }
def FnDecoderVariableScriptReadsWordsWrongFormAsk : Prop := fnDecoderVariableScriptReadsWordsRow.holds Tryf.pinned (OpenSpec.ofChange fnDecoderVariableScriptReadsWordsWrong)

end Rows
end Go.Proofs.Qxb6605934aFmt

/-
  DERIVED. GIVEN WITH THE SEED: THE CARDS: each row of Qxb6605934aFmtRows.lean that lists a variable, with what it lists TIED to the program's text (the seventh form; the later family's looks); each row that meets fmt, with fmt's text TOLD by the authors' own Lean function (tested against real Go, not proved from fmt's source: count such statements apart). THE CARD IS WHAT COUNTS. Prove the row's statement (the work); the ties are given (Qxb6605934aFmtTie.lean); close each card by the builder's one call (the guide's Derived/Test/ToyasCard.lean, 'card_holds'). Laid BY PROGRAM, IN A SANDBOX (cutbox-door.mjs). By AI agents, Wed Nov 11 2026. No macro, syntax, notation, axiom, sorry.
-/
import Derived.Test.Qxb6605934aFmtRows
import GoSem.ClaimSeven
namespace Go.Proofs.Qxb6605934aFmt
namespace Rows

/-- THE TOLD CARD OF 'zzlaws_ssz_b1.FnEncoderByteListScriptLayout'. -/
def fnEncoderByteListScriptLayoutCard : Claim7 := { stood := { row := fnEncoderByteListScriptLayoutRow, standIns := [], harness := (true, "8e0ba38ff62820594044394ce93704c40e0246af18851c57057874797b62a07b"), looks := false }, told := true, goes := false }
def FnEncoderByteListScriptLayoutToldSaid : Prop := Claim7.holds Tryf.pinned (.plain (OpenSpec.ofChange fnEncoderByteListScriptLayoutSpec)) fnEncoderByteListScriptLayoutCard
/-- ITS FALSE NEIGHBOUR. Refute it at one input. -/
def FnEncoderByteListScriptLayoutToldWrongFalsely : Prop := Claim7.holds Tryf.pinned (.plain (OpenSpec.ofChange fnEncoderByteListScriptLayoutWrong)) fnEncoderByteListScriptLayoutCard

/-- THE TOLD CARD OF 'zzlaws_ssz_b1.FnDecoderByteVectorReadsEncoderByteVector'. -/
def fnDecoderByteVectorReadsEncoderByteVectorCard : Claim7 := { stood := { row := fnDecoderByteVectorReadsEncoderByteVectorRow, standIns := [], harness := (true, "8e0ba38ff62820594044394ce93704c40e0246af18851c57057874797b62a07b"), looks := false }, told := true, goes := false }
def FnDecoderByteVectorReadsEncoderByteVectorToldSaid : Prop := Claim7.holds Tryf.pinned (.plain (OpenSpec.ofChange fnDecoderByteVectorReadsEncoderByteVectorSpec)) fnDecoderByteVectorReadsEncoderByteVectorCard
/-- ITS FALSE NEIGHBOUR. Refute it at one input. -/
def FnDecoderByteVectorReadsEncoderByteVectorToldWrongFalsely : Prop := Claim7.holds Tryf.pinned (.plain (OpenSpec.ofChange fnDecoderByteVectorReadsEncoderByteVectorWrong)) fnDecoderByteVectorReadsEncoderByteVectorCard

/-- THE TOLD CARD OF 'zzlaws_ssz_b1.FnDecoderVariableScriptReadsWords'. -/
def fnDecoderVariableScriptReadsWordsCard : Claim7 := { stood := { row := fnDecoderVariableScriptReadsWordsRow, standIns := [], harness := (true, "8e0ba38ff62820594044394ce93704c40e0246af18851c57057874797b62a07b"), looks := false }, told := true, goes := false }
def FnDecoderVariableScriptReadsWordsToldSaid : Prop := Claim7.holds Tryf.pinned (.plain (OpenSpec.ofChange fnDecoderVariableScriptReadsWordsSpec)) fnDecoderVariableScriptReadsWordsCard
/-- ITS FALSE NEIGHBOUR. Refute it at one input. -/
def FnDecoderVariableScriptReadsWordsToldWrongFalsely : Prop := Claim7.holds Tryf.pinned (.plain (OpenSpec.ofChange fnDecoderVariableScriptReadsWordsWrong)) fnDecoderVariableScriptReadsWordsCard
end Rows
end Go.Proofs.Qxb6605934aFmt

/-
  DERIVED. GIVEN WITH THE SEED: THE CARDS: each row of Qxb6614244aFmtRows.lean that lists a variable, with what it lists TIED to the program's text (the seventh form; the later family's looks); each row that meets fmt, with fmt's text TOLD by the authors' own Lean function (tested against real Go, not proved from fmt's source: count such statements apart). THE CARD IS WHAT COUNTS. Prove the row's statement (the work); the ties are given (Qxb6614244aFmtTie.lean); close each card by the builder's one call (the guide's Derived/Test/ToyasCard.lean, 'card_holds'). Laid BY PROGRAM, IN A SANDBOX (cutbox-door.mjs). By AI agents, Wed Nov 11 2026. No macro, syntax, notation, axiom, sorry.
-/
import Derived.Test.Qxb6614244aFmtRows
import GoSem.ClaimSeven
namespace Go.Proofs.Qxb6614244aFmt
namespace Rows

/-- THE TOLD CARD OF 'zzlaws_root_b1.FnPanicErrorTextCutAnywhere'. -/
def fnPanicErrorTextCutAnywhereCard : Claim7 := { stood := { row := fnPanicErrorTextCutAnywhereRow, standIns := [], harness := (true, "e79a4c63ac6a8a351dac028afe810cbf64a195bab517b65635c2a363233b00d2"), looks := false }, told := true, goes := false }
def FnPanicErrorTextCutAnywhereToldSaid : Prop := Claim7.holds Tryf.pinned (.plain (OpenSpec.ofChange fnPanicErrorTextCutAnywhereSpec)) fnPanicErrorTextCutAnywhereCard
/-- ITS FALSE NEIGHBOUR. Refute it at one input. -/
def FnPanicErrorTextCutAnywhereToldWrongFalsely : Prop := Claim7.holds Tryf.pinned (.plain (OpenSpec.ofChange fnPanicErrorTextCutAnywhereWrong)) fnPanicErrorTextCutAnywhereCard

/-- THE TOLD CARD OF 'zzlaws_root_b1.FnPanicErrorIntegerAsDecimal'. -/
def fnPanicErrorIntegerAsDecimalCard : Claim7 := { stood := { row := fnPanicErrorIntegerAsDecimalRow, standIns := [], harness := (true, "e79a4c63ac6a8a351dac028afe810cbf64a195bab517b65635c2a363233b00d2"), looks := false }, told := true, goes := false }
def FnPanicErrorIntegerAsDecimalToldSaid : Prop := Claim7.holds Tryf.pinned (.plain (OpenSpec.ofChange fnPanicErrorIntegerAsDecimalSpec)) fnPanicErrorIntegerAsDecimalCard
/-- ITS FALSE NEIGHBOUR. Refute it at one input. -/
def FnPanicErrorIntegerAsDecimalToldWrongFalsely : Prop := Claim7.holds Tryf.pinned (.plain (OpenSpec.ofChange fnPanicErrorIntegerAsDecimalWrong)) fnPanicErrorIntegerAsDecimalCard
end Rows
end Go.Proofs.Qxb6614244aFmt

/-
  No cell of these rows narrows 'for every input' (looked for: loops, veiled, ifaces, maps, wideKeys, modest, calm, conditions, laid).
  DERIVED. THE GIVEN ROWS OF THIS SEAT. 2 by the template 'for every input the law returns true; each argument reads behind the call as it read before'; 0 by the template 'total and deterministic' (their statements: Qxb6614244aFmtTotals.lean).
  GIVEN WITH THE SEED: the statements are not yours to turn. If you find one false, say at which input.
  Laid BY PROGRAM, IN A SANDBOX (cutbox-rows.mjs): the forced cells as the released guide's own fill.sh prints them over the translation b2b2b6a25456bbce… (all of the seat's roots in one cut). By AI agents, Wed Nov 11 2026. No macro, syntax, notation, axiom, sorry.
-/
import Derived.Test.Qxb6614244aFmtChecked
import GoSem.Claim
import GoSem.ClaimJoined
import GoSem.ClaimMapViews
import Derived.JoinedTies
import Derived.KernelRfl
namespace Go.Proofs.Qxb6614244aFmt
/- THE CELL 'sum', in the pinned program and in every row, IS THE sha256 OF THE DUMP (.gsa) THAT Qxb6614244aFmtProg.lean LOADS. Nothing in Lean hashes anything: it is a label: what it is worth is what the hold of that sum in a sandbox is worth. -/
noncomputable def Tryf.pinned : Pinned := { name := "qxb6614244afmt", sum := "b2b2b6a25456bbce3e9a24e01816d5a861770be651e7ca04ebfaa04271709b69", checked := Tryf.checked }
namespace Rows
def none {H : Type} : Left H := { results := [], args := [] }

/-- 'zzlaws_root_b1.FnPanicErrorTextCutAnywhere': WHATEVER THE INPUT: true; the input reads as it did. -/
def fnPanicErrorTextCutAnywhereSpec : ChangeSpec := { name := "fnPanicErrorTextCutAnywhere", fn := fun _ => fun
  | [d1, d2, d3] => { results := [.lit (.bool true)], args := [d1, d2, d3] }
  | _ => none }
def fnPanicErrorTextCutAnywhereRow : OpenClaim := { program := "qxb6614244afmt", sum := "b2b2b6a25456bbce3e9a24e01816d5a861770be651e7ca04ebfaa04271709b69", func := "example.com/once-per-miss/once-per-miss/zzlaws_root_b1.FnPanicErrorTextCutAnywhere", spec := "fnPanicErrorTextCutAnywhere", stops := ["fmt.Sprintf, its operands' methods called"], inPlace := ["fmt.Sprintf"], unfollowed := true, recurses := true, apart := false }
/-- NO THEOREM (fmt's text is open here; it may be false): for the released tool's asking of the row's closed facts alone. THE STATEMENT IS 'FnPanicErrorTextCutAnywhereToldSaid' (Qxb6614244aFmtCards.lean). -/
def FnPanicErrorTextCutAnywhereFormAsk : Prop := fnPanicErrorTextCutAnywhereRow.holds Tryf.pinned (OpenSpec.ofChange fnPanicErrorTextCutAnywhereSpec)

/-- ITS FALSE NEIGHBOUR: 'it returns false'. Refute it at one input. -/
def fnPanicErrorTextCutAnywhereWrong : ChangeSpec := { name := "fnPanicErrorTextCutAnywhere", fn := fun _ => fun
  | [d1, d2, d3] => { results := [.lit (.bool false)], args := [d1, d2, d3] }
  | _ => none }
def FnPanicErrorTextCutAnywhereWrongFormAsk : Prop := fnPanicErrorTextCutAnywhereRow.holds Tryf.pinned (OpenSpec.ofChange fnPanicErrorTextCutAnywhereWrong)

/-- 'zzlaws_root_b1.FnPanicErrorIntegerAsDecimal': WHATEVER THE INPUT: true; the input reads as it did. -/
def fnPanicErrorIntegerAsDecimalSpec : ChangeSpec := { name := "fnPanicErrorIntegerAsDecimal", fn := fun _ => fun
  | [d1, d2] => { results := [.lit (.bool true)], args := [d1, d2] }
  | _ => none }
def fnPanicErrorIntegerAsDecimalRow : OpenClaim := { program := "qxb6614244afmt", sum := "b2b2b6a25456bbce3e9a24e01816d5a861770be651e7ca04ebfaa04271709b69", func := "example.com/once-per-miss/once-per-miss/zzlaws_root_b1.FnPanicErrorIntegerAsDecimal", spec := "fnPanicErrorIntegerAsDecimal", stops := ["fmt.Sprintf, its operands' methods called"], inPlace := ["fmt.Sprintf"], unfollowed := true, recurses := true, apart := false }
/-- NO THEOREM (fmt's text is open here; it may be false): for the released tool's asking of the row's closed facts alone. THE STATEMENT IS 'FnPanicErrorIntegerAsDecimalToldSaid' (Qxb6614244aFmtCards.lean). -/
def FnPanicErrorIntegerAsDecimalFormAsk : Prop := fnPanicErrorIntegerAsDecimalRow.holds Tryf.pinned (OpenSpec.ofChange fnPanicErrorIntegerAsDecimalSpec)

/-- ITS FALSE NEIGHBOUR: 'it returns false'. Refute it at one input. -/
def fnPanicErrorIntegerAsDecimalWrong : ChangeSpec := { name := "fnPanicErrorIntegerAsDecimal", fn := fun _ => fun
  | [d1, d2] => { results := [.lit (.bool false)], args := [d1, d2] }
  | _ => none }
def FnPanicErrorIntegerAsDecimalWrongFormAsk : Prop := fnPanicErrorIntegerAsDecimalRow.holds Tryf.pinned (OpenSpec.ofChange fnPanicErrorIntegerAsDecimalWrong)

end Rows
end Go.Proofs.Qxb6614244aFmt

/-
  No cell of these rows narrows 'for every input' (looked for: loops, veiled, ifaces, maps, wideKeys, modest, calm, conditions, laid).
  DERIVED. THE GIVEN ROWS OF THIS SEAT. 2 by the template 'for every input the law returns true; each argument reads behind the call as it read before'; 0 by the template 'total and deterministic' (their statements: Qxb6614085aTotals.lean).
  GIVEN WITH THE SEED: the statements are not yours to turn. If you find one false, say at which input.
  Laid BY PROGRAM, IN A SANDBOX (cutbox-rows.mjs): the forced cells as the released guide's own fill.sh prints them over the translation 3e812e528b0fd8b3… (all of the seat's roots in one cut). By AI agents, Wed Nov 11 2026. No macro, syntax, notation, axiom, sorry.
-/
import Derived.Test.Qxb6614085aChecked
import GoSem.Claim
import GoSem.ClaimJoined
import GoSem.ClaimMapViews
import Derived.JoinedTies
import Derived.KernelRfl
namespace Go.Proofs.Qxb6614085a
/- THE CELL 'sum', in the pinned program and in every row, IS THE sha256 OF THE DUMP (.gsa) THAT Qxb6614085aProg.lean LOADS. Nothing in Lean hashes anything: it is a label: what it is worth is what the hold of that sum in a sandbox is worth. -/
noncomputable def Try.pinned : Pinned := { name := "qxb6614085a", sum := "3e812e528b0fd8b3f75b0b471f0b59f116aa0982c7df44dc2992f3d30d49829d", checked := Try.checked }
namespace Rows
def none {H : Type} : Left H := { results := [], args := [] }

/-- 'zzlaws_internal_policy_b1.FnSearchTryCutAndRepeat': WHATEVER THE INPUT: true; the input reads as it did. -/
def fnSearchTryCutAndRepeatSpec : ChangeSpec := { name := "fnSearchTryCutAndRepeat", fn := fun _ => fun
  | [d1, d2, d3, d4, d5] => { results := [.lit (.bool true)], args := [d1, d2, d3, d4, d5] }
  | _ => none }
def fnSearchTryCutAndRepeatRow : OpenClaim := { program := "qxb6614085a", sum := "3e812e528b0fd8b3f75b0b471f0b59f116aa0982c7df44dc2992f3d30d49829d", func := "example.com/brama/brama/zzlaws_internal_policy_b1.FnSearchTryCutAndRepeat", spec := "fnSearchTryCutAndRepeat", inPlace := ["internal/abi.NoEscape", "internal/bytealg.MakeNoZero"], unfollowed := true, recurses := true, apart := false }
def FnSearchTryCutAndRepeatSaid : Prop := fnSearchTryCutAndRepeatRow.holds Try.pinned (OpenSpec.ofChange fnSearchTryCutAndRepeatSpec)

/-- ITS FALSE NEIGHBOUR: 'it returns false'. Refute it at one input. -/
def fnSearchTryCutAndRepeatWrong : ChangeSpec := { name := "fnSearchTryCutAndRepeat", fn := fun _ => fun
  | [d1, d2, d3, d4, d5] => { results := [.lit (.bool false)], args := [d1, d2, d3, d4, d5] }
  | _ => none }
def FnSearchTryCutAndRepeatWrongFalsely : Prop := fnSearchTryCutAndRepeatRow.holds Try.pinned (OpenSpec.ofChange fnSearchTryCutAndRepeatWrong)

/-- 'zzlaws_internal_policy_b1.FnSearchTryOrderFree': WHATEVER THE INPUT: true; the input reads as it did. -/
def fnSearchTryOrderFreeSpec : ChangeSpec := { name := "fnSearchTryOrderFree", fn := fun _ => fun
  | [d1, d2, d3, d4, d5] => { results := [.lit (.bool true)], args := [d1, d2, d3, d4, d5] }
  | _ => none }
def fnSearchTryOrderFreeRow : OpenClaim := { program := "qxb6614085a", sum := "3e812e528b0fd8b3f75b0b471f0b59f116aa0982c7df44dc2992f3d30d49829d", func := "example.com/brama/brama/zzlaws_internal_policy_b1.FnSearchTryOrderFree", spec := "fnSearchTryOrderFree", inPlace := ["internal/abi.NoEscape", "internal/bytealg.MakeNoZero"], unfollowed := true, recurses := true, apart := false }
def FnSearchTryOrderFreeSaid : Prop := fnSearchTryOrderFreeRow.holds Try.pinned (OpenSpec.ofChange fnSearchTryOrderFreeSpec)

/-- ITS FALSE NEIGHBOUR: 'it returns false'. Refute it at one input. -/
def fnSearchTryOrderFreeWrong : ChangeSpec := { name := "fnSearchTryOrderFree", fn := fun _ => fun
  | [d1, d2, d3, d4, d5] => { results := [.lit (.bool false)], args := [d1, d2, d3, d4, d5] }
  | _ => none }
def FnSearchTryOrderFreeWrongFalsely : Prop := fnSearchTryOrderFreeRow.holds Try.pinned (OpenSpec.ofChange fnSearchTryOrderFreeWrong)

end Rows
end Go.Proofs.Qxb6614085a

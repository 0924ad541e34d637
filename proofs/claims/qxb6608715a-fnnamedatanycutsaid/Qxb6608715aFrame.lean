import Derived.Test.Qxb6608715aRows
import Derived.Test.Qxb6608715aB
import Derived.ProofKit
import Derived.OpenShut
import Derived.ShutString
import Derived.ChangeOld
import Derived.Below
import Derived.SliceStrings
namespace Go.Proofs.Qxb6608715a
open Go.ChangeShapes Go.WideShapes Go.ChangeAt Go.RowKit
open Go.ChangeMaps (open_string shut_string)

-- What the walk is told of a slice of strings that came in.
structure IsStrs (w : World) (a : Option Addr) (len : Nat) (ss : List ByteArray) : Prop where
  length : ss.length = len
  most : len ≤ maxLen
  sizes : ∀ s ∈ ss, s.size ≤ maxLen
  lies : len = 0 ∨ ∃ b o, a = some ⟨b, o, none⟩ ∧ SRow w b o ss

theorem own : ownKnob Try.prog.godebug = none := by kernel_rfl
theorem laidOut : laidOutB Try.prog = true := by kernel_rfl
theorem cells9 : Try.prog.cellsOf 9 = 1 := by kernel_rfl

theorem isStrs_of {H : Type} {enc : TypeId × Value → H} {W : World} {base : Nat} {held : Bool} {fuel : Nat} {a : Option Addr} {len cap : Nat} {x : DataW H × List MemPlace}
    (hf : DataW.trod enc Try.prog W base (fun _ => true) held fuel 26 [.slice a len cap] = some x) : len ≤ cap ∧ ∃ ss, IsStrs W a len ss := by
  rcases open_strings Try.underlying26 Try.underlying9 cells9 hf with ⟨hcs, _⟩ | ⟨y, l, c, ss, hcs, _, hl, hm, hz, _, hcell, hsz⟩
  · simp at hcs
    obtain ⟨rfl, rfl, rfl⟩ := hcs
    exact ⟨Nat.le_refl _, [], rfl, by unfold maxLen; omega, by simp, .inl rfl⟩
  · simp at hcs
    obtain ⟨rfl, rfl, rfl⟩ := hcs
    simp at hz
    refine ⟨hl, ss.take len, by simp; omega, by omega, fun s hs => hsz s (List.mem_of_mem_take hs), ?_⟩
    by_cases h0 : len = 0
    · exact .inl h0
    · right
      obtain ⟨b, o, spot⟩ := y
      have hspot : spot = none := by simpa [Addr.add] using World.cell?_spot (hcell 0 (by omega))
      subst hspot
      have hcell' : ∀ j, j < ss.length → W.cell? ⟨b, o + j, none⟩ = some (.string (ss.getD j ByteArray.empty)) := fun j hj => by rw [← add_plain]; exact hcell j hj
      refine ⟨b, o, rfl, block_lt_of_cell (hcell' 0 (by omega)), fun k hk => ?_⟩
      have hk' : k < len := by simp at hk; omega
      rw [hcell' k (by omega)]
      simp [hk']

end Go.Proofs.Qxb6608715a

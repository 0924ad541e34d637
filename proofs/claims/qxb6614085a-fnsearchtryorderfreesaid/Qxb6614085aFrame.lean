import Derived.Test.Qxb6614085aRows
import Derived.Test.Qxb6614085aA
import Derived.ProofKit
import Derived.OpenShut
import Derived.ShutString
import Derived.ChangeOld
import Derived.Below
import Derived.SliceStrings
namespace Go.Proofs.Qxb6614085a
open Go.ChangeShapes Go.WideShapes Go.ChangeAt Go.RowKit
open Go.ChangeMaps (open_string shut_string)

theorem own : ownKnob Try.prog.godebug = none := by kernel_rfl
theorem laidOut : laidOutB Try.prog = true := by kernel_rfl
theorem cells9 : Try.prog.cellsOf 9 = 1 := by kernel_rfl
theorem cells3 : Try.prog.cellsOf 3 = 1 := by kernel_rfl

/-- What the walk is told of a slice of strings that came in. -/
structure IsStrs (w : World) (a : Option Addr) (len : Nat) (ss : List ByteArray) : Prop where
  ssl : SSl w a len ss
  most : len ≤ maxLen
  sizes : ∀ s ∈ ss, s.size ≤ maxLen
/-- What the walk is told of a slice of ints that came in. -/
structure IsInts (w : World) (a : Option Addr) (len cap : Nat) (zs : List Int) : Prop where
  isl : ISl w a len zs
  most : len ≤ maxLen
  nil : a = none → len = 0 ∧ cap = 0

theorem isStrs_of {H : Type} {enc : TypeId × Value → H} {W : World} {base : Nat} {held : Bool} {fuel : Nat} {a : Option Addr} {len cap : Nat} {x : DataW H × List MemPlace}
    (hf : DataW.trod enc Try.prog W base (fun _ => true) held fuel 22 [.slice a len cap] = some x) : ∃ ss, IsStrs W a len ss := by
  rcases open_strings Try.underlying22 Try.underlying9 cells9 hf with ⟨hcs, _⟩ | ⟨y, l, c, ss, hcs, _, hl, hm, hz, _, hcell, hsz⟩
  · simp at hcs
    obtain ⟨rfl, rfl, rfl⟩ := hcs
    exact ⟨[], ⟨rfl, .inl rfl⟩, by unfold maxLen; omega, by simp⟩
  · simp at hcs
    obtain ⟨rfl, rfl, rfl⟩ := hcs
    simp at hz
    refine ⟨ss.take len, ⟨by simp; omega, ?_⟩, by omega, fun s hs => hsz s (List.mem_of_mem_take hs)⟩
    by_cases h0 : len = 0
    · exact .inl h0
    · right
      obtain ⟨b, o, spot⟩ := y
      have hspot : spot = none := by simpa [Addr.add] using World.cell?_spot (hcell 0 (by omega))
      subst hspot
      have hcell' : ∀ j, j < ss.length → W.cell? ⟨b, o + j, none⟩ = some (.string (ss.getD j ByteArray.empty)) := fun j hj => by rw [← add_plain]; exact hcell j hj
      refine ⟨b, o, rfl, block_lt_of_cell (hcell' 0 (by omega)), fun k hk => ?_⟩
      have hk' : k < len := by simp at hk; omega
      rw [hcell' k (by omega)]
      simp [hk']

theorem isInts_of {H : Type} {enc : TypeId × Value → H} {W : World} {base : Nat} {held : Bool} {fuel : Nat} {a : Option Addr} {len cap : Nat} {x : DataW H × List MemPlace}
    (hf : DataW.trod enc Try.prog W base (fun _ => true) held fuel 23 [.slice a len cap] = some x) : ∃ zs, IsInts W a len cap zs := by
  rcases open_ints Try.underlying23 Try.underlying3 cells3 hf with ⟨hcs, _⟩ | ⟨y, l, c, zs, hcs, _, hl, hm, hz, _, hcell, hwz⟩
  · simp at hcs
    obtain ⟨rfl, rfl, rfl⟩ := hcs
    exact ⟨[], ⟨rfl, .inl rfl⟩, by unfold maxLen; omega, fun _ => ⟨rfl, rfl⟩⟩
  · simp at hcs
    obtain ⟨rfl, rfl, rfl⟩ := hcs
    simp at hz
    refine ⟨zs.take len, ⟨by simp; omega, ?_⟩, by omega, fun h => by cases h⟩
    by_cases h0 : len = 0
    · exact .inl h0
    · right
      obtain ⟨b, o, spot⟩ := y
      have hspot : spot = none := by simpa [Addr.add] using World.cell?_spot (hcell 0 (by omega))
      subst hspot
      have hcell' : ∀ j, j < zs.length → W.cell? ⟨b, o + j, none⟩ = some (.int .i64 (zs.getD j 0)) := fun j hj => by rw [← add_plain]; exact hcell j hj
      refine ⟨b, o, rfl, block_lt_of_cell (hcell' 0 (by omega)), fun k hk => ?_⟩
      have hk' : k < len := by simp at hk; omega
      rw [hcell' k (by omega)]
      simp [hk']
end Go.Proofs.Qxb6614085a

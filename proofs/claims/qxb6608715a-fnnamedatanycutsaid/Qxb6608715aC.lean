import Derived.Test.Qxb6608715aB
import Derived.Laws.OwnMore
namespace Go.Proofs.Qxb6608715a
open Go.RowKit

theorem set_strs (ss : List ByteArray) (xs : List Value) (k : Nat) (hk : k < xs.length) (h : ∀ j, j < k → xs[j]? = some (.string (ss.getD j ByteArray.empty))) :
    ∀ j, j < k + 1 → (xs.set k (.string (ss.getD k ByteArray.empty)))[j]? = some (.string (ss.getD j ByteArray.empty)) := fun j hj => by
  rw [List.getElem?_set]
  by_cases e : k = j
  · subst e; simp [hk]
  · rw [if_neg e]; exact h j (by omega)

set_option maxHeartbeats 400000 in
theorem clone_some (b o len cap : Nat) (ss : List ByteArray) (w : World) (hl : ss.length = len) (hm : len ≤ 1048576) (hr : SRow w b o ss) :
    Calls Try.prog 16 #[.slice (some ⟨b, o, none⟩) len cap] w fun e w' => e = .returned (.slice (some ⟨w.heap.size, 0, none⟩) len len) ∧ SRow w' w.heap.size 0 ss ∧ Below w.heap.size w w' := by
  obtain ⟨i0, hi, hz0, hz1, hz2⟩ := info_parts info9
  have hc : ∀ wr, Below w.heap.size w wr → ∀ k, k < len → wr.cell? ⟨b, o + k, none⟩ = some (.string (ss.getD k ByteArray.empty)) := fun wr hb k hk => by
    rw [hb.cell (p := ⟨b, o + k, none⟩) hr.lt]; exact hr.cell k (by omega)
  have HC := hid hc
  have HL := hid hl
  clear hc hr hl
  have hnil := Lib.run_eql_slice_nil (P := Try.prog)
  go_enter Try.func16, Try.ntmps16
  go_wp2_with (at_make; refine wpList_make_full _ rfl _ _ 26 rfl w.heap.size 9 i0 (.string ByteArray.empty) 1 Try.underlying26 hi hz0 hz1 _ _ _ _ len rfl rfl rfl rfl (by rw [hz2]; omega) (by unfold maxLen; omega) (Nat.le_refl _) ?_; intro w1 hown hgrow)
  have hbel : Below w.heap.size w w1 := (Below.refl _ _).grown hgrow (Nat.le_refl _) (fun k hk => by cases hk)
  have hxs : (madeCells (Value.string ByteArray.empty).cells (len * 1)).toList.length = len := by rw [hown.1]; omega
  clear hgrow
  go_loopw [4] (fun i wr => ∃ (k : Nat) (xs : List Value), k ≤ len ∧ i = .int .i64 k ∧ xs.length = len ∧ wr.ownsRow w.heap.size 9 1 (.slice (some ⟨w.heap.size, 0, none⟩) len len) len xs ∧ (∀ j, j < k → xs[j]? = some (.string (ss.getD j ByteArray.empty))) ∧ Below w.heap.size w wr)
    (fun i _ => len - (intOf i).toNat)
  case atStart => exact ⟨0, _, Nat.zero_le _, rfl, hxs, hown, fun j hj => by omega, hbel⟩
  case round =>
    clear hown hxs hbel
    obtain ⟨k, xs, hk, rfl, hxl, hown, hx, hbel⟩ := hrel
    by_cases hlt : k < len
    · have hcell := HC.out wr hbel k hlt
      have hst := hown.stored k (.string (ss.getD k ByteArray.empty))
      have hg := hown.cellAt k (by omega)
      rw [List.getElem?_eq_getElem (by omega)] at hg
      have hfz := hown.frozenAt k
      have R : (xs.set k (.string (ss.getD k ByteArray.empty))).length = len ∧ (wr.setCell ⟨w.heap.size, k, none⟩ (.string (ss.getD k ByteArray.empty))).ownsRow w.heap.size 9 1 (.slice (some ⟨w.heap.size, 0, none⟩) len len) len (xs.set k (.string (ss.getD k ByteArray.empty))) ∧ (∀ j, j < k + 1 → (xs.set k (.string (ss.getD k ByteArray.empty)))[j]? = some (.string (ss.getD j ByteArray.empty))) ∧ Below w.heap.size w (wr.setCell ⟨w.heap.size, k, none⟩ (.string (ss.getD k ByteArray.empty))) :=
        ⟨by simpa using hxl, hst.1, set_strs ss xs k (by omega) hx, hbel.setCell (Nat.le_refl _) _⟩
      obtain ⟨s, hs⟩ : ∃ s, s = ss.getD k ByteArray.empty := ⟨_, rfl⟩
      rw [← hs] at hcell R
      have HR := hid R
      have HS := hid hs
      generalize hv : xs[k] = v at hg
      clear R hst hown hx hs hv hbel
      go_wp2
      go_roundw
      case rel => exact ⟨k + 1, xs.set k (.string s), by omega, by go_num, HR.out.1, HR.out.2.1, HR.out.2.2.1, HR.out.2.2.2⟩
      case measure => simp [intOf]; omega
    · have hkl : k = len := by omega
      have R : SRow wr w.heap.size 0 ss := ⟨(hown.lt w.heap.size rfl).2, fun j hj => by
        have := hown.cellAt j (by have := HL.out; omega)
        rw [hx j (by have := HL.out; omega)] at this
        simpa using this⟩
      have HR := hid R
      have HB := hid hbel
      clear R hown hx hbel
      go_wp2
      go_ret
      exact ⟨rfl, HR.out, HB.out⟩
end Go.Proofs.Qxb6608715a

import Derived.Test.Qxb6608715aE
import Derived.Lib.AppendStr
import Derived.Laws.BytesArg
namespace Go.Proofs.Qxb6608715a
open Go.RowKit

theorem info5 : (Try.prog.info? 5).map (fun i => (i.zero, i.size, i.bytes)) = some (some (.int .u8 0), 1, 1) := by kernel_rfl

theorem strCells_append (a b : ByteArray) : Lib.strCells (a ++ b) = Lib.strCells a ++ Lib.strCells b := by
  simp [Lib.strCells, ByteArray.data_append]

theorem lens_take (ss : List ByteArray) (k : Nat) : lens (ss.take k) ≤ lens ss := by
  have h : lens ss = lens (ss.take k) + lens (ss.drop k) := by
    conv => lhs; rw [← List.take_append_drop k ss]
    rw [lens, List.map_append, List.sum_append]; rfl
  omega

theorem joinB_take (ss : List ByteArray) (k : Nat) (hk : k < ss.length) (h0 : 0 < k) :
    joinB (ss.take (k + 1)) comma = joinB (ss.take k) comma ++ comma ++ ss.getD k ByteArray.empty := by
  rw [take_snoc ss k hk, joinB_snoc _ _ (by simp; omega)]

theorem joinB_one (ss : List ByteArray) (hk : 0 < ss.length) : joinB (ss.take 1) comma = ss.getD 0 ByteArray.empty := by
  match ss, hk with
  | s :: r, _ =>
    apply ByteArray.ext
    simp [joinB, Lib.join_one]

theorem joinB_none : joinB ([] : List ByteArray) comma = ByteArray.empty := rfl

theorem nums_str (J : ByteArray) : strOfNums (J.data.toList.map fun b => (b.toNat : Int)) = J := by
  apply ByteArray.ext
  apply Array.toList_inj.1
  simp only [strOfNums, List.map_map]
  rw [show ((fun n : Int => UInt8.ofNat n.toNat) ∘ fun b : UInt8 => (b.toNat : Int)) = id from funext fun b => by simp, List.map_id]

theorem run_convert_own {w : World} {base : Nat} {v : Value} {J : ByteArray} (h : w.ownsRow base 5 1 v J.size (Lib.strCells J)) :
    (convert 44 9 v).run Try.prog w = .ok (.string J) w := by
  rcases h.2 with ⟨rfl, h0⟩ | ⟨g, cap, cur, rfl, _, hg, _⟩
  · rw [run_convert_bytes_nil (P := Try.prog) (w := w) 44 5 Try.underlying44 Try.underlying5 0 0 9 Try.underlying9]
    have : J = ByteArray.empty := by
      apply ByteArray.ext
      apply Array.toList_inj.1
      have : J.data.toList.length = 0 := by simpa using h0
      rw [List.length_eq_zero_iff] at this
      rw [this]; rfl
    rw [this]
  · have := run_convert_bytes_arg (P := Try.prog) w 44 5 Try.underlying44 Try.underlying5 g 0 J.size cap (J.data.toList.map fun b => (b.toNat : Int)) (by simp) (fun i hi => by
      rw [Nat.zero_add, h.cellAt i (by omega)]
      simp [Lib.strCells, hi]) 9 Try.underlying9
    rw [nums_str] at this
    exact this

theorem cells_two (w : World) (x y : Value) (t : TypeId) : ∀ j u, [x, y][j]? = some u → (w.alloc (.cells #[x, y] t)).cell? ((⟨w.heap.size, 0, none⟩ : Addr).add j) = some u := fun j u hu => by
  rw [Addr.add_lit, cell_of_row _ _ _ _ _ _ (heap_alloc_new w (.cells #[x, y] t))]
  simpa using hu

set_option maxHeartbeats 1000000 in
theorem comma_any (g o k cap : Nat) (ss : List ByteArray) (w : World) (hl : ss.length = k) (hr : SRow w g o ss) (hsz : 16 * k + lens ss ≤ 1048576) :
    Calls Try.prog 20 #[.slice (some ⟨g, o, none⟩) k cap] w fun e w' => ∃ J : ByteArray, e = .returned (.string J) ∧ J = joinB ss comma ∧ J.size ≤ 8388608 ∧ Below w.heap.size w w' := by
  obtain ⟨i0, hi, hz0, hz1, hz2⟩ := info_parts info5
  have hc : ∀ wr, Below w.heap.size w wr → ∀ j, j < k → wr.cell? ⟨g, o + j, none⟩ = some (.string (ss.getD j ByteArray.empty)) := fun wr hb j hj => by
    rw [hb.cell (p := ⟨g, o + j, none⟩) hr.lt]; exact hr.cell j (by omega)
  have hJ : ∀ j, j ≤ k → (joinB (ss.take j) comma).size ≤ 4194304 := fun j hj => by
    have h1 := joinB_size (ss.take j) comma
    have h2 : comma.size = 2 := rfl
    have h3 := lens_take ss j
    have h4 : (ss.take j).length ≤ j := List.length_take_le _ _
    rw [h2] at h1
    omega
  have HC := hid hc
  have HJ := hid hJ
  have HL := hid hl
  have hk : k ≤ 1048576 := by omega
  clear hc hJ hl hr hsz
  go_enter Try.func20, Try.ntmps20
  go_wp2_with fail
  go_loopw [3, 4] (fun v i wr => ∃ (j : Nat) (J : ByteArray), j ≤ k ∧ i = .int .i64 j ∧ J = joinB (ss.take j) comma ∧ wr.ownsRow w.heap.size 5 1 v J.size (Lib.strCells J) ∧ Below w.heap.size w wr)
    (fun _ i _ => k - (intOf i).toNat)
  case atStart => exact ⟨0, ByteArray.empty, Nat.zero_le _, rfl, rfl, World.ownsRow_nil _ _ _ _, Below.refl _ _⟩
  case round =>
    obtain ⟨j, J, hjk, rfl, hJj, hown, hbel⟩ := hrel
    have hJs := HJ.out j hjk
    rw [← hJj] at hJs
    have HJj := hid hJj
    have hsize := hbel.size
    have HB := hid hbel
    clear hJj hbel
    by_cases hlt : j < k
    · have hcell := HC.out wr HB.out j hlt
      have hJn := HJ.out (j + 1) (by omega)
      obtain ⟨s, hs⟩ : ∃ s, s = ss.getD j ByteArray.empty := ⟨_, rfl⟩
      rw [← hs] at hcell
      have HS := hid hs
      clear hs
      by_cases h0 : j = 0
      · have hss : s.size ≤ 4194304 := by rw [h0, joinB_one ss (by rw [HL.out]; omega), ← h0, ← HS.out] at hJn; exact hJn
        have R : J.size + s.size = s.size ∧ Lib.strCells J ++ Lib.strCells s = Lib.strCells s ∧ s = joinB (ss.take (j + 1)) comma := by
          have hJe : J = ByteArray.empty := by rw [HJj.out, h0]; rfl
          rw [hJe]
          exact ⟨by simp, rfl, by rw [h0, joinB_one ss (by rw [HL.out]; omega), HS.out, h0]⟩
        have HR := hid R
        have hj0 : (j : Int) ≤ 0 := by omega
        clear hJn R h0
        go_wp2_with (at_builtin; refine Lib.wpList_append_own_string _ rfl (.tmp 16) (.tmp 20) 44 9 rfl w.heap.size 5 i0 Try.underlying44 Try.underlying9 hi hz0 hz1 hz2 _ J.size (Lib.strCells J) rfl hown s rfl (by unfold maxLen; omega) (by omega) hsize ?_; intro v' w3 hown3 hgrow3 hnil3; have HO3 := hid hown3; have HB3 := hid (HB.out.grown hgrow3 hsize (fun q hq => (hown.lt q hq).1)); clear hown3 hgrow3 hnil3)
        go_roundw
        case rel => exact ⟨j + 1, s, by omega, by go_num, HR.out.2.2, by have := HO3.out; rw [HR.out.1, HR.out.2.1] at this; exact this, HB3.out⟩
        case measure => simp [intOf]; omega
      · have hj0 : (0 : Int) < (j : Int) := by omega
        have hJ1 := joinB_take ss j (by rw [HL.out]; exact hlt) (by omega)
        have hc2 : comma.size = 2 := rfl
        have hss : J.size + 2 + s.size ≤ 4194304 := by rw [hJ1, ← HS.out, ← HJj.out, ByteArray.size_append, ByteArray.size_append, hc2] at hJn; exact hJn
        have R : J.size + 2 + s.size = (J ++ comma ++ s).size ∧ Lib.strCells J ++ [.int .u8 44, .int .u8 32] ++ Lib.strCells s = Lib.strCells (J ++ comma ++ s) ∧ J ++ comma ++ s = joinB (ss.take (j + 1)) comma := by
          refine ⟨by rw [ByteArray.size_append, ByteArray.size_append, hc2], by rw [strCells_append, strCells_append]; rfl, by rw [hJ1, ← HS.out, ← HJj.out]⟩
        have HR := hid R
        clear hJn R h0 hJ1 hc2
        go_wp2_with (first
          | (at_builtin; refine wpList_append_own _ rfl (.tmp 13) (.tmp 14) 44 rfl w.heap.size 5 i0 (.int .u8 0) 1 1 Try.underlying44 hi hz0 hz1 hz2 rfl (by decide) _ J.size (Lib.strCells J) rfl (hown.alloc _) ⟨wr.heap.size, 0, none⟩ 2 2 [.int .u8 44, .int .u8 32] rfl rfl (cells_two _ _ _ _) (by simp [Value.oneCell']) (by unfold maxLen; omega) (by omega) (by rw [World.size_alloc]; omega) ?_; intro v' w3 hown3 hgrow3 hnil3; have HB3 := hid ((HB.out.alloc hsize _).grown hgrow3 (by rw [World.size_alloc]; omega) (fun q hq => (hown.lt q hq).1)); have hsz3 := HB3.out.size; have hcell3 := HC.out w3 HB3.out j hlt; rw [← HS.out] at hcell3; clear hgrow3 hnil3)
          | (at_builtin; refine Lib.wpList_append_own_string _ rfl (.tmp 16) (.tmp 20) 44 9 rfl w.heap.size 5 i0 Try.underlying44 Try.underlying9 hi hz0 hz1 hz2 v' (J.size + 2) _ rfl hown3 s rfl (by unfold maxLen; omega) (by omega) hsz3 ?_; intro v4 w4 hown4 hgrow4 hnil4; have HO4 := hid hown4; have HB4 := hid (HB3.out.grown hgrow4 hsz3 (fun q hq => (hown3.lt q hq).1)); clear hown4 hgrow4 hnil4))
        go_roundw
        case rel => exact ⟨j + 1, J ++ comma ++ s, by omega, by go_num, HR.out.2.2, by have := HO4.out; rw [HR.out.1, HR.out.2.1] at this; exact this, HB4.out⟩
        case measure => simp [intOf]; omega
    · have hjk' : j = k := by omega
      have hcv := run_convert_own hown
      have HF : Hid (J = joinB ss comma) := by
        have := HJj.out
        rw [hjk', ← HL.out, List.take_length] at this
        exact this
      clear hjk' hown
      go_wp2_with fail
      go_ret
      exact ⟨J, rfl, HF.out, by omega, HB.out⟩
end Go.Proofs.Qxb6608715a

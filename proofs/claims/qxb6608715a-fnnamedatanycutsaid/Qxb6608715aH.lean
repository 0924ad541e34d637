import Derived.Test.Qxb6608715aG
import Derived.Deep.MidRow
namespace Go.Proofs.Qxb6608715a
open Go.RowKit

theorem joinB_append (xs ys : List ByteArray) (hx : 1 ≤ xs.length) (hy : 1 ≤ ys.length) : joinB (xs ++ ys) comma = joinB xs comma ++ comma ++ joinB ys comma := by
  match xs, ys, hx, hy with
  | x :: r, y :: q, _, _ =>
    apply ByteArray.ext
    rw [ByteArray.data_append, ByteArray.data_append]
    apply Array.toList_inj.1
    simp only [joinB, List.cons_append, List.map_cons, List.map_append, Lib.join_cons, Lib.joinTail, List.flatten_append, Array.toList_append, List.append_assoc, List.flatten_cons]

-- Nothing to cut: true.
set_option maxHeartbeats 400000 in
theorem cut_short (a : Option Addr) (len cap n0 : Nat) (k : Int) (w : World) (hm : len ≤ 9223372036854775807) (hlen : len < 2 ∨ k < 1 ∨ (len : Int) - 2 < k)
    (C1 : Hid (Calls Try.prog 19 #[.slice a len cap, .int .i64 k] w fun e w' => AnyBool e ∧ w' = w))
    (C2 : Hid (Calls Try.prog 15 #[.slice a len cap, .int .i64 1048576] w fun e w' => Counts e n0 ∧ w' = w)) :
    Calls Try.prog 6 #[.slice a len cap, .int .i64 k] w fun e w' => e = .returned (.bool true) ∧ Below w.heap.size w w' := by
  have HLN := hid hlen
  clear hlen
  go_enter Try.func6, Try.ntmps6
  go_wp2_with fail
  refine C1.out.mono ?_
  rintro e w1 ⟨⟨bb, rfl⟩, rfl⟩
  cases bb
  · go_wp2_with fail
    go_ret
    exact ⟨rfl, Below.refl _ _⟩
  go_wp2_with fail
  refine C2.out.mono ?_
  rintro e w2 ⟨⟨m, rfl, hm0, hm1, hmm⟩, rfl⟩
  clear hmm C1 C2
  by_cases hm2 : m ≤ 1048576
  rotate_left
  · go_wp2_with fail
    go_ret
    exact ⟨rfl, Below.refl _ _⟩
  by_cases h2 : len < 2
  · go_wp2_with fail
    go_ret
    exact ⟨rfl, Below.refl _ _⟩
  by_cases h3 : k < 1
  · go_wp2_with fail
    go_ret
    exact ⟨rfl, Below.refl _ _⟩
  have h4 : (len : Int) - 2 < k := by have := HLN.out; omega
  go_wp2_with fail
  go_ret
  exact ⟨rfl, Below.refl _ _⟩

def falsesL : List Value := falses.toList
theorem falsesL_length : falsesL.length = 256 := by simp [falsesL, falses_size]
theorem falsesL_info : (Try.prog.info? 22).map (·.size) = some falsesL.length := by rw [falsesL_length]; exact info22
theorem falsesL_one : ∀ v ∈ falsesL, v.oneCell' = true := by
  intro v hv
  unfold falsesL falses at hv
  rw [Array.toList_replicate] at hv
  rw [List.eq_of_mem_replicate hv]; rfl
theorem range_of_table {W : World} {g : Nat} (h : W.heap[g]? = some (.cells falses 22 (0, 0))) : W.rangeAt g 0 falsesL := fun j v hv => by
  rw [Nat.zero_add, cell_of_row _ _ _ _ _ _ h]
  simpa [falsesL] using hv
theorem range_later {W W' : World} {g : Nat} {cs : List Value} (h : W.rangeAt g 0 cs) (hg : g < W.heap.size) (hb : Below W.heap.size W W') : W'.rangeAt g 0 cs := fun j v hv => by
  rw [hb.cell (p := ⟨g, 0 + j, none⟩) hg]; exact h j v hv

theorem lens_drop (ss : List ByteArray) (k : Nat) : lens (ss.drop k) ≤ lens ss := by
  have h : lens ss = lens (ss.take k) + lens (ss.drop k) := by
    conv => lhs; rw [← List.take_append_drop k ss]
    rw [lens, List.map_append, List.sum_append]; rfl
  omega

structure Stage2 (w W : World) (g0 g2 : Nat) (ss : List ByteArray) : Prop where
  names : SRow W g0 0 ss
  table : W.heap[g2]? = some (.cells falses 22 (0, 0))
  below : Below w.heap.size w W

theorem Stage2.later {w W W' : World} {g0 g2 : Nat} {ss : List ByteArray} (h : Stage2 w W g0 g2 ss) (hb : Below W.heap.size W W') : Stage2 w W' g0 g2 ss :=
  ⟨h.names.later hb, row_block h.table hb, h.below.trans (hb.mono h.below.size)⟩

set_option maxHeartbeats 1000000 in
theorem cut_main (b o m k cap : Nat) (ss : List ByteArray) (s : ByteArray) (w : World) (hl : ss.length = m) (hk1 : 1 ≤ k) (hk2 : k + 1 ≤ m) (hr : SRow w b o (ss ++ [s]))
    (C1 : Hid (Calls Try.prog 19 #[.slice (some ⟨b, o, none⟩) (m + 1) cap, .int .i64 k] w fun e w' => AnyBool e ∧ w' = w))
    (C2 : Hid (Calls Try.prog 15 #[.slice (some ⟨b, o, none⟩) (m + 1) cap, .int .i64 1048576] w fun e w' => Counts e (16 * (m + 1) + lens (ss ++ [s])) ∧ w' = w)) :
    Calls Try.prog 6 #[.slice (some ⟨b, o, none⟩) (m + 1) cap, .int .i64 k] w fun e w' => e = .returned (.bool true) ∧ Below w.heap.size w w' := by
  have HL := hid hl
  have HR := hid hr
  clear hl hr
  go_enter Try.func6, Try.ntmps6
  go_wp2_with fail
  refine C1.out.mono ?_
  rintro e w1 ⟨⟨bb, rfl⟩, rfl⟩
  cases bb
  · go_wp2_with fail
    go_ret
    exact ⟨rfl, Below.refl _ _⟩
  go_wp2_with fail
  refine C2.out.mono ?_
  rintro e w2 ⟨⟨n, rfl, hn0, hn1, hnn⟩, rfl⟩
  by_cases hov : n ≤ 1048576
  rotate_left
  · clear hnn
    go_wp2_with fail
    go_ret
    exact ⟨rfl, Below.refl _ _⟩
  have hne := hnn hov
  clear hnn
  have hsn := lens_snoc ss s
  rw [hsn] at hne
  have hml : 16 * (m + 1) + (lens ss + s.size) ≤ 1048576 := by omega
  have HN := hid hne
  clear hne hsn
  have hk3 : ¬ ((k : Int) < 1) := by omega
  have hk4 : ¬ ((m : Int) + 1 - 2 < (k : Int)) := by omega
  go_wp2_with fail
  have hcl := clone_some b o (m + 1) cap (ss ++ [s]) w2 (by simp [HL.out]) (by omega) HR.out
  refine hcl.mono ?_
  clear hcl
  rintro e w3 ⟨rfl, hrow, hbel⟩
  have hsz3 : w2.heap.size < w3.heap.size := hrow.lt
  have HROW := hid hrow
  have HBEL := hid hbel
  clear hrow hbel C1 C2
  have hal := zero22
  go_wp2_with (refine wpList_load_row rfl 22 (.tmp 6) rfl _ rfl 22 falses _ _ (heap_alloc_new _ _) Try.underlying22 rfl falses_info ?_)
  refine (newrule falses falses_size _ _ _ _).mono ?_
  rintro e w4 ⟨r1, rfl, hr1a, hr1b, hr1c, hb4⟩
  have T3 : Stage2 w2 (w3.alloc (.cells falses 22)) w2.heap.size w3.heap.size (ss ++ [s]) :=
    ⟨HROW.out.later ((Below.refl _ _).alloc (Nat.le_refl _) _), heap_alloc_new _ _, HBEL.out.alloc (by omega) _⟩
  have T4 := hid (T3.later hb4)
  clear T3 hb4 HROW HBEL
  go_wp2_with fail
  refine (callnamed2 r1 w2.heap.size 0 m (m + 1) ss s w4 HL.out (by omega) (by omega) hr1c T4.out.names (by omega) (by omega)).mono ?_
  rintro e w5 ⟨N1, rfl, hN1, hN1s, hb5⟩
  have HN1 := hid hN1
  have T5 := hid (T4.out.later hb5)
  clear hN1 hb5 hr1a hr1b hr1c T4
  go_wp2_with fail
  have hu22 := Try.underlying22
  obtain ⟨cs, hfi, hfl, hone, hrg⟩ : ∃ cs : List Value, (Try.prog.info? 22).map (·.size) = some cs.length ∧ cs.length = 256 ∧ (∀ v ∈ cs, v.oneCell' = true) ∧ w5.rangeAt w3.heap.size 0 cs := ⟨falsesL, falsesL_info, falsesL_length, falsesL_one, range_of_table T5.out.table⟩
  have b1 : (0 : Int) ≤ (k : Int) := by omega
  have b2 : (k : Int) ≤ (m : Int) + 1 := by omega
  have b3 : ¬ (m + 1 = k) := by omega
  have hrest : SRow w5.drew w2.heap.size k (ss.drop k ++ [s]) := by
    have h := T5.out.names
    refine ⟨h.lt, fun j hj => ?_⟩
    have hj' : j < m - k + 1 := by simpa [HL.out] using hj
    show w5.cell? _ = _
    have := h.cell (k + j) (by simp [HL.out]; omega)
    rw [Nat.zero_add] at this
    rw [this]
    have e : ss.drop k ++ [s] = (ss ++ [s]).drop k := by rw [List.drop_append_of_le_length (by rw [HL.out]; omega)]
    rw [e]
    simp
  have hrl : (ss.drop k ++ [s]).length = m + 1 - k := by simp [HL.out]; omega
  have HREST := hid hrest
  have HRL := hid hrl
  have hg3 : w3.heap.size < w5.drew.heap.size := (Array.getElem?_eq_some_iff.1 T5.out.table).1
  have hcs : cs.toArray.size = 256 := by simpa using hfl
  have HCS := hid hcs
  clear hrest hrl hcs
  have hm3 : m + 1 - k ≤ 1048576 := by omega
  have hls := lens_drop ss k
  have hmk : m + 1 - k = m - k + 1 := by omega
  have hm4 : m - k ≤ 1048576 := by omega
  have hm5 : m - k ≤ m - k + 1 := by omega
  have hls2 : lens (ss.drop k) ≤ 2097152 := by omega
  have hss2 : s.size ≤ 2097152 := by omega
  have HDL : Hid ((ss.drop k).length = m - k) := hid (by rw [List.length_drop, HL.out])
  have HMK := hid hmk
  clear hmk hls
  go_region_held3 (fun w' => w'.rangeAt w3.heap.size 0 cs) (first | assumption | go_keep_ranges) (first | (go_at_call 16; refine (clone_some w2.heap.size k (m + 1 - k) (m + 1 - k) (ss.drop k ++ [s]) w5.drew HRL.out hm3 HREST.out).mono ?_; rintro e w6 ⟨rfl, hrow6, hb6⟩; have r6 : w6.rangeAt w3.heap.size 0 cs := range_later (W := w5.drew) hrg hg3 hb6; have HROW6 := hid hrow6; have HB6 := hid hb6; clear hrow6 hb6) | (go_at_call 10; refine (newrule cs.toArray HCS.out _ _ _ _).mono ?_; rintro e w7 ⟨r2, rfl, hr2a, hr2b, hr2c, hb7⟩; have HB7 := hid hb7; have HROW7 := hid (HROW6.out.later hb7); have r7 : w7.rangeAt w3.heap.size 0 cs := range_later r6 (Nat.lt_of_lt_of_le hg3 HB6.out.size) hb7; clear hb7 hr2a hr2b) | (go_at_call 17; have hr2d : w7.cell? ⟨r2, 256, none⟩ = some (.slice (some ⟨w5.heap.size, 0, none⟩) (m - k + 1) (m - k + 1)) := hr2c.trans (congrArg (fun z => some (Value.slice (some ⟨w5.heap.size, 0, none⟩) z z)) HMK.out); refine (callnamed2 r2 w5.heap.size 0 (m - k) (m - k + 1) (ss.drop k) s w7 HDL.out hm4 hm5 hr2d HROW7.out hls2 hss2).mono ?_; rintro e w8 ⟨N2, rfl, hN2, hN2s, hb8⟩; have HN2 := hid hN2; have r8 : w8.rangeAt w3.heap.size 0 cs := range_later r7 (Nat.lt_of_lt_of_le (Nat.lt_of_lt_of_le hg3 HB6.out.size) HB7.out.size) hb8; have HB8 := hid hb8; clear hN2 hb8 hr2c hr2d))
  have T8 := hid ((((T5.out.later ((Below.refl w5.heap.size w5).drew)).later HB6.out).later HB7.out).later HB8.out)
  clear T5 HB6 HB7 HB8 HROW6 HROW7 HREST r6 r7 r8 hrg hu22 hfi hfl hone hal HCS hg3
  have htk : SRow w8 w2.heap.size 0 (ss.take k) := by
    have h := T8.out.names
    refine ⟨h.lt, fun j hj => ?_⟩
    have hj' : j < k := by simp at hj; omega
    rw [h.cell j (by simp [HL.out]; omega)]
    have hjl : j < ss.length := by rw [HL.out]; omega
    simp [List.getElem?_append_left hjl, hj']
  have htl : (ss.take k).length = k := by rw [List.length_take, HL.out]; omega
  have hlt := lens_take ss k
  have HTK := hid htk
  have HTL := hid htl
  clear htk htl
  go_wp2_with fail
  refine (comma_any w2.heap.size 0 k (m + 1) (ss.take k) w8 HTL.out HTK.out (by omega)).mono ?_
  rintro e w9 ⟨J, rfl, hJ, hJs, hb9⟩
  have T9 := hid (T8.out.later hb9)
  have hlast : w9.cell? ⟨w2.heap.size, m, none⟩ = some (.string s) := by
    have := T9.out.names.cell m (by simp [HL.out])
    rw [Nat.zero_add] at this
    rw [this]; simp [← HL.out]
  have heq : (N1.toList == (J ++ ⟨#[44, 32]⟩ ++ N2).toList) = true := by
    have e1 : N1 = J ++ ⟨#[44, 32]⟩ ++ N2 := by
      rw [HN1.out, HN2.out, hJ]
      have e2 := joinB_append (ss.take k) (ss.drop k) (by rw [HTL.out]; omega) (by rw [HDL.out]; omega)
      rw [List.take_append_drop] at e2
      rw [e2]
      exact ByteArray.append_assoc
    rw [← e1]; simp
  clear hJ hb9 T8
  go_wp2_with fail
  refine (suffix2 N2 (joinB (ss.drop k) comma) _ w9 HN2.out hN2s).mono ?_
  rintro e w10 ⟨rfl, hw⟩
  have HW := hid hw
  clear hw
  go_wp2_with fail
  go_ret
  exact ⟨rfl, by rw [HW.out]; exact T9.out.below⟩
end Go.Proofs.Qxb6608715a

import Derived.Test.Qxb6614085aA
namespace Go.Proofs.Qxb6614085a
open Go.RowKit

set_option maxHeartbeats 400000 in
theorem pat25 (p v : ByteArray) (w : World) :
    Calls Try.prog 25 #[.agg #[.int .i64 0, .string p], .string v] w fun e w' => e = .returned (.bool (v.toList == p.toList)) ∧ Below w.heap.size w w' := by
  go_enter Try.func25, Try.ntmps25
  go_wp2
  go_ret
  exact ⟨rfl, (Below.refl _ _).alloc (Nat.le_refl _) _⟩

set_option maxHeartbeats 400000 in
theorem fn24 (p v : ByteArray) (c : Nat) (w : World) (hc : w.cell? ⟨c, 0, none⟩ = some (.string v)) :
    Calls Try.prog 24 #[.agg #[.int .i64 0, .string p], .pointer (some ⟨c, 0, none⟩)] w fun e w' => e = .returned (.bool (v.toList == p.toList)) ∧ Below w.heap.size w w' := by
  have hcb : c < w.heap.size := block_lt_of_cell hc
  go_enter Try.func24, Try.ntmps24
  go_wp2_with fail
  refine (pat25 p v _).mono ?_
  rintro e w1 ⟨rfl, hb⟩
  go_wp2_with fail
  go_ret
  exact ⟨rfl, ((Below.refl _ _).alloc (Nat.le_refl _) _).trans (hb.mono (by simp))⟩

set_option maxHeartbeats 400000 in
theorem index28_yes (p v : ByteArray) (pb c : Nat) (w : World) (h0 : w.cell? ⟨pb, 0, none⟩ = some (.int .i64 0)) (h1 : w.cell? ⟨pb, 1, none⟩ = some (.string p)) (hc : w.cell? ⟨c, 0, none⟩ = some (.string v)) (heq : (v.toList == p.toList) = true) :
    Calls Try.prog 28 #[.slice (some ⟨pb, 0, none⟩) 1 1, .func (.func 24) #[] #[.pointer (some ⟨c, 0, none⟩)]] w fun e w' => e = .returned (.int .i64 0) ∧ Below w.heap.size w w' := by
  have hf := fn24 p v c w hc
  rw [heq] at hf
  have HF := hid hf
  clear hf heq
  go_enter Try.func28, Try.ntmps28
  go_wp2
  go_loopw [8] (fun i wr => i = .int .i64 0 ∧ wr = w) (fun i _ => 0)
  case atStart => exact ⟨rfl, rfl⟩
  case round =>
    obtain ⟨rfl, rfl⟩ := hrel
    go_wp2_with fail
    refine HF.out.mono ?_
    rintro e w1 ⟨rfl, hb⟩
    go_wp2_with fail
    go_ret
    exact ⟨rfl, hb⟩

set_option maxHeartbeats 400000 in
theorem index28_no (p v : ByteArray) (pb c : Nat) (w : World) (h0 : w.cell? ⟨pb, 0, none⟩ = some (.int .i64 0)) (h1 : w.cell? ⟨pb, 1, none⟩ = some (.string p)) (hc : w.cell? ⟨c, 0, none⟩ = some (.string v)) (heq : (v.toList == p.toList) = false) :
    Calls Try.prog 28 #[.slice (some ⟨pb, 0, none⟩) 1 1, .func (.func 24) #[] #[.pointer (some ⟨c, 0, none⟩)]] w fun e w' => e = .returned (.int .i64 (-1)) ∧ Below w.heap.size w w' := by
  have hf := fn24 p v c w hc
  rw [heq] at hf
  have HF := hid hf
  clear hf heq
  go_enter Try.func28, Try.ntmps28
  go_wp2
  go_loopw [8] (fun i wr => (i = .int .i64 0 ∧ wr = w) ∨ (i = .int .i64 1 ∧ Below w.heap.size w wr)) (fun i _ => 1 - (intOf i).toNat)
  case atStart => exact .inl ⟨rfl, rfl⟩
  case round =>
    rcases hrel with ⟨rfl, rfl⟩ | ⟨rfl, hb⟩
    · go_wp2_with fail
      refine HF.out.mono ?_
      rintro e w1 ⟨rfl, hb⟩
      have HB := hid hb
      clear hb
      go_wp2_with fail
      go_roundw
      case rel => exact .inr ⟨rfl, HB.out⟩
      case measure => simp [intOf]
    · have HB := hid hb
      clear hb
      go_wp2_with fail
      go_ret
      exact ⟨rfl, HB.out⟩

set_option maxHeartbeats 400000 in
theorem contains23 (p v : ByteArray) (pb c : Nat) (w : World) (h0 : w.cell? ⟨pb, 0, none⟩ = some (.int .i64 0)) (h1 : w.cell? ⟨pb, 1, none⟩ = some (.string p)) (hc : w.cell? ⟨c, 0, none⟩ = some (.string v)) :
    Calls Try.prog 23 #[.slice (some ⟨pb, 0, none⟩) 1 1, .func (.func 24) #[] #[.pointer (some ⟨c, 0, none⟩)]] w fun e w' => e = .returned (.bool (v.toList == p.toList)) ∧ Below w.heap.size w w' := by
  obtain ⟨t, ht⟩ : ∃ t, (v.toList == p.toList) = t := ⟨_, rfl⟩
  rw [ht]
  cases t
  · have HI := hid (index28_no p v pb c w h0 h1 hc ht)
    clear h0 h1 hc ht
    go_enter Try.func23, Try.ntmps23
    go_wp2_with fail
    refine HI.out.mono ?_
    rintro e w1 ⟨rfl, hb⟩
    go_wp2_with fail
    go_ret
    exact ⟨rfl, hb⟩
  · have HI := hid (index28_yes p v pb c w h0 h1 hc ht)
    clear h0 h1 hc ht
    go_enter Try.func23, Try.ntmps23
    go_wp2_with fail
    refine HI.out.mono ?_
    rintro e w1 ⟨rfl, hb⟩
    go_wp2_with fail
    go_ret
    exact ⟨rfl, hb⟩

set_option maxHeartbeats 400000 in
theorem any20 (p v : ByteArray) (pb : Nat) (w : World) (h0 : w.cell? ⟨pb, 0, none⟩ = some (.int .i64 0)) (h1 : w.cell? ⟨pb, 1, none⟩ = some (.string p)) :
    Calls Try.prog 20 #[.slice (some ⟨pb, 0, none⟩) 1 1, .string v] w fun e w' => e = .returned (.bool (v.toList == p.toList)) ∧ Below w.heap.size w w' := by
  have hpb : pb < w.heap.size := block_lt_of_cell h0
  have e0 : (w.alloc (.cells #[.string v] 9)).cell? ⟨pb, 0, none⟩ = some (.int .i64 0) := by rw [((Below.refl w.heap.size w).alloc (Nat.le_refl _) _).cell (p := ⟨pb, 0, none⟩) hpb]; exact h0
  have e1 : (w.alloc (.cells #[.string v] 9)).cell? ⟨pb, 1, none⟩ = some (.string p) := by rw [((Below.refl w.heap.size w).alloc (Nat.le_refl _) _).cell (p := ⟨pb, 1, none⟩) hpb]; exact h1
  have e2 : (w.alloc (.cells #[.string v] 9)).cell? ⟨w.heap.size, 0, none⟩ = some (.string v) := by rw [cell_of_row _ _ _ _ _ _ (heap_alloc_new w _)]; rfl
  have HC := hid (contains23 p v pb w.heap.size _ e0 e1 e2)
  clear e0 e1 e2
  go_enter Try.func20, Try.ntmps20
  go_wp2_with fail
  refine HC.out.mono ?_
  rintro e w1 ⟨rfl, hb⟩
  go_wp2_with fail
  go_ret
  exact ⟨rfl, ((Below.refl _ _).alloc (Nat.le_refl _) _).trans (hb.mono (by simp))⟩
end Go.Proofs.Qxb6614085a

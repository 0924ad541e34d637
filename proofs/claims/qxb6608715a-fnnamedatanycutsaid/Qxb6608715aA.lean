import Derived.Test.Qxb6608715aProg
import Derived.WalkKit
import Derived.WalkSpells
import Derived.WalkLawsBesides
import Derived.Great.Ranges
namespace Go.Proofs.Qxb6608715a
open Go.RowKit

theorem fold_size (off : Nat) : ∀ (l : List (Value × Nat)) (cs : Array Value), (l.foldl (fun cs x => cs.setIfInBounds (off + x.2) x.1) cs).size = cs.size
  | [], _ => rfl
  | x :: l, cs => by rw [List.foldl_cons, fold_size off l]; simp

theorem fill_size {place : Nat → Option (Nat × Nat)} : ∀ (ps : List (Nat × Value)) (cs : Array Value) (out : Array Value), Instr.fill place cs ps = some out → out.size = cs.size
  | [], cs, out, h => by simp [Instr.fill] at h; rw [h]
  | (i, v) :: ps, cs, out, h => by
    unfold Instr.fill at h
    split at h
    · simp at h
    · split at h
      · simp at h
      · have := fill_size ps _ _ h
        rw [this, ← Array.foldl_toList, fold_size]

def zeros41 : Array Value := (Array.replicate 256 (.bool false)).push (.slice none 0 0)

theorem zeros41_size : zeros41.size = 257 := by simp [zeros41]

def place41 : Nat → Option (Nat × Nat)
  | 0 => some (0, 256)
  | 1 => some (256, 1)
  | _ => none

theorem built41_eq (arr : Array Value) (a : Option Addr) (n c : Nat) :
    Try.prog.built 41 [(0, .agg arr), (1, .slice a n c)] = Instr.fill place41 zeros41 [(0, .agg arr), (1, .slice a n c)] := by kernel_rfl

theorem built41 (arr : Array Value) (ha : arr.size = 256) (a : Option Addr) (n c : Nat) :
    ∃ cells : Array Value, Try.prog.built 41 [(0, .agg arr), (1, .slice a n c)] = some cells ∧ cells[256]? = some (.slice a n c) := by
  rw [built41_eq]
  have hz := zeros41_size
  generalize zeros41 = z at *
  have hy : (arr.zipIdx.foldl (fun cs x => cs.setIfInBounds (0 + x.2) x.1) z).size = 257 := by rw [← Array.foldl_toList, fold_size, hz]
  unfold Instr.fill
  simp only [place41]
  have h1 : ¬ ((decide ((Value.agg arr).cells.size ≠ 256) || decide (0 + (Value.agg arr).cells.size > z.size)) = true) := by
    show ¬ ((decide (arr.size ≠ 256) || decide (0 + arr.size > z.size)) = true)
    simp [ha, hz]
  rw [if_neg h1]
  unfold Instr.fill
  simp only [place41]
  have h2 : ¬ ((decide ((Value.slice a n c).cells.size ≠ 1) || decide (256 + (Value.slice a n c).cells.size > ((Value.agg arr).cells.zipIdx.foldl (fun cs x => cs.setIfInBounds (0 + x.2) x.1) z).size)) = true) := by
    show ¬ ((decide (1 ≠ 1) || decide (256 + 1 > (arr.zipIdx.foldl (fun cs x => cs.setIfInBounds (0 + x.2) x.1) z).size)) = true)
    rw [hy]
    simp
  rw [if_neg h2]
  refine ⟨_, rfl, ?_⟩
  show (((arr.zipIdx.foldl (fun cs x => cs.setIfInBounds (0 + x.2) x.1) z)).setIfInBounds 256 (.slice a n c))[256]? = _
  rw [Array.getElem?_setIfInBounds_self, if_pos (by rw [hy]; omega)]

theorem info22 : (Try.prog.info? 22).map (·.size) = some 256 := by kernel_rfl

theorem cells41 (w : World) (o : Obj) (cells : Array Value) (v : Value) (h : cells[256]? = some v) : ((w.alloc o).alloc (.cells cells 41)).cell? ⟨w.heap.size + 1, 256, none⟩ = some v := by
  rw [cell_of_row _ _ _ _ _ _ (heap_alloc2_new w o (.cells cells 41))]
  exact h

set_option maxHeartbeats 400000 in
theorem newrule (arr : Array Value) (ha : arr.size = 256) (a : Option Addr) (n c : Nat) (w : World) :
    Calls Try.prog 10 #[.agg arr, .slice a n c] w fun e w' => ∃ r, e = .returned (.pointer (some ⟨r, 0, none⟩)) ∧ w.heap.size ≤ r ∧ r < w'.heap.size ∧ w'.cell? ⟨r, 256, none⟩ = some (.slice a n c) ∧ Below w.heap.size w w' := by
  obtain ⟨cells, hb, h256⟩ := built41 arr ha a n c
  have HB : Hid (Try.prog.built 41 [(0, .agg arr), (1, .slice a n c)] = some cells) := hb
  have HC : Hid (cells[256]? = some (.slice a n c)) := h256
  have HA : Hid (arr.size = 256) := ha
  have hsz : (Try.prog.info? 22).map (·.size) = some arr.size := by rw [ha]; exact info22
  clear hb h256 ha
  go_enter Try.func10, Try.ntmps10
  go_wp2_with (first | (refine Go.Great.wpList_boxTo rfl 22 _ rfl _ rfl _ rfl _ rfl ?_) | (refine wpList_load_row rfl 22 _ rfl _ rfl 22 _ _ _ (heap_alloc_new _ _) Try.underlying22 rfl hsz ?_) | (refine wpList_buildTo rfl 41 #[(0, Operand.tmp 5), (1, Operand.tmp 6)] rfl (some 7) rfl cells ?_ ?_; (simpa [Act.eval] using HB.out)) | (refine Go.Great.wpList_boxTo rfl 41 _ rfl _ rfl _ rfl _ rfl ?_))
  go_ret
  exact ⟨_, rfl, by omega, by simp, cells41 _ _ _ _ HC.out, ((Below.refl _ _).alloc (Nat.le_refl _) _).alloc (by simp) _⟩

end Go.Proofs.Qxb6608715a

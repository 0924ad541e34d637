import Derived.Test.Qxb6614085aF
import Derived.Laws.OwnMore
namespace Go.Proofs.Qxb6614085a
open Go.RowKit

theorem info41 : (Try.prog.info? 41).map (fun i => (i.zero, i.size, i.bytes)) = some (some (.agg #[.string ByteArray.empty, .slice none 0 0, .slice none 0 0, .slice none 0 0]), 4, 88) := by kernel_rfl

/-- What lies in the paths' field of a rule of path text p; its pattern, where there is one, lies in a block of its own, between lo and hi, other than g. -/
def PathAt (w : World) (g hi : Nat) (ov : Option Value) (p : ByteArray) : Prop :=
  (p.toList = [] ∧ ov = some (.slice none 0 0)) ∨
  (¬ p.toList = [] ∧ ∃ pb, pb ≠ g ∧ pb < hi ∧ ov = some (.slice (some ⟨pb, 0, none⟩) 1 1) ∧ w.cell? ⟨pb, 0, none⟩ = some (.int .i64 0) ∧ w.cell? ⟨pb, 1, none⟩ = some (.string p))

/-- The rules' row behind k rounds. -/
structure Filled (w : World) (g n k : Nat) (ss : List ByteArray) (xs : List Value) : Prop where
  side : ∀ i, i < n → xs[i * 4 + 1]? = some (.slice none 0 0) ∧ xs[i * 4 + 3]? = some (.slice none 0 0)
  rest : ∀ i, k ≤ i → i < n → xs[i * 4 + 2]? = some (.slice none 0 0)
  done : ∀ i, i < k → PathAt w g w.heap.size (xs[i * 4 + 2]?) (ss.getD i ByteArray.empty)

theorem made_at (n i j : Nat) (hi : i < n) (hj : j < 4) :
    (madeCells (Value.agg #[.string ByteArray.empty, .slice none 0 0, .slice none 0 0, .slice none 0 0]).cells (n * 4)).toList[i * 4 + j]? = (#[.string ByteArray.empty, .slice none 0 0, .slice none 0 0, .slice none 0 0] : Array Value)[j]? := by
  have hlt : i * 4 + j < n * 4 := by omega
  have e : (i * 4 + j) % 4 = j := by omega
  show (madeCells #[.string ByteArray.empty, .slice none 0 0, .slice none 0 0, .slice none 0 0] (n * 4)).toList[i * 4 + j]? = _
  simp only [madeCells, Array.toList_map, List.getElem?_map, Array.toList_range, List.getElem?_range hlt, Option.map_some, List.size_toArray, List.length_cons, List.length_nil]
  rw [show (0 + 1 + 1 + 1 + 1 : Nat) = 4 from rfl, e]
  rcases (show j = 0 ∨ j = 1 ∨ j = 2 ∨ j = 3 from by omega) with rfl | rfl | rfl | rfl <;> rfl

theorem Filled.skip {w : World} {g n k : Nat} {ss : List ByteArray} {xs : List Value} (h : Filled w g n k ss xs) (hk : k < n) (he : (ss.getD k ByteArray.empty).toList = []) : Filled w g n (k + 1) ss xs :=
  ⟨h.side, fun i h1 h2 => h.rest i (by omega) h2, fun i hi => by
    by_cases e : i = k
    · subst e; exact .inl ⟨he, h.rest i (Nat.le_refl _) hk⟩
    · exact h.done i (by omega)⟩

theorem Filled.put {w : World} {g n k : Nat} {ss : List ByteArray} {xs : List Value} {p : ByteArray} (h : Filled w g n k ss xs) (hg : g < w.heap.size) (hk : k < n) (hx : xs.length = n * 4) (hp : p = ss.getD k ByteArray.empty) (he : ¬ p.toList = []) :
    Filled ((w.setCell ⟨g, k * 4 + 2, none⟩ (.slice (some ⟨w.heap.size, 0, none⟩) 1 1)).alloc (.cells #[.int .i64 0, .string p] 37)) g n (k + 1) ss (xs.set (k * 4 + 2) (.slice (some ⟨w.heap.size, 0, none⟩) 1 1)) := by
  refine ⟨fun i hi => ?_, fun i h1 h2 => ?_, fun i hi => ?_⟩
  · rw [List.getElem?_set_ne (by omega), List.getElem?_set_ne (by omega)]; exact h.side i hi
  · rw [List.getElem?_set_ne (by omega)]; exact h.rest i (by omega) h2
  · by_cases e : i = k
    · subst e
      rw [← hp]
      have hs : (w.setCell ⟨g, i * 4 + 2, none⟩ (.slice (some ⟨w.heap.size, 0, none⟩) 1 1)).heap.size = w.heap.size := by simp
      have hnew := heap_alloc_new (w.setCell ⟨g, i * 4 + 2, none⟩ (.slice (some ⟨w.heap.size, 0, none⟩) 1 1)) (.cells #[.int .i64 0, .string p] 37)
      rw [hs] at hnew
      refine .inr ⟨he, w.heap.size, by omega, by simp, ?_, ?_, ?_⟩
      · rw [List.getElem?_set_self (by omega)]
      · rw [cell_of_row _ _ _ _ _ _ hnew]; rfl
      · rw [cell_of_row _ _ _ _ _ _ hnew]; rfl
    · rw [List.getElem?_set_ne (by omega)]
      rcases h.done i (by omega) with ⟨e1, e2⟩ | ⟨e1, pb, hne, hlt, e2, c0, c1⟩
      · exact .inl ⟨e1, e2⟩
      · refine .inr ⟨e1, pb, hne, by simp; omega, e2, ?_, ?_⟩
        · rw [World.cell?_alloc_lt _ _ _ (by simpa using hlt), World.cell?_setCell_other _ _ _ _ (fun h => hne (congrArg Addr.block h).symm)]; exact c0
        · rw [World.cell?_alloc_lt _ _ _ (by simpa using hlt), World.cell?_setCell_other _ _ _ _ (fun h => hne (congrArg Addr.block h).symm)]; exact c1

theorem search_made {wr : World} {base g n : Nat} {ss : List ByteArray} {xs : List Value} {m : ByteArray} {f : Int} (ho : wr.ownsRow base 41 4 (.slice (some ⟨g, 0, none⟩) n n) n xs) (hf : Filled wr g n n ss xs) (hg : g < wr.heap.size) :
    SearchAt ((wr.alloc (.cells #[.string m, .slice none 0 0, .map none] 45)).alloc (.cells #[.slice (some ⟨g, 0, none⟩) n n, .pointer (some ⟨wr.heap.size, 0, none⟩), .int .i64 f] 47)) (wr.heap.size + 1) g wr.heap.size n ss m f := by
  have hnew := heap_alloc2_new wr (.cells #[.string m, .slice none 0 0, .map none] 45) (.cells #[.slice (some ⟨g, 0, none⟩) n n, .pointer (some ⟨wr.heap.size, 0, none⟩), .int .i64 f] 47)
  have hold := heap_alloc2_old wr (.cells #[.string m, .slice none 0 0, .map none] 45) (.cells #[.slice (some ⟨g, 0, none⟩) n n, .pointer (some ⟨wr.heap.size, 0, none⟩), .int .i64 f] 47)
  have hb : Below wr.heap.size wr ((wr.alloc (.cells #[.string m, .slice none 0 0, .map none] 45)).alloc (.cells #[.slice (some ⟨g, 0, none⟩) n n, .pointer (some ⟨wr.heap.size, 0, none⟩), .int .i64 f] 47)) := ((Below.refl _ _).alloc (Nat.le_refl _) _).alloc (by simp) _
  refine ⟨by simp, ?_, ?_, ?_, frozen_of_row _ _ _ _ _ hnew, fun i hi => ⟨by omega, ?_, ?_, ?_⟩, ⟨by omega, ?_, ?_, ?_⟩⟩
  · rw [cell_of_row _ _ _ _ _ _ hnew]; rfl
  · rw [cell_of_row _ _ _ _ _ _ hnew]; rfl
  · rw [cell_of_row _ _ _ _ _ _ hnew]; rfl
  · refine cell_under ?_ hg hb
    rw [ho.cellAt _ (by omega)]; exact (hf.side i hi).1
  · refine cell_under ?_ hg hb
    rw [ho.cellAt _ (by omega)]; exact (hf.side i hi).2
  · rcases hf.done i hi with ⟨e1, e2⟩ | ⟨e1, pb, _, hlt, e2, c0, c1⟩
    · refine .inl ⟨e1, cell_under ?_ hg hb⟩
      rw [ho.cellAt _ (by omega)]; exact e2
    · refine .inr ⟨e1, pb, by omega, cell_under ?_ hg hb, cell_under c0 hlt hb, cell_under c1 hlt hb⟩
      rw [ho.cellAt _ (by omega)]; exact e2
  · rw [cell_of_row _ _ _ _ _ _ hold]; rfl
  · rw [cell_of_row _ _ _ _ _ _ hold]; rfl
  · rw [cell_of_row _ _ _ _ _ _ hold]; rfl

set_option maxHeartbeats 1000000 in
theorem newSearch (a : Option Addr) (n cap : Nat) (ss : List ByteArray) (m : ByteArray) (f : Int) (w : World) (h : SSl w a n ss) (hn : n ≤ 65536) :
    Calls Try.prog 10 #[.slice a n cap, .string m, .int .i64 f] w fun e w' => ∃ sb rb cb, e = .returned (.pointer (some ⟨sb, 0, none⟩)) ∧ w.heap.size ≤ sb ∧ SearchAt w' sb rb cb n ss m f ∧ Below w.heap.size w w' := by
  obtain ⟨i0, hi, hz0, hz1, hz2⟩ := info_parts info41
  have HS := hid h
  clear h
  go_enter Try.func10, Try.ntmps10
  go_wp2_with (at_make; refine wpList_make_full _ rfl _ _ 34 rfl w.heap.size 41 i0 _ 4 Try.underlying34 hi hz0 hz1 _ _ _ _ n rfl rfl rfl rfl (by rw [hz2]; omega) (by unfold maxLen; omega) (Nat.le_refl _) ?_; intro w1 hown hgrow)
  have HB1 : Hid (Below w.heap.size w w1) := (Below.refl _ _).grown hgrow (Nat.le_refl _) (fun k hk => by cases hk)
  have HO := hid hown
  clear hgrow hown
  go_loopw [14] (fun i wr => ∃ (k : Nat) (xs : List Value), k ≤ n ∧ i = .int .i64 k ∧ wr.ownsRow w.heap.size 41 4 (.slice (some ⟨w.heap.size, 0, none⟩) n n) n xs ∧ Filled wr w.heap.size n k ss xs ∧ Below w.heap.size w wr)
    (fun i _ => n - (intOf i).toNat)
  case atStart => exact ⟨0, _, Nat.zero_le _, rfl, HO.out, ⟨fun i hi => ⟨made_at n i 1 hi (by omega), made_at n i 3 hi (by omega)⟩, fun i _ hi => made_at n i 2 hi (by omega), fun i hi => by omega⟩, HB1.out⟩
  case round =>
    clear HO HB1
    obtain ⟨k, xs, hk, rfl, hown, hfil, hbel⟩ := hrel
    have HO := hid hown
    have HF := hid hfil
    have HB := hid hbel
    clear hown hfil hbel
    by_cases hlt : k < n
    · obtain ⟨b, o, rfl, hrow⟩ := HS.out.lies.resolve_left (by omega)
      have hcell := (hrow.later HB.out).cell k (by rw [HS.out.length]; exact hlt)
      obtain ⟨p, hp⟩ : ∃ p, p = ss.getD k ByteArray.empty := ⟨_, rfl⟩
      rw [← hp] at hcell
      have HP := hid hp
      clear hp hrow
      by_cases h0 : p.toList = []
      · go_wp2_with fail
        go_roundw
        case rel => exact ⟨k + 1, xs, by omega, by go_num, HO.out, HF.out.skip hlt (by rw [← HP.out]; exact h0), HB.out⟩
        case measure => simp [intOf]; omega
      · have hx : wr.cell? ⟨w.heap.size, k * 4 + 2, none⟩ = some (.slice none 0 0) := by
          rw [HO.out.cellAt (k * 4 + 2) (by omega)]; exact HF.out.rest k (Nat.le_refl _) hlt
        have hfz : wr.frozen? ⟨w.heap.size, k * 4 + 2, none⟩ = false := HO.out.frozenAt _
        have hg : w.heap.size < wr.heap.size := (HO.out.lt w.heap.size rfl).2
        have h0b : p.toList.isEmpty = false := by simpa using h0
        go_wp2_with fail
        go_roundw
        case rel => exact ⟨k + 1, xs.set (k * 4 + 2) (.slice (some ⟨wr.heap.size, 0, none⟩) 1 1), by omega, by go_num, ((HO.out.stored (k * 4 + 2) _).1).alloc _, HF.out.put hg hlt HO.out.1 HP.out h0, (HB.out.setCell (Nat.le_refl _) _).alloc (by simp; omega) _⟩
        case measure => simp [intOf]; omega
    · have hkn : k = n := by omega
      have HK := hid hkn
      have hg : w.heap.size < wr.heap.size := (HO.out.lt w.heap.size rfl).2
      clear hkn
      go_wp2_with fail
      go_ret
      exact ⟨wr.heap.size + 1, w.heap.size, wr.heap.size, rfl, by omega, search_made HO.out (by have := HF.out; rw [HK.out] at this; exact this) hg, (HB.out.alloc (by omega) _).alloc (by simp; omega) _⟩
end Go.Proofs.Qxb6614085a

import Derived.Test.Qxb6614244aFmtA
import Derived.Laws.OwnMore
namespace Go.Proofs.Qxb6614244aFmt
open Go.RowKit

theorem info5 : (Tryf.prog.info? 5).map (fun i => (i.zero, i.size, i.bytes)) = some (some (.int .u8 0), 1, 1) := by kernel_rfl

/-- A row of bytes lies in memory. -/
structure BRow (w : World) (b o : Nat) (zs : List Int) : Prop where
  lt : b < w.heap.size
  cell : ∀ k, k < zs.length → w.cell? ⟨b, o + k, none⟩ = some (.int .u8 (zs.getD k 0))
/-- A slice of bytes. -/
structure BSl (w : World) (a : Option Addr) (n : Nat) (zs : List Int) : Prop where
  length : zs.length = n
  lies : n = 0 ∨ ∃ b o, a = some ⟨b, o, none⟩ ∧ BRow w b o zs

/-- The call returned some bool. -/
def AnyBool (e : Ending) : Prop := ∃ b, e = .returned (.bool b)
/-- The call returned some slice. -/
def AnySlice (e : Ending) : Prop := ∃ a n c, e = .returned (.slice a n c)

set_option maxHeartbeats 400000 in
theorem clone_nil (c n : Nat) (w : World) :
    Calls Tryf.prog 6 #[.slice none n c] w fun e w' => AnySlice e ∧ Below w.heap.size w w' := by
  have hnil := fun w => Lib.run_eql_slice_nil (P := Tryf.prog) w 22 5 none n c 0 0 Tryf.underlying22
  go_enter Tryf.func6, Tryf.ntmps6
  go_wp2
  go_ret
  exact ⟨⟨_, _, _, rfl⟩, Below.refl _ _⟩

set_option maxHeartbeats 400000 in
theorem clone_at (ad : Addr) (n cap : Nat) (zs : List Int) (w : World) (h : BSl w (some ad) n zs) (hn : n ≤ 1048576) :
    Calls Tryf.prog 6 #[.slice (some ad) n cap] w fun e w' => AnySlice e ∧ Below w.heap.size w w' := by
  obtain ⟨i0, hi, hz0, hz1, hz2⟩ := info_parts info5
  have HS := hid h
  clear h
  have hnil := fun w => Lib.run_eql_slice_nil (P := Tryf.prog) w 22 5 (some ad) n cap 0 0 Tryf.underlying22
  go_enter Tryf.func6, Tryf.ntmps6
  go_wp2_with (at_make; refine wpList_make_full _ rfl _ _ 22 rfl w.heap.size 5 i0 (.int .u8 0) 1 Tryf.underlying22 hi hz0 hz1 _ _ _ _ n rfl rfl rfl rfl (by rw [hz2]; omega) (by unfold maxLen; omega) (Nat.le_refl _) ?_; intro w1 hown hgrow)
  have hbel : Below w.heap.size w w1 := (Below.refl _ _).grown hgrow (Nat.le_refl _) (fun k hk => by cases hk)
  clear hgrow hnil
  go_loopw [4] (fun i wr => ∃ (k : Nat) (xs : List Value), k ≤ n ∧ i = .int .i64 k ∧ wr.ownsRow w.heap.size 5 1 (.slice (some ⟨w.heap.size, 0, none⟩) n n) n xs ∧ Below w.heap.size w wr)
    (fun i _ => n - (intOf i).toNat)
  case atStart => exact ⟨0, _, Nat.zero_le _, rfl, hown, hbel⟩
  case round =>
    clear hown hbel
    obtain ⟨k, xs, hk, rfl, hown, hbel⟩ := hrel
    have HO := hid hown
    have HB := hid hbel
    clear hown hbel
    by_cases hlt : k < n
    · obtain ⟨b, o, e, hrow⟩ := HS.out.lies.resolve_left (by omega)
      obtain rfl := Option.some.inj e
      have hcell := hrow.cell k (by rw [HS.out.length]; exact hlt)
      rw [← HB.out.cell (p := ⟨b, o + k, none⟩) hrow.lt] at hcell
      obtain ⟨z, hz⟩ : ∃ z, z = zs.getD k 0 := ⟨_, rfl⟩
      rw [← hz] at hcell
      have hg := HO.out.cellAt k (by omega)
      rw [List.getElem?_eq_getElem (by have := HO.out.1; omega)] at hg
      have hfz := HO.out.frozenAt k
      generalize xs[k]'(by have := HO.out.1; omega) = v at hg
      clear hz hrow e
      go_wp2
      go_roundw
      case rel => exact ⟨k + 1, xs.set k (.int .u8 z), by omega, by go_num, (HO.out.stored k _).1, HB.out.setCell (Nat.le_refl _) _⟩
      case measure => simp [intOf]; omega
    · go_wp2
      go_ret
      exact ⟨⟨_, _, _, rfl⟩, HB.out⟩

theorem clone_any (a : Option Addr) (n cap : Nat) (zs : List Int) (w : World) (h : BSl w a n zs) (hn : n ≤ 1048576) :
    Calls Tryf.prog 6 #[.slice a n cap] w fun e w' => AnySlice e ∧ Below w.heap.size w w' := by
  cases a with
  | none => exact clone_nil cap n w
  | some ad => exact clone_at ad n cap zs w h hn

set_option maxHeartbeats 400000 in
theorem bytes5 (x y : ByteArray) (a : Option Addr) (n c : Nat) (w : World) (hx : x.size ≤ maxLen) (hy : y.size ≤ maxLen) (hn : n ≤ maxLen) :
    Calls Tryf.prog 5 #[.string x, .string y, .slice a n c] w fun e w' => AnyBool e ∧ w' = w := by
  unfold maxLen at hx hy hn
  go_enter Tryf.func5, Tryf.ntmps5
  go_wp2
  all_goals (go_ret; exact ⟨⟨_, rfl⟩, rfl⟩)

set_option maxHeartbeats 400000 in
theorem bytes8 (x : Int) (a : Option Addr) (n c : Nat) (w : World) (hn : n ≤ maxLen) :
    Calls Tryf.prog 8 #[.int .i64 x, .slice a n c] w fun e w' => AnyBool e ∧ w' = w := by
  unfold maxLen at hn
  go_enter Tryf.func8, Tryf.ntmps8
  go_wp2
  all_goals (go_ret; exact ⟨⟨_, rfl⟩, rfl⟩)
end Go.Proofs.Qxb6614244aFmt

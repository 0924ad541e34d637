import Derived.Test.Qxb6608715aProg
import Derived.WalkKit
import Derived.WalkSpells
import Derived.WalkLawsBesides
namespace Go.Proofs.Qxb6608715a
open Go.RowKit

/-- The bytes of the first strings of a list, added up. -/
def lens (l : List ByteArray) : Nat := (l.map ByteArray.size).sum

theorem lens_snoc (l : List ByteArray) (s : ByteArray) : lens (l ++ [s]) = lens l + s.size := by simp [lens]
theorem take_snoc (ss : List ByteArray) (k : Nat) (h : k < ss.length) : ss.take (k + 1) = ss.take k ++ [ss.getD k ByteArray.empty] := by
  rw [List.take_succ_eq_append_getElem h]; simp [h]

/-- A row of strings lies in memory. -/
structure SRow (w : World) (b o : Nat) (ss : List ByteArray) : Prop where
  lt : b < w.heap.size
  cell : ∀ k, k < ss.length → w.cell? ⟨b, o + k, none⟩ = some (.string (ss.getD k ByteArray.empty))

theorem hid {p : Prop} (h : p) : Hid p := h

/-- The call returned some bool. -/
def AnyBool (e : Ending) : Prop := ∃ b, e = .returned (.bool b)

set_option maxHeartbeats 400000 in
theorem bytes14_none (a : Option Addr) (cap : Nat) (x : ByteArray) (w : World) (hx : x.size ≤ maxLen) :
    Calls Try.prog 14 #[.slice a 0 cap, .string x] w fun e w' => AnyBool e ∧ w' = w := by
  unfold maxLen at hx
  go_enter Try.func14, Try.ntmps14
  go_wp2
  go_loop [5, 6] (fun z i => z = .int .i64 0 ∧ i = .int .i64 0) (fun _ _ => 0)
  case atStart => exact ⟨rfl, rfl⟩
  case round =>
    obtain ⟨rfl, rfl⟩ := hrel
    go_wp2
    all_goals (go_ret; exact ⟨⟨_, rfl⟩, rfl⟩)

set_option maxHeartbeats 400000 in
theorem bytes14_some (b o len cap : Nat) (ss : List ByteArray) (x : ByteArray) (w : World) (hx : x.size ≤ maxLen) (hl : ss.length = len) (hm : len ≤ maxLen) (hsz : ∀ s ∈ ss, s.size ≤ maxLen) (hr : SRow w b o ss) :
    Calls Try.prog 14 #[.slice (some ⟨b, o, none⟩) len cap, .string x] w fun e w' => AnyBool e ∧ w' = w := by
  have hc : ∀ k, k < len → ∃ s : ByteArray, w.cell? ⟨b, o + k, none⟩ = some (.string s) ∧ s.size ≤ 9223372036854775807 := fun k hk =>
    ⟨_, hr.cell k (by omega), by
      have := hsz (ss.getD k ByteArray.empty) (by rw [List.getD_eq_getElem?_getD, List.getElem?_eq_getElem (by omega)]; simp)
      unfold maxLen at this
      omega⟩
  have HC := hid hc
  clear hc hsz hr
  unfold maxLen at hx hm
  go_enter Try.func14, Try.ntmps14
  go_wp2
  · go_ret; exact ⟨⟨_, rfl⟩, rfl⟩
  go_loop [5, 6] (fun z i => ∃ (k : Nat) (n : Int), k ≤ len ∧ i = .int .i64 k ∧ z = .int .i64 n ∧ 0 ≤ n ∧ n ≤ 1048576) (fun _ i => len - (intOf i).toNat)
  case atStart => exact ⟨0, (len : Int), by omega, rfl, rfl, by omega, by omega⟩
  case round =>
    obtain ⟨k, n, hk, rfl, rfl, h0, h1⟩ := hrel
    by_cases hlt : k < len
    · obtain ⟨s, hcell, hs⟩ := HC.out k hlt
      go_wp2
      · go_ret; exact ⟨⟨_, rfl⟩, rfl⟩
      · go_ret; exact ⟨⟨_, rfl⟩, rfl⟩
      · go_round
        case rel => exact ⟨k + 1, _, by omega, by go_num, rfl, by omega, by omega⟩
        case measure => simp [intOf]; omega
    · go_wp2
      all_goals (go_ret; exact ⟨⟨_, rfl⟩, rfl⟩)

set_option maxHeartbeats 400000 in
theorem bytes19_none (a : Option Addr) (cap : Nat) (x : Int) (w : World) :
    Calls Try.prog 19 #[.slice a 0 cap, .int .i64 x] w fun e w' => AnyBool e ∧ w' = w := by
  go_enter Try.func19, Try.ntmps19
  go_wp2
  go_loop [5, 6] (fun z i => z = .int .i64 0 ∧ i = .int .i64 0) (fun _ _ => 0)
  case atStart => exact ⟨rfl, rfl⟩
  case round =>
    obtain ⟨rfl, rfl⟩ := hrel
    go_wp2
    all_goals (go_ret; exact ⟨⟨_, rfl⟩, rfl⟩)

theorem getD_mem (ss : List ByteArray) (k : Nat) (hk : k < ss.length) : ss.getD k ByteArray.empty ∈ ss := by
  rw [List.getD_eq_getElem?_getD, List.getElem?_eq_getElem hk]; simp

set_option maxHeartbeats 400000 in
theorem bytes19_some (b o len cap : Nat) (ss : List ByteArray) (x : Int) (w : World) (hl : ss.length = len) (hm : len ≤ maxLen) (hsz : ∀ s ∈ ss, s.size ≤ maxLen) (hr : SRow w b o ss) :
    Calls Try.prog 19 #[.slice (some ⟨b, o, none⟩) len cap, .int .i64 x] w fun e w' => AnyBool e ∧ w' = w := by
  have hc : ∀ k, k < len → ∃ s : ByteArray, w.cell? ⟨b, o + k, none⟩ = some (.string s) ∧ s.size ≤ 9223372036854775807 := fun k hk =>
    ⟨_, hr.cell k (by omega), by have := hsz _ (getD_mem ss k (by omega)); unfold maxLen at this; omega⟩
  have HC := hid hc
  clear hc hsz hr
  unfold maxLen at hm
  go_enter Try.func19, Try.ntmps19
  go_wp2
  · go_ret; exact ⟨⟨_, rfl⟩, rfl⟩
  go_loop [5, 6] (fun z i => ∃ (k : Nat) (n : Int), k ≤ len ∧ i = .int .i64 k ∧ z = .int .i64 n ∧ 0 ≤ n ∧ n ≤ 1048576) (fun _ i => len - (intOf i).toNat)
  case atStart => exact ⟨0, (len : Int), by omega, rfl, rfl, by omega, by omega⟩
  case round =>
    obtain ⟨k, n, hk, rfl, rfl, h0, h1⟩ := hrel
    by_cases hlt : k < len
    · obtain ⟨s, hcell, hs⟩ := HC.out k hlt
      go_wp2
      · go_ret; exact ⟨⟨_, rfl⟩, rfl⟩
      · go_ret; exact ⟨⟨_, rfl⟩, rfl⟩
      · go_round
        case rel => exact ⟨k + 1, _, by omega, by go_num, rfl, by omega, by omega⟩
        case measure => simp [intOf]; omega
    · go_wp2
      all_goals (go_ret; exact ⟨⟨_, rfl⟩, rfl⟩)

/-- What 'zzStrsBytes' tells: too much, or the very count. -/
def Counts (e : Ending) (n : Nat) : Prop := ∃ m : Int, e = .returned (.int .i64 m) ∧ 0 ≤ m ∧ m ≤ 1048577 ∧ (m ≤ 1048576 → m = n)

theorem counts_over (n : Nat) : Counts (.returned (.int .i64 1048577)) n := ⟨1048577, rfl, by omega, by omega, fun h => by omega⟩

set_option maxHeartbeats 400000 in
theorem strs_none (a : Option Addr) (cap : Nat) (w : World) :
    Calls Try.prog 15 #[.slice a 0 cap, .int .i64 1048576] w fun e w' => Counts e 0 ∧ w' = w := by
  go_enter Try.func15, Try.ntmps15
  go_wp2
  go_loop [5, 6] (fun z i => z = .int .i64 0 ∧ i = .int .i64 0) (fun _ _ => 0)
  case atStart => exact ⟨rfl, rfl⟩
  case round =>
    obtain ⟨rfl, rfl⟩ := hrel
    go_wp2
    go_ret
    exact ⟨⟨0, rfl, by omega, by omega, fun _ => rfl⟩, rfl⟩

set_option maxHeartbeats 400000 in
theorem strs_some (b o len cap : Nat) (ss : List ByteArray) (w : World) (hl : ss.length = len) (hm : len ≤ maxLen) (hsz : ∀ s ∈ ss, s.size ≤ maxLen) (hr : SRow w b o ss) :
    Calls Try.prog 15 #[.slice (some ⟨b, o, none⟩) len cap, .int .i64 1048576] w fun e w' => Counts e (16 * len + lens ss) ∧ w' = w := by
  have hc : ∀ k, k < len → ∃ s : ByteArray, w.cell? ⟨b, o + k, none⟩ = some (.string s) ∧ s.size ≤ 9223372036854775807 ∧ lens (ss.take (k + 1)) = lens (ss.take k) + s.size := fun k hk =>
    ⟨_, hr.cell k (by omega), by have := hsz _ (getD_mem ss k (by omega)); unfold maxLen at this; omega, by rw [take_snoc ss k (by omega), lens_snoc]⟩
  have HC := hid hc
  have HE : Hid (ss.take len = ss) := by rw [← hl]; exact List.take_length
  clear hc hsz hr hl
  unfold maxLen at hm
  go_enter Try.func15, Try.ntmps15
  go_wp2
  · go_ret; exact ⟨counts_over _, rfl⟩
  go_loop [5, 6] (fun z i => ∃ (k : Nat), k ≤ len ∧ i = .int .i64 k ∧ z = .int .i64 ((16 * len + lens (ss.take k) : Nat) : Int) ∧ 16 * len + lens (ss.take k) ≤ 1048576) (fun _ i => len - (intOf i).toNat)
  case atStart => exact ⟨0, by omega, rfl, by simp [lens], by simp [lens]; omega⟩
  case round =>
    obtain ⟨k, hk, rfl, rfl, h1⟩ := hrel
    by_cases hlt : k < len
    · obtain ⟨s, hcell, hs, hsn⟩ := HC.out k hlt
      have HS := hid hsn
      clear hsn
      go_wp2
      · go_ret; exact ⟨counts_over _, rfl⟩
      · go_round
        case rel => exact ⟨k + 1, by omega, by go_num, by rw [HS.out]; go_num, by rw [HS.out]; omega⟩
        case measure => simp [intOf]; omega
    · go_wp2
      go_ret
      have hkl : k = len := by omega
      subst hkl
      rw [HE.out] at h1 ⊢
      exact ⟨⟨_, rfl, by omega, by omega, fun _ => rfl⟩, rfl⟩

theorem info9 : (Try.prog.info? 9).map (fun i => (i.zero, i.size, i.bytes)) = some (some (.string ByteArray.empty), 1, 16) := by kernel_rfl
end Go.Proofs.Qxb6608715a

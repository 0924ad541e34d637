import Derived.Test.Qxb6613690aProg
import Derived.WalkKit
import Derived.WalkSpells
import Derived.WalkLawsBesides
namespace Go.Proofs.Qxb6613690a
open Go.RowKit

theorem hid {p : Prop} (h : p) : Hid p := h

/-- The three names. -/
def nm : Nat → ByteArray
  | 0 => ⟨#[97, 32, 99, 111, 110, 100, 105, 116, 105, 111, 110]⟩
  | 1 => ⟨#[97, 32, 116, 101, 120, 116]⟩
  | _ => ⟨#[97, 32, 110, 117, 109, 98, 101, 114]⟩

set_option maxHeartbeats 400000 in
theorem kind6 (j : Nat) (h : j ≤ 2) (w : World) : Calls Try.prog 6 #[.int .i64 j] w fun e w' => e = .returned (.string (nm j)) ∧ w' = w := by
  have i0 : ∀ w : World, (Instr.index 27 (.agg #[.string ⟨#[97, 32, 99, 111, 110, 100, 105, 116, 105, 111, 110]⟩, .string ⟨#[97, 32, 116, 101, 120, 116]⟩, .string ⟨#[97, 32, 110, 117, 109, 98, 101, 114]⟩]) (.int .i64 0)).run Try.prog w = .ok (.string (nm 0)) w := fun _ => by kernel_rfl
  have i1 : ∀ w : World, (Instr.index 27 (.agg #[.string ⟨#[97, 32, 99, 111, 110, 100, 105, 116, 105, 111, 110]⟩, .string ⟨#[97, 32, 116, 101, 120, 116]⟩, .string ⟨#[97, 32, 110, 117, 109, 98, 101, 114]⟩]) (.int .i64 1)).run Try.prog w = .ok (.string (nm 1)) w := fun _ => by kernel_rfl
  have i2 : ∀ w : World, (Instr.index 27 (.agg #[.string ⟨#[97, 32, 99, 111, 110, 100, 105, 116, 105, 111, 110]⟩, .string ⟨#[97, 32, 116, 101, 120, 116]⟩, .string ⟨#[97, 32, 110, 117, 109, 98, 101, 114]⟩]) (.int .i64 2)).run Try.prog w = .ok (.string (nm 2)) w := fun _ => by kernel_rfl
  rcases (show j = 0 ∨ j = 1 ∨ j = 2 from by omega) with rfl | rfl | rfl
  all_goals
    go_enter Try.func6, Try.ntmps6
    go_wp2
    go_ret
    exact ⟨rfl, rfl⟩

set_option maxHeartbeats 400000 in
theorem kind4 (j : Nat) (h : j ≤ 2) (w : World) : Calls Try.prog 4 #[.int .i64 j] w fun e w' => e = .returned (.string (nm j)) ∧ w' = w := by
  go_enter Try.func4, Try.ntmps4
  go_wp2_with (go_at_call 6; refine (kind6 _ h _).mono ?_; rintro e w1 ⟨rfl, rfl⟩)
  go_ret
  exact ⟨rfl, rfl⟩

/-- A text that is the article and a word of lowercase letters. -/
structure Worded (s : ByteArray) : Prop where
  long : 3 ≤ s.size
  short : s.size ≤ 100
  first : ∀ h : 0 < s.size, (s[0]'h).toNat = 97
  second : ∀ h : 1 < s.size, (s[1]'h).toNat = 32
  rest : ∀ (k : Nat) (h : k < s.size), 2 ≤ k → 97 ≤ (s[k]'h).toNat ∧ (s[k]'h).toNat ≤ 122

theorem worded (j : Nat) : Worded (nm j) := by
  match j with
  | 0 => exact ⟨by decide, by decide, by decide, by decide, by decide⟩
  | 1 => exact ⟨by decide, by decide, by decide, by decide, by decide⟩
  | j + 2 =>
    show Worded (nm 2)
    exact ⟨by decide, by decide, by decide, by decide, by decide⟩

set_option maxHeartbeats 400000 in
theorem articled (s : ByteArray) (hs : Worded s) (w : World) : Calls Try.prog 5 #[.string s] w fun e w' => e = .returned (.bool true) ∧ w' = w := by
  have h3 := hs.long
  have h100 := hs.short
  have f0 := hs.first (by omega)
  have f1 := hs.second (by omega)
  have HR := hid hs.rest
  clear hs
  go_enter Try.func5, Try.ntmps5
  go_wp2
  go_loop [3] (fun i => ∃ k : Nat, 2 ≤ k ∧ k ≤ s.size ∧ i = .int .i64 k) (fun i => s.size - (intOf i).toNat)
  case atStart => exact ⟨2, by omega, by omega, rfl⟩
  case round =>
    obtain ⟨k, h2, hk, rfl⟩ := hrel
    by_cases hlt : k < s.size
    · obtain ⟨g1, g2⟩ := HR.out k hlt h2
      go_wp2
      go_round
      case rel => exact ⟨k + 1, by omega, by omega, by go_num⟩
      case measure => simp [intOf]; omega
    · go_wp2
      go_ret
      exact ⟨rfl, rfl⟩

theorem names_eq (j k : Nat) (hj : j ≤ 2) (hk : k ≤ 2) : (((j : Int) == (k : Int)) == ((nm j).toList == (nm k).toList)) = true := by
  rcases (show j = 0 ∨ j = 1 ∨ j = 2 from by omega) with rfl | rfl | rfl <;> rcases (show k = 0 ∨ k = 1 ∨ k = 2 from by omega) with rfl | rfl | rfl <;> simp only [Go.ByteArray.toList_eq] <;> decide

set_option maxHeartbeats 400000 in
theorem law_in (j k : Nat) (hj : j ≤ 2) (hk : k ≤ 2) (w : World) : Calls Try.prog 3 #[.int .i64 j, .int .i64 k] w fun e w' => e = .returned (.bool true) ∧ w' = w := by
  have hE := names_eq j k hj hk
  have a1 : ¬ ((j : Int) < 0) := by omega
  have a2 : ¬ ((2 : Int) < (j : Int)) := by omega
  have a3 : ¬ ((k : Int) < 0) := by omega
  have a4 : ¬ ((2 : Int) < (k : Int)) := by omega
  go_enter Try.func3, Try.ntmps3
  go_wp2_with fail
  refine (kind4 j hj _).mono ?_
  rintro e w1 ⟨rfl, rfl⟩
  go_wp2_with fail
  refine (kind4 k hk _).mono ?_
  rintro e w2 ⟨rfl, rfl⟩
  go_wp2_with fail
  refine (articled _ (worded j) _).mono ?_
  rintro e w3 ⟨rfl, hw3⟩
  subst hw3
  go_wp2_with fail
  refine (articled _ (worded k) _).mono ?_
  rintro e w4 ⟨rfl, hw4⟩
  subst hw4
  go_wp2_with fail
  go_ret
  exact ⟨rfl, rfl⟩

set_option maxHeartbeats 400000 in
theorem law_out1 (j k : Int) (h : j < 0) (w : World) : Calls Try.prog 3 #[.int .i64 j, .int .i64 k] w fun e w' => e = .returned (.bool true) ∧ w' = w := by
  go_enter Try.func3, Try.ntmps3
  go_wp2
  go_ret
  exact ⟨rfl, rfl⟩

set_option maxHeartbeats 400000 in
theorem law_out2 (j k : Int) (h0 : ¬ j < 0) (h : 2 < j) (w : World) : Calls Try.prog 3 #[.int .i64 j, .int .i64 k] w fun e w' => e = .returned (.bool true) ∧ w' = w := by
  go_enter Try.func3, Try.ntmps3
  go_wp2
  go_ret
  exact ⟨rfl, rfl⟩

set_option maxHeartbeats 400000 in
theorem law_out3 (j k : Int) (h0 : ¬ j < 0) (h1 : ¬ 2 < j) (h : k < 0) (w : World) : Calls Try.prog 3 #[.int .i64 j, .int .i64 k] w fun e w' => e = .returned (.bool true) ∧ w' = w := by
  go_enter Try.func3, Try.ntmps3
  go_wp2
  go_ret
  exact ⟨rfl, rfl⟩

set_option maxHeartbeats 400000 in
theorem law_out4 (j k : Int) (h0 : ¬ j < 0) (h1 : ¬ 2 < j) (h2 : ¬ k < 0) (h : 2 < k) (w : World) : Calls Try.prog 3 #[.int .i64 j, .int .i64 k] w fun e w' => e = .returned (.bool true) ∧ w' = w := by
  go_enter Try.func3, Try.ntmps3
  go_wp2
  go_ret
  exact ⟨rfl, rfl⟩

theorem law_any (j k : Int) (w : World) : Calls Try.prog 3 #[.int .i64 j, .int .i64 k] w fun e w' => e = .returned (.bool true) ∧ w' = w := by
  by_cases h0 : j < 0
  · exact law_out1 j k h0 w
  by_cases h1 : 2 < j
  · exact law_out2 j k h0 h1 w
  by_cases h2 : k < 0
  · exact law_out3 j k h0 h1 h2 w
  by_cases h3 : 2 < k
  · exact law_out4 j k h0 h1 h2 h3 w
  obtain ⟨a, rfl⟩ : ∃ a : Nat, j = a := ⟨j.toNat, by omega⟩
  obtain ⟨b, rfl⟩ : ∃ b : Nat, k = b := ⟨k.toNat, by omega⟩
  exact law_in a b (by omega) (by omega) w
end Go.Proofs.Qxb6613690a

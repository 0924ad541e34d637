import Derived.Test.Qxb6614085aA
namespace Go.Proofs.Qxb6614085a
open Go.RowKit

set_option maxHeartbeats 400000 in
theorem exact_none (a : Option Addr) (cap : Nat) (w : World) :
    Calls Try.prog 6 #[.slice a 0 cap] w fun e w' => AnyBool e ∧ w' = w := by
  go_enter Try.func6, Try.ntmps6
  go_wp2
  go_loop [3] (fun i => i = .int .i64 0) (fun _ => 0)
  case atStart => rfl
  case round =>
    subst hrel
    go_wp2
    all_goals (go_ret; exact ⟨⟨_, rfl⟩, rfl⟩)

theorem size_pos {s : ByteArray} (h : ¬ s.toList = []) : 0 < s.size := by
  rcases Nat.eq_zero_or_pos s.size with h0 | h0
  · exfalso
    apply h
    rw [Go.ByteArray.toList_eq]
    have : s.data.toList.length = 0 := by simpa using h0
    exact List.length_eq_zero_iff.1 this
  · exact h0

set_option maxHeartbeats 800000 in
theorem exact_some (b o len cap : Nat) (ss : List ByteArray) (w : World) (hl : ss.length = len) (hm : len ≤ maxLen) (hsz : ∀ s ∈ ss, s.size ≤ maxLen) (hr : SRow w b o ss) :
    Calls Try.prog 6 #[.slice (some ⟨b, o, none⟩) len cap] w fun e w' => AnyBool e ∧ w' = w := by
  have hc : ∀ k, k < len → ∃ s : ByteArray, w.cell? ⟨b, o + k, none⟩ = some (.string s) ∧ s.size ≤ 9223372036854775807 := fun k hk =>
    ⟨_, hr.cell k (by omega), by have := hsz _ (getD_mem ss k (by omega)); unfold maxLen at this; omega⟩
  have HC := hid hc
  clear hc hsz hr
  unfold maxLen at hm
  go_enter Try.func6, Try.ntmps6
  go_wp2
  go_loop [3] (fun i => ∃ (k : Nat), k ≤ len ∧ i = .int .i64 k) (fun i => len - (intOf i).toNat)
  case atStart => exact ⟨0, by omega, rfl⟩
  case round =>
    obtain ⟨k, hk, rfl⟩ := hrel
    by_cases hlt : k < len
    · obtain ⟨s, hcell, hs⟩ := HC.out k hlt
      by_cases h0 : s.toList = []
      · go_wp2
        go_round
        case rel => exact ⟨k + 1, by omega, by go_num⟩
        case measure => simp [intOf]; omega
      · have hp := size_pos h0
        have hq : s.size - 1 < s.size := by omega
        go_wp2
        all_goals first
          | (go_ret; exact ⟨⟨_, rfl⟩, rfl⟩)
          | (go_round
             case rel => exact ⟨k + 1, by omega, by go_num⟩
             case measure => simp [intOf]; omega)
    · go_wp2
      all_goals (go_ret; exact ⟨⟨_, rfl⟩, rfl⟩)

theorem exact_any (a : Option Addr) (n cap : Nat) (ss : List ByteArray) (w : World) (h : SSl w a n ss) (hm : n ≤ maxLen) (hsz : ∀ s ∈ ss, s.size ≤ maxLen) :
    Calls Try.prog 6 #[.slice a n cap] w fun e w' => AnyBool e ∧ w' = w := by
  rcases h.lies with rfl | ⟨b, o, rfl, hr⟩
  · exact exact_none a cap w
  · exact exact_some b o n cap ss w h.length hm hsz hr

/-- 'ascending' tells. -/
def TellsAsc (e : Ending) (zs : List Int) : Prop := ∃ b, e = .returned (.bool b) ∧ (b = true → Asc zs)

set_option maxHeartbeats 400000 in
theorem asc_none (a : Option Addr) (cap : Nat) (w : World) :
    Calls Try.prog 7 #[.slice a 0 cap] w fun e w' => TellsAsc e [] ∧ Below w.heap.size w w' := by
  go_enter Try.func7, Try.ntmps7
  go_wp2
  go_loop [3] (fun i => i = .int .i64 0) (fun _ => 0)
  case atStart => rfl
  case round =>
    subst hrel
    go_wp2
    all_goals (go_ret; exact ⟨⟨_, rfl, fun _ => trivial⟩, Below.refl _ _⟩)

theorem Asc.last : ∀ {l : List Int} {y : Int}, Asc (l ++ [y]) → ∀ d ∈ l, d ≤ y
  | c :: r, y, h, d, hd => by
    rcases List.mem_cons.1 hd with rfl | hd
    · exact h.2.1 y (List.mem_append.2 (.inr (List.mem_singleton.2 rfl)))
    · exact Asc.last (l := r) h.2.2 d hd

set_option maxHeartbeats 800000 in
theorem asc_some (b o len cap : Nat) (zs : List Int) (w : World) (hl : zs.length = len) (hm : len ≤ maxLen) (hr : IRow w b o zs) :
    Calls Try.prog 7 #[.slice (some ⟨b, o, none⟩) len cap] w fun e w' => TellsAsc e zs ∧ Below w.heap.size w w' := by
  have hc : ∀ wr, Below w.heap.size w wr → ∀ k, k < len → wr.cell? ⟨b, o + k, none⟩ = some (.int .i64 (zs.getD k 0)) := fun wr hb k hk => by
    rw [hb.cell (p := ⟨b, o + k, none⟩) hr.lt]; exact hr.cell k (by omega)
  have HC := hid hc
  have HL := hid hl
  clear hc hr hl
  unfold maxLen at hm
  go_enter Try.func7, Try.ntmps7
  go_wp2
  go_loopw [3] (fun i wr => ∃ (k : Nat), k ≤ len ∧ i = .int .i64 k ∧ Asc (zs.take k) ∧ Below w.heap.size w wr) (fun i _ => len - (intOf i).toNat)
  case atStart => exact ⟨0, by omega, rfl, trivial, Below.refl _ _⟩
  case round =>
    obtain ⟨k, hk, rfl, hasc, hbel⟩ := hrel
    have HA := hid hasc
    have HB := hid hbel
    clear hasc hbel
    by_cases hlt : k < len
    · have hcell := HC.out wr HB.out k hlt
      obtain ⟨z, hz⟩ : ∃ z, z = zs.getD k 0 := ⟨_, rfl⟩
      rw [← hz] at hcell
      have HZ := hid hz
      clear hz
      by_cases hneg : z < 0
      · go_wp2
        go_ret
        exact ⟨⟨false, rfl, fun h => by cases h⟩, HB.out⟩
      by_cases h0 : k = 0
      · have hd2 : decide (0 < k) = false := by simp; omega
        have HN : Hid (Asc (zs.take (k + 1))) := by
          rw [h0, take_int zs 0 (by rw [HL.out]; omega)]
          have hz := HZ.out
          rw [h0] at hz
          rw [← hz]
          exact ⟨by omega, by simp, trivial⟩
        clear h0
        go_wp2
        go_quiet (fail)
        go_wp2
        go_roundw
        case rel => exact ⟨k + 1, by omega, by go_num, HN.out, below_drewN HB.out _⟩
        case measure => simp [intOf]; omega
      · obtain ⟨j, rfl⟩ : ∃ j, k = j + 1 := ⟨k - 1, by omega⟩
        have hcell1 := HC.out wr HB.out j (by omega)
        obtain ⟨y, hy⟩ : ∃ y, y = zs.getD j 0 := ⟨_, rfl⟩
        rw [← hy] at hcell1
        have HY := hid hy
        clear hy h0
        have g0 : (0 : Int) ≤ (j : Int) := by omega
        have g1 : (j : Int) < (len : Int) := by omega
        have g2 : (j : Int) + 1 < (len : Int) := by omega
        have g3 : (0 : Int) < (j : Int) + 1 := by omega
        go_wp2
        go_quiet (fail)
        go_wp2
        · go_ret
          exact ⟨⟨false, rfl, fun h => by cases h⟩, below_drewN HB.out _⟩
        · have hyz : y ≤ z := by assumption
          have HN : Hid (Asc (zs.take (j + 1 + 1))) := by
            have ha := HA.out
            rw [take_int zs (j + 1) (by rw [HL.out]; omega)]
            rw [take_int zs j (by rw [HL.out]; omega)] at ha ⊢
            rw [← HZ.out]
            rw [← HY.out] at ha ⊢
            exact ha.snoc (by omega) fun d hd => by
              rcases List.mem_append.1 hd with hd | hd
              · have := ha.last d hd; omega
              · rw [List.mem_singleton.1 hd]; exact hyz
          go_roundw
          case rel => exact ⟨j + 1 + 1, by omega, by go_num, HN.out, below_drewN HB.out _⟩
          case measure => simp [intOf]; omega
    · go_wp2
      go_ret
      exact ⟨⟨true, rfl, fun _ => by have := HA.out; rwa [show k = zs.length from by rw [HL.out]; omega, List.take_length] at this⟩, HB.out⟩

theorem asc_any (a : Option Addr) (n cap : Nat) (zs : List Int) (w : World) (h : ISl w a n zs) (hm : n ≤ maxLen) :
    Calls Try.prog 7 #[.slice a n cap] w fun e w' => TellsAsc e zs ∧ Below w.heap.size w w' := by
  rcases h.lies with rfl | ⟨b, o, rfl, hr⟩
  · have : zs = [] := List.length_eq_zero_iff.1 h.length
    subst this
    exact asc_none a cap w
  · exact asc_some b o n cap zs w h.length hm hr
end Go.Proofs.Qxb6614085a

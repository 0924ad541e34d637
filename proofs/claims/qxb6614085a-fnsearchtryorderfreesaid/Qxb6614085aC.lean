import Derived.Test.Qxb6614085aB
namespace Go.Proofs.Qxb6614085a
open Go.RowKit

/-- Does the rule at place i take a call of method m? -/
def tk (ss : List ByteArray) (m : ByteArray) (i : Nat) : Bool := takesB (ss.getD i ByteArray.empty) m

theorem least_step (t : Nat → Bool) (n : Int) (zs : List Int) (k : Nat) (hk : k < zs.length) (cur : Int) :
    least t n (zs.take (k + 1)) cur = if zs.getD k 0 < least t n (zs.take k) cur ∧ zs.getD k 0 < n ∧ t (zs.getD k 0).toNat = true then zs.getD k 0 else least t n (zs.take k) cur := by
  rw [take_int zs k hk, least_append]; rfl

set_option maxHeartbeats 400000 in
theorem least_none (a a2 : Option Addr) (n cap cap2 : Nat) (m : ByteArray) (cur : Int) (w : World) :
    Calls Try.prog 9 #[.slice a n cap, .string m, .slice a2 0 cap2, .int .i64 cur] w fun e w' => e = .returned (.int .i64 cur) ∧ w' = w := by
  go_enter Try.func9, Try.ntmps9
  go_wp2
  go_loop [3, 9] (fun c i => c = .int .i64 cur ∧ i = .int .i64 0) (fun _ _ => 0)
  case atStart => exact ⟨rfl, rfl⟩
  case round =>
    obtain ⟨rfl, rfl⟩ := hrel
    go_wp2
    go_ret
    exact ⟨rfl, rfl⟩

theorem ret_int {k : IntKind} {a b : Int} (h : a = b) : Ending.returned (.int k a) = .returned (.int k b) := by rw [h]

set_option maxHeartbeats 1000000 in
theorem least_some (a : Option Addr) (n cap b2 o2 len cap2 : Nat) (ss : List ByteArray) (m : ByteArray) (zs : List Int) (cur : Int) (w : World) (h : SSl w a n ss) (hl : zs.length = len) (hm : len ≤ maxLen) (hz : ∀ z ∈ zs, 0 ≤ z) (hr : IRow w b2 o2 zs) :
    Calls Try.prog 9 #[.slice a n cap, .string m, .slice (some ⟨b2, o2, none⟩) len cap2, .int .i64 cur] w fun e w' => e = .returned (.int .i64 (least (tk ss m) n zs cur)) ∧ w' = w := by
  have hc : ∀ k, k < len → w.cell? ⟨b2, o2 + k, none⟩ = some (.int .i64 (zs.getD k 0)) := fun k hk => hr.cell k (by omega)
  have HC := hid hc
  have HL := hid hl
  have HZ := hid hz
  have HS := hid h
  clear hc hr hl hz h
  unfold maxLen at hm
  go_enter Try.func9, Try.ntmps9
  go_wp2
  go_loop [3, 9] (fun c i => ∃ (k : Nat) (u : Int), k ≤ len ∧ i = .int .i64 k ∧ c = .int .i64 u ∧ u = least (tk ss m) n (zs.take k) cur) (fun _ i => len - (intOf i).toNat)
  case atStart => exact ⟨0, cur, by omega, rfl, rfl, rfl⟩
  case round =>
    obtain ⟨k, u, hk, rfl, rfl, hu⟩ := hrel
    have HU := hid hu
    clear hu
    by_cases hlt : k < len
    · have hcell := HC.out k hlt
      have hst := least_step (tk ss m) n zs k (by rw [HL.out]; exact hlt) cur
      rw [← HU.out] at hst
      have hz0 := HZ.out _ (getI_mem zs k (by rw [HL.out]; exact hlt))
      obtain ⟨z, hz⟩ : ∃ z, z = zs.getD k 0 := ⟨_, rfl⟩
      rw [← hz] at hcell hst hz0
      clear hz
      obtain ⟨j, rfl⟩ : ∃ j : Nat, z = j := ⟨z.toNat, by omega⟩
      by_cases h1 : (j : Int) < u
      · by_cases h2 : j < n
        · obtain ⟨b, o, rfl, hrow⟩ := HS.out.lies.resolve_left (by omega)
          have hp := hrow.cell j (by rw [HS.out.length]; exact h2)
          have ht := takes_any (ss.getD j ByteArray.empty) m w
          have htk : tk ss m (j : Int).toNat = takesB (ss.getD j ByteArray.empty) m := rfl
          rw [htk] at hst
          obtain ⟨pt, hpt⟩ : ∃ pt, pt = ss.getD j ByteArray.empty := ⟨_, rfl⟩
          rw [← hpt] at hp ht hst
          clear htk hrow hpt
          obtain ⟨tt, htt⟩ : ∃ tt, takesB pt m = tt := ⟨_, rfl⟩
          rw [htt] at ht hst
          have HT := hid ht
          clear ht htt
          cases tt
          · have hst' : least (tk ss m) n (zs.take (k + 1)) cur = u := by rw [hst, if_neg (by simp)]
            have HST := hid hst'
            clear hst hst'
            go_wp2_with (go_at_call 8; refine HT.out.mono ?_; rintro e w1 ⟨rfl, rfl⟩)
            go_round
            case rel => exact ⟨k + 1, u, by omega, by go_num, rfl, HST.out.symm⟩
            case measure => simp [intOf]; omega
          · have hst' : least (tk ss m) n (zs.take (k + 1)) cur = j := by rw [hst, if_pos ⟨h1, by omega, rfl⟩]
            have HST := hid hst'
            clear hst hst'
            go_wp2_with (go_at_call 8; refine HT.out.mono ?_; rintro e w1 ⟨rfl, rfl⟩)
            go_round
            case rel => exact ⟨k + 1, j, by omega, by go_num, rfl, HST.out.symm⟩
            case measure => simp [intOf]; omega
        · have hst' : least (tk ss m) n (zs.take (k + 1)) cur = u := by rw [hst, if_neg (fun h => by omega)]
          have HST := hid hst'
          clear hst hst'
          go_wp2
          go_round
          case rel => exact ⟨k + 1, u, by omega, by go_num, rfl, HST.out.symm⟩
          case measure => simp [intOf]; omega
      · have hst' : least (tk ss m) n (zs.take (k + 1)) cur = u := by rw [hst, if_neg (fun h => h1 h.1)]
        have HST := hid hst'
        clear hst hst'
        go_wp2
        go_round
        case rel => exact ⟨k + 1, u, by omega, by go_num, rfl, HST.out.symm⟩
        case measure => simp [intOf]; omega
    · go_wp2
      go_ret
      exact ⟨ret_int (by rw [HU.out, show k = zs.length from by rw [HL.out]; omega, List.take_length]), rfl⟩

theorem least_any (a a2 : Option Addr) (n cap l2 cap2 : Nat) (ss : List ByteArray) (m : ByteArray) (zs : List Int) (cur : Int) (w : World) (h : SSl w a n ss) (h2 : ISl w a2 l2 zs) (hm : l2 ≤ maxLen) (hz : ∀ z ∈ zs, 0 ≤ z) :
    Calls Try.prog 9 #[.slice a n cap, .string m, .slice a2 l2 cap2, .int .i64 cur] w fun e w' => e = .returned (.int .i64 (least (tk ss m) n zs cur)) ∧ w' = w := by
  rcases h2.lies with rfl | ⟨b, o, rfl, hr⟩
  · have : zs = [] := List.length_eq_zero_iff.1 h2.length
    subst this
    exact least_none a a2 n cap cap2 m cur w
  · exact least_some a n cap b o l2 cap2 ss m zs cur w h h2.length hm hz hr
end Go.Proofs.Qxb6614085a

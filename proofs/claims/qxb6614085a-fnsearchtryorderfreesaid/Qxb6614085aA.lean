import Derived.Test.Qxb6614085aProg
import Derived.Test.Qxb6614085aP
import Derived.WalkKit
import Derived.WalkSpells
import Derived.WalkLawsBesides
import Derived.BigQuiet
import Derived.Deep.QuietTactic
namespace Go.Proofs.Qxb6614085a
open Go.RowKit

theorem hid {p : Prop} (h : p) : Hid p := h

/-- A row of strings lies in memory. -/
structure SRow (w : World) (b o : Nat) (ss : List ByteArray) : Prop where
  lt : b < w.heap.size
  cell : ∀ k, k < ss.length → w.cell? ⟨b, o + k, none⟩ = some (.string (ss.getD k ByteArray.empty))
/-- A row of ints lies in memory. -/
structure IRow (w : World) (b o : Nat) (zs : List Int) : Prop where
  lt : b < w.heap.size
  cell : ∀ k, k < zs.length → w.cell? ⟨b, o + k, none⟩ = some (.int .i64 (zs.getD k 0))
/-- A slice of strings: n of them; where there is one, they lie in a row. -/
structure SSl (w : World) (a : Option Addr) (n : Nat) (ss : List ByteArray) : Prop where
  length : ss.length = n
  lies : n = 0 ∨ ∃ b o, a = some ⟨b, o, none⟩ ∧ SRow w b o ss
/-- A slice of ints. -/
structure ISl (w : World) (a : Option Addr) (n : Nat) (zs : List Int) : Prop where
  length : zs.length = n
  lies : n = 0 ∨ ∃ b o, a = some ⟨b, o, none⟩ ∧ IRow w b o zs

theorem SRow.later {w w' : World} {b o : Nat} {ss : List ByteArray} (h : SRow w b o ss) (hb : Below w.heap.size w w') : SRow w' b o ss :=
  ⟨Nat.lt_of_lt_of_le h.lt hb.size, fun k hk => by rw [hb.cell (p := ⟨b, o + k, none⟩) h.lt]; exact h.cell k hk⟩
theorem IRow.later {w w' : World} {b o : Nat} {zs : List Int} (h : IRow w b o zs) (hb : Below w.heap.size w w') : IRow w' b o zs :=
  ⟨Nat.lt_of_lt_of_le h.lt hb.size, fun k hk => by rw [hb.cell (p := ⟨b, o + k, none⟩) h.lt]; exact h.cell k hk⟩
theorem SSl.later {w w' : World} {a : Option Addr} {n : Nat} {ss : List ByteArray} (h : SSl w a n ss) (hb : Below w.heap.size w w') : SSl w' a n ss :=
  ⟨h.length, h.lies.imp id fun ⟨b, o, e, r⟩ => ⟨b, o, e, r.later hb⟩⟩
theorem ISl.later {w w' : World} {a : Option Addr} {n : Nat} {zs : List Int} (h : ISl w a n zs) (hb : Below w.heap.size w w') : ISl w' a n zs :=
  ⟨h.length, h.lies.imp id fun ⟨b, o, e, r⟩ => ⟨b, o, e, r.later hb⟩⟩

theorem getD_mem (ss : List ByteArray) (k : Nat) (hk : k < ss.length) : ss.getD k ByteArray.empty ∈ ss := by
  rw [List.getD_eq_getElem?_getD, List.getElem?_eq_getElem hk]; simp
theorem getI_mem (zs : List Int) (k : Nat) (hk : k < zs.length) : zs.getD k 0 ∈ zs := by
  rw [List.getD_eq_getElem?_getD, List.getElem?_eq_getElem hk]; simp
theorem take_int (zs : List Int) (k : Nat) (h : k < zs.length) : zs.take (k + 1) = zs.take k ++ [zs.getD k 0] := by
  rw [List.take_succ_eq_append_getElem h]; simp [h]

/-- The call returned some bool. -/
def AnyBool (e : Ending) : Prop := ∃ b, e = .returned (.bool b)

/-- What 'zzBytes_..' tells. -/
def TellsBytes (e : Ending) (ss : List ByteArray) : Prop := ∃ b, e = .returned (.bool b) ∧ (b = true → ∀ s ∈ ss, s.size ≤ 1048576)

set_option maxHeartbeats 400000 in
theorem bytes5_none (a : Option Addr) (cap : Nat) (aa : Option Addr) (la ca : Nat) (x : ByteArray) (f kk : Int) (w : World) (hx : x.size ≤ maxLen) (hla : la ≤ maxLen) :
    Calls Try.prog 5 #[.slice a 0 cap, .string x, .int .i64 f, .slice aa la ca, .int .i64 kk] w fun e w' => TellsBytes e [] ∧ w' = w := by
  unfold maxLen at hx hla
  go_enter Try.func5, Try.ntmps5
  go_wp2
  go_loop [11, 12] (fun z i => z = .int .i64 0 ∧ i = .int .i64 0) (fun _ _ => 0)
  case atStart => exact ⟨rfl, rfl⟩
  case round =>
    obtain ⟨rfl, rfl⟩ := hrel
    go_wp2
    all_goals (go_ret; exact ⟨⟨_, rfl, fun _ s hs => by cases hs⟩, rfl⟩)

set_option maxHeartbeats 400000 in
theorem bytes5_some (b o len cap : Nat) (ss : List ByteArray) (aa : Option Addr) (la ca : Nat) (x : ByteArray) (f kk : Int) (w : World) (hx : x.size ≤ maxLen) (hla : la ≤ maxLen) (hl : ss.length = len) (hm : len ≤ maxLen) (hsz : ∀ s ∈ ss, s.size ≤ maxLen) (hr : SRow w b o ss) :
    Calls Try.prog 5 #[.slice (some ⟨b, o, none⟩) len cap, .string x, .int .i64 f, .slice aa la ca, .int .i64 kk] w fun e w' => TellsBytes e ss ∧ w' = w := by
  have hc : ∀ k, k < len → ∃ s : ByteArray, s = ss.getD k ByteArray.empty ∧ w.cell? ⟨b, o + k, none⟩ = some (.string s) ∧ s.size ≤ 9223372036854775807 := fun k hk =>
    ⟨_, rfl, hr.cell k (by omega), by have := hsz _ (getD_mem ss k (by omega)); unfold maxLen at this; omega⟩
  have HC := hid hc
  have HL := hid hl
  clear hc hsz hr hl
  unfold maxLen at hm hx hla
  go_enter Try.func5, Try.ntmps5
  go_wp2
  · go_ret; exact ⟨⟨_, rfl, fun h => by cases h⟩, rfl⟩
  go_loop [11, 12] (fun z i => ∃ (k : Nat) (n : Int), k ≤ len ∧ i = .int .i64 k ∧ z = .int .i64 n ∧ 0 ≤ n ∧ n ≤ 1048576 ∧ ∀ j, j < k → (ss.getD j ByteArray.empty).size ≤ 1048576) (fun _ i => len - (intOf i).toNat)
  case atStart => exact ⟨0, (len : Int), by omega, rfl, rfl, by omega, by omega, fun j hj => by omega⟩
  case round =>
    obtain ⟨k, n, hk, rfl, rfl, h0, h1, h2⟩ := hrel
    have H2 := hid h2
    clear h2
    by_cases hlt : k < len
    · obtain ⟨s, hs1, hcell, hs⟩ := HC.out k hlt
      have HS1 := hid hs1
      clear hs1
      go_wp2
      · go_ret; exact ⟨⟨_, rfl, fun h => by cases h⟩, rfl⟩
      · go_ret; exact ⟨⟨_, rfl, fun h => by cases h⟩, rfl⟩
      · go_round
        case rel =>
          refine ⟨k + 1, _, by omega, by go_num, rfl, by omega, by omega, fun j hj => ?_⟩
          by_cases e : j = k
          · rw [e, ← HS1.out]; omega
          · exact H2.out j (by omega)
        case measure => simp [intOf]; omega
    · have HF : Hid (∀ s ∈ ss, s.size ≤ 1048576) := fun s hs => by
        obtain ⟨j, hj, e⟩ := List.getElem_of_mem hs
        have := H2.out j (by have := HL.out; omega)
        rw [List.getD_eq_getElem?_getD, List.getElem?_eq_getElem hj] at this
        simpa [e] using this
      go_wp2
      all_goals (go_ret; exact ⟨⟨_, rfl, fun _ => HF.out⟩, rfl⟩)

set_option maxHeartbeats 400000 in
theorem bytes13_none (a : Option Addr) (cap : Nat) (aa ab : Option Addr) (la ca lb cb : Nat) (x : ByteArray) (f : Int) (w : World) (hx : x.size ≤ maxLen) (hla : la ≤ maxLen) (hlb : lb ≤ maxLen) :
    Calls Try.prog 13 #[.slice a 0 cap, .string x, .int .i64 f, .slice aa la ca, .slice ab lb cb] w fun e w' => TellsBytes e [] ∧ w' = w := by
  unfold maxLen at hx hla hlb
  go_enter Try.func13, Try.ntmps13
  go_wp2
  go_loop [11, 12] (fun z i => z = .int .i64 0 ∧ i = .int .i64 0) (fun _ _ => 0)
  case atStart => exact ⟨rfl, rfl⟩
  case round =>
    obtain ⟨rfl, rfl⟩ := hrel
    go_wp2
    all_goals (go_ret; exact ⟨⟨_, rfl, fun _ s hs => by cases hs⟩, rfl⟩)

set_option maxHeartbeats 400000 in
theorem bytes13_some (b o len cap : Nat) (ss : List ByteArray) (aa ab : Option Addr) (la ca lb cb : Nat) (x : ByteArray) (f : Int) (w : World) (hx : x.size ≤ maxLen) (hla : la ≤ maxLen) (hlb : lb ≤ maxLen) (hl : ss.length = len) (hm : len ≤ maxLen) (hsz : ∀ s ∈ ss, s.size ≤ maxLen) (hr : SRow w b o ss) :
    Calls Try.prog 13 #[.slice (some ⟨b, o, none⟩) len cap, .string x, .int .i64 f, .slice aa la ca, .slice ab lb cb] w fun e w' => TellsBytes e ss ∧ w' = w := by
  have hc : ∀ k, k < len → ∃ s : ByteArray, s = ss.getD k ByteArray.empty ∧ w.cell? ⟨b, o + k, none⟩ = some (.string s) ∧ s.size ≤ 9223372036854775807 := fun k hk =>
    ⟨_, rfl, hr.cell k (by omega), by have := hsz _ (getD_mem ss k (by omega)); unfold maxLen at this; omega⟩
  have HC := hid hc
  have HL := hid hl
  clear hc hsz hr hl
  unfold maxLen at hm hx hla hlb
  go_enter Try.func13, Try.ntmps13
  go_wp2
  · go_ret; exact ⟨⟨_, rfl, fun h => by cases h⟩, rfl⟩
  go_loop [11, 12] (fun z i => ∃ (k : Nat) (n : Int), k ≤ len ∧ i = .int .i64 k ∧ z = .int .i64 n ∧ 0 ≤ n ∧ n ≤ 1048576 ∧ ∀ j, j < k → (ss.getD j ByteArray.empty).size ≤ 1048576) (fun _ i => len - (intOf i).toNat)
  case atStart => exact ⟨0, (len : Int), by omega, rfl, rfl, by omega, by omega, fun j hj => by omega⟩
  case round =>
    obtain ⟨k, n, hk, rfl, rfl, h0, h1, h2⟩ := hrel
    have H2 := hid h2
    clear h2
    by_cases hlt : k < len
    · obtain ⟨s, hs1, hcell, hs⟩ := HC.out k hlt
      have HS1 := hid hs1
      clear hs1
      go_wp2
      · go_ret; exact ⟨⟨_, rfl, fun h => by cases h⟩, rfl⟩
      · go_ret; exact ⟨⟨_, rfl, fun h => by cases h⟩, rfl⟩
      · go_round
        case rel =>
          refine ⟨k + 1, _, by omega, by go_num, rfl, by omega, by omega, fun j hj => ?_⟩
          by_cases e : j = k
          · rw [e, ← HS1.out]; omega
          · exact H2.out j (by omega)
        case measure => simp [intOf]; omega
    · have HF : Hid (∀ s ∈ ss, s.size ≤ 1048576) := fun s hs => by
        obtain ⟨j, hj, e⟩ := List.getElem_of_mem hs
        have := H2.out j (by have := HL.out; omega)
        rw [List.getD_eq_getElem?_getD, List.getElem?_eq_getElem hj] at this
        simpa [e] using this
      go_wp2
      all_goals (go_ret; exact ⟨⟨_, rfl, fun _ => HF.out⟩, rfl⟩)

theorem bytes5_any (a aa : Option Addr) (n cap la ca : Nat) (ss : List ByteArray) (x : ByteArray) (f k : Int) (w : World) (h : SSl w a n ss) (hm : n ≤ maxLen) (hsz : ∀ s ∈ ss, s.size ≤ maxLen) (hx : x.size ≤ maxLen) (hla : la ≤ maxLen) :
    Calls Try.prog 5 #[.slice a n cap, .string x, .int .i64 f, .slice aa la ca, .int .i64 k] w fun e w' => TellsBytes e ss ∧ w' = w := by
  rcases h.lies with rfl | ⟨b, o, rfl, hr⟩
  · have : ss = [] := List.length_eq_zero_iff.1 h.length
    subst this
    exact bytes5_none a cap aa la ca x f k w hx hla
  · exact bytes5_some b o n cap ss aa la ca x f k w hx hla h.length hm hsz hr

theorem bytes13_any (a aa ab : Option Addr) (n cap la ca lb cb : Nat) (ss : List ByteArray) (x : ByteArray) (f : Int) (w : World) (h : SSl w a n ss) (hm : n ≤ maxLen) (hsz : ∀ s ∈ ss, s.size ≤ maxLen) (hx : x.size ≤ maxLen) (hla : la ≤ maxLen) (hlb : lb ≤ maxLen) :
    Calls Try.prog 13 #[.slice a n cap, .string x, .int .i64 f, .slice aa la ca, .slice ab lb cb] w fun e w' => TellsBytes e ss ∧ w' = w := by
  rcases h.lies with rfl | ⟨b, o, rfl, hr⟩
  · have : ss = [] := List.length_eq_zero_iff.1 h.length
    subst this
    exact bytes13_none a cap aa ab la ca lb cb x f w hx hla hlb
  · exact bytes13_some b o n cap ss aa ab la ca lb cb x f w hx hla hlb h.length hm hsz hr

/-- Does the rule of path text p take a call of method m? -/
def takesB (p m : ByteArray) : Bool := p.toList.isEmpty || p.toList == m.toList

set_option maxHeartbeats 400000 in
theorem takes_any (p m : ByteArray) (w : World) :
    Calls Try.prog 8 #[.string p, .string m] w fun e w' => e = .returned (.bool (takesB p m)) ∧ w' = w := by
  by_cases h : p.toList = []
  · have e : takesB p m = true := by simp [takesB, h]
    rw [e]
    clear e
    go_enter Try.func8, Try.ntmps8
    go_wp2
    go_ret
    exact ⟨rfl, rfl⟩
  · obtain ⟨t, ht⟩ : ∃ t, takesB p m = t := ⟨_, rfl⟩
    rw [ht]
    have HT := hid ht
    clear ht
    go_enter Try.func8, Try.ntmps8
    go_wp2
    go_ret
    exact ⟨by rw [← HT.out]; rfl, rfl⟩
end Go.Proofs.Qxb6614085a

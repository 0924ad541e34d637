import Derived.Test.Qxb6614244aFmtB
namespace Go.Proofs.Qxb6614244aFmt
open Go.RowKit Go.Stop Go.Extern

theorem panic_str2 (F : Interp) (s : ByteArray) (a : Option Addr) (n c : Nat) (w : World) (hF : F.told.answers w.tape) (hs : s.size ≤ 2097152) :
    Calls Tryf.prog 7 #[.string s, .slice a n c] w fun e w' => ∃ N : ByteArray, e = .returned (.string N) ∧ N = panicB ++ s ∧ N.size ≤ 4194304 ∧ Below w.heap.size w w' := by
  refine (panic_str F s a n c w hF (by omega)).mono ?_
  rintro e w' ⟨rfl, hb⟩
  have h7 : panicB.size = 7 := rfl
  exact ⟨_, rfl, rfl, by rw [ByteArray.size_append, h7]; omega, hb⟩

theorem head_eq (a N : ByteArray) (h : N = panicB ++ a) : (N.toList == ((⟨#[112, 97, 110, 105, 99, 58, 32]⟩ : ByteArray) ++ a).toList) = true := by
  rw [h]; exact beq_self_eq_true _
theorem whole_eq (a b N M : ByteArray) (h : N = panicB ++ (a ++ b)) (h2 : M = panicB ++ a) : (N.toList == (M ++ b).toList) = true := by
  rw [h, h2, ByteArray.append_assoc]; exact beq_self_eq_true _

set_option maxHeartbeats 800000 in
theorem text_main (F : Interp) (x y : ByteArray) (a : Option Addr) (n c : Nat) (zs : List Int) (w : World) (hF : F.told.answers w.tape) (hx : x.size ≤ 1048576) (hy : y.size ≤ 1048576) (hn : n ≤ 1048576) (h : BSl w a n zs)
    (C1 : Hid (Calls Tryf.prog 5 #[.string x, .string y, .slice a n c] w fun e w' => AnyBool e ∧ w' = w)) :
    Calls Tryf.prog 3 #[.string x, .string y, .slice a n c] w fun e w' => e = .returned (.bool true) ∧ Below w.heap.size w w' := by
  have HS := hid h
  have HF := hid hF
  clear h hF
  have i1 : ¬ ((1048576 : Int) < (x.size : Int)) := by omega
  have i2 : ¬ ((1048576 : Int) < (y.size : Int)) := by omega
  have i3 : ¬ ((1048576 : Int) < (n : Int)) := by omega
  go_enter Tryf.func3, Tryf.ntmps3
  go_wp2_with fail
  refine C1.out.mono ?_
  rintro e w1 ⟨⟨bb, rfl⟩, rfl⟩
  cases bb
  · go_wp2_with fail
    go_ret
    exact ⟨rfl, Below.refl _ _⟩
  by_cases hsum : (x.size : Int) + (y.size : Int) + (n : Int) ≤ 1048576
  rotate_left
  · go_wp2_with fail
    go_ret
    exact ⟨rfl, Below.refl _ _⟩
  go_wp2_with fail
  refine (clone_any a n c zs w1 HS.out hn).mono ?_
  rintro e w2 ⟨⟨a', n', c', rfl⟩, hb2⟩
  have HF2 := hid (show F.told.answers w2.tape from by rw [hb2.tape]; exact HF.out)
  have HB2 := hid hb2
  clear hb2
  go_wp2_with fail
  refine (panic_str2 F (x ++ y) a' n' c' w2 HF2.out (by rw [ByteArray.size_append]; omega)).mono ?_
  rintro e w3 ⟨N, rfl, hN, hNs, hb3⟩
  have HN := hid hN
  have HF3 := hid (show F.told.answers w3.tape from by rw [hb3.tape]; exact HF2.out)
  have HB3 := hid (HB2.out.trans (hb3.mono HB2.out.size))
  clear hN hb3
  go_wp2_with fail
  refine (panic_str2 F x none 0 0 w3 HF3.out (by omega)).mono ?_
  rintro e w4 ⟨M, rfl, hM, hMs, hb4⟩
  have HB4 := hid (HB3.out.trans (hb4.mono HB3.out.size))
  have q1 := head_eq x M hM
  have q2 := whole_eq x y N M HN.out hM
  clear hM hb4
  go_wp2_with fail
  go_ret
  exact ⟨rfl, HB4.out⟩

set_option maxHeartbeats 800000 in
theorem text_big (x y : ByteArray) (a : Option Addr) (n c : Nat) (w : World) (hb : 1048576 < x.size ∨ 1048576 < y.size ∨ 1048576 < n)
    (C1 : Hid (Calls Tryf.prog 5 #[.string x, .string y, .slice a n c] w fun e w' => AnyBool e ∧ w' = w)) :
    Calls Tryf.prog 3 #[.string x, .string y, .slice a n c] w fun e w' => e = .returned (.bool true) ∧ Below w.heap.size w w' := by
  have HBG := hid hb
  clear hb
  go_enter Tryf.func3, Tryf.ntmps3
  go_wp2_with fail
  refine C1.out.mono ?_
  rintro e w1 ⟨⟨bb, rfl⟩, rfl⟩
  cases bb
  · go_wp2_with fail
    go_ret
    exact ⟨rfl, Below.refl _ _⟩
  by_cases h1 : (1048576 : Int) < (x.size : Int)
  · go_wp2_with fail
    go_ret
    exact ⟨rfl, Below.refl _ _⟩
  by_cases h2 : (1048576 : Int) < (y.size : Int)
  · go_wp2_with fail
    go_ret
    exact ⟨rfl, Below.refl _ _⟩
  have h3 : (1048576 : Int) < (n : Int) := by have := HBG.out; omega
  go_wp2_with fail
  go_ret
  exact ⟨rfl, Below.refl _ _⟩

theorem text_walk (F : Interp) (x y : ByteArray) (a : Option Addr) (n c : Nat) (zs : List Int) (w : World) (hF : F.told.answers w.tape) (hx : x.size ≤ maxLen) (hy : y.size ≤ maxLen) (hn : n ≤ maxLen) (h : BSl w a n zs) :
    Calls Tryf.prog 3 #[.string x, .string y, .slice a n c] w fun e w' => e = .returned (.bool true) ∧ Below w.heap.size w w' := by
  have C1 := hid (bytes5 x y a n c w hx hy hn)
  by_cases hb : 1048576 < x.size ∨ 1048576 < y.size ∨ 1048576 < n
  · exact text_big x y a n c w hb C1
  · exact text_main F x y a n c zs w hF (by omega) (by omega) (by omega) h C1
end Go.Proofs.Qxb6614244aFmt

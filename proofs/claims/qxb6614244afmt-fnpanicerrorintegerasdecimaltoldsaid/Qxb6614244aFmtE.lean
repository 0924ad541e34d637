import Derived.Test.Qxb6614244aFmtC
import Derived.Test.Qxb6614244aFmtD
namespace Go.Proofs.Qxb6614244aFmt
open Go.RowKit Go.Stop Go.Extern

theorem panic_int2 (F : Interp) (k : Int) (a : Option Addr) (n c : Nat) (w : World) (hF : F.told.answers w.tape) (hw : (Lit.int .i64 k).wf = true) :
    Calls Tryf.prog 10 #[.int .i64 k, .slice a n c] w fun e w' => ∃ N : ByteArray, e = .returned (.string N) ∧ N = panicB ++ ⟨(Lib.itoa k).toArray⟩ ∧ Below w.heap.size w w' := by
  refine (panic_int F k a n c w hF hw).mono ?_
  rintro e w' ⟨rfl, hb⟩
  exact ⟨_, rfl, rfl, hb⟩

theorem same_eq (N M : ByteArray) (h : N = M) : (N.toList == M.toList) = true := by
  rw [h]; exact beq_self_eq_true _

set_option maxHeartbeats 800000 in
theorem int_main (F : Interp) (k : Int) (a : Option Addr) (n c : Nat) (zs : List Int) (w : World) (hF : F.told.answers w.tape) (hw : (Lit.int .i64 k).wf = true) (hn : n ≤ 1048576) (h : BSl w a n zs)
    (C1 : Hid (Calls Tryf.prog 8 #[.int .i64 k, .slice a n c] w fun e w' => AnyBool e ∧ w' = w)) :
    Calls Tryf.prog 4 #[.int .i64 k, .slice a n c] w fun e w' => e = .returned (.bool true) ∧ Below w.heap.size w w' := by
  have HS := hid h
  have HF := hid hF
  have HK := hid hw
  clear h hF hw
  have i3 : ¬ ((1048576 : Int) < (n : Int)) := by omega
  go_enter Tryf.func4, Tryf.ntmps4
  go_wp2_with fail
  refine C1.out.mono ?_
  rintro e w1 ⟨⟨bb, rfl⟩, rfl⟩
  cases bb
  · go_wp2_with fail
    go_ret
    exact ⟨rfl, Below.refl _ _⟩
  go_wp2_with fail
  refine (clone_any a n c zs w1 HS.out hn).mono ?_
  rintro e w2 ⟨⟨a', n', c', rfl⟩, hb2⟩
  have HF2 := hid (show F.told.answers w2.tape from by rw [hb2.tape]; exact HF.out)
  have HB2 := hid hb2
  clear hb2
  go_wp2_with fail
  refine (itoa_any k HK.out w2).mono ?_
  rintro e w3 ⟨S, rfl, hS, hSs, hb3⟩
  have HSE := hid hS
  have HF3 := hid (show F.told.answers w3.tape from by rw [hb3.tape]; exact HF2.out)
  have HB3 := hid (HB2.out.trans (hb3.mono HB2.out.size))
  clear hS hb3
  go_wp2_with fail
  refine (panic_int2 F k a' n' c' w3 HF3.out HK.out).mono ?_
  rintro e w4 ⟨N, rfl, hN, hb4⟩
  have HN := hid hN
  have HF4 := hid (show F.told.answers w4.tape from by rw [hb4.tape]; exact HF3.out)
  have HB4 := hid (HB3.out.trans (hb4.mono HB3.out.size))
  clear hN hb4
  go_wp2_with fail
  refine (panic_str2 F S none 0 0 w4 HF4.out (by omega)).mono ?_
  rintro e w5 ⟨M, rfl, hM, hMs, hb5⟩
  have HB5 := hid (HB4.out.trans (hb5.mono HB4.out.size))
  have q1 := head_eq S N (by rw [HN.out, HSE.out])
  have q2 := same_eq N M (by rw [HN.out, hM, HSE.out])
  clear hM hb5
  go_wp2_with fail
  go_ret
  exact ⟨rfl, HB5.out⟩

set_option maxHeartbeats 800000 in
theorem int_big (k : Int) (a : Option Addr) (n c : Nat) (w : World) (hb : (1048576 : Int) < (n : Int))
    (C1 : Hid (Calls Tryf.prog 8 #[.int .i64 k, .slice a n c] w fun e w' => AnyBool e ∧ w' = w)) :
    Calls Tryf.prog 4 #[.int .i64 k, .slice a n c] w fun e w' => e = .returned (.bool true) ∧ Below w.heap.size w w' := by
  go_enter Tryf.func4, Tryf.ntmps4
  go_wp2_with fail
  refine C1.out.mono ?_
  rintro e w1 ⟨⟨bb, rfl⟩, rfl⟩
  cases bb
  · go_wp2_with fail
    go_ret
    exact ⟨rfl, Below.refl _ _⟩
  go_wp2_with fail
  go_ret
  exact ⟨rfl, Below.refl _ _⟩

theorem int_walk (F : Interp) (k : Int) (a : Option Addr) (n c : Nat) (zs : List Int) (w : World) (hF : F.told.answers w.tape) (hw : (Lit.int .i64 k).wf = true) (hn : n ≤ maxLen) (h : BSl w a n zs) :
    Calls Tryf.prog 4 #[.int .i64 k, .slice a n c] w fun e w' => e = .returned (.bool true) ∧ Below w.heap.size w w' := by
  have C1 := hid (bytes8 k a n c w hn)
  by_cases hb : (1048576 : Int) < (n : Int)
  · exact int_big k a n c w hb C1
  · exact int_main F k a n c zs w hF hw (by omega) h C1
end Go.Proofs.Qxb6614244aFmt

import Derived.Test.Qxb6614085aH
namespace Go.Proofs.Qxb6614085a
open Go.RowKit

set_option maxHeartbeats 1000000 in
set_option maxRecDepth 100000 in
theorem cut_big (a0 a3 : Option Addr) (n c0 l c3 : Nat) (ss : List ByteArray) (m : ByteArray) (f k : Int) (w : World) (hb : 65536 < n ∨ 65536 < m.size ∨ 65536 < l)
    (C1 : Hid (Calls Try.prog 5 #[.slice a0 n c0, .string m, .int .i64 f, .slice a3 l c3, .int .i64 k] w fun e w' => TellsBytes e ss ∧ w' = w)) :
    Calls Try.prog 3 #[.slice a0 n c0, .string m, .int .i64 f, .slice a3 l c3, .int .i64 k] w fun e w' => e = .returned (.bool true) ∧ Below w.heap.size w w' := by
  have HBG := hid hb
  clear hb
  go_enter Try.func3, Try.ntmps3
  go_wp2_with fail
  refine C1.out.mono ?_
  rintro e w1 ⟨⟨bb, rfl, hby⟩, rfl⟩
  clear hby C1
  cases bb
  · go_wp2_with fail
    go_ret
    exact ⟨rfl, Below.refl _ _⟩
  by_cases h1 : (65536 : Int) < (n : Int)
  · go_wp2_with fail
    go_ret
    exact ⟨rfl, Below.refl _ _⟩
  by_cases h2 : (65536 : Int) < (m.size : Int)
  · go_wp2_with fail
    go_ret
    exact ⟨rfl, Below.refl _ _⟩
  have h3 : (65536 : Int) < (l : Int) := by have := HBG.out; omega
  go_wp2_with fail
  go_ret
  exact ⟨rfl, Below.refl _ _⟩

theorem cut_walk (a0 a3 : Option Addr) (n c0 l c3 : Nat) (ss : List ByteArray) (m : ByteArray) (f k : Int) (zs : List Int) (w : World) (hs : SSl w a0 n ss) (hi : ISl w a3 l zs)
    (hnl : a3 = none → l = 0 ∧ c3 = 0) (hm : m.size ≤ maxLen) (hn : n ≤ maxLen) (hl : l ≤ maxLen) (hsz : ∀ s ∈ ss, s.size ≤ maxLen) :
    Calls Try.prog 3 #[.slice a0 n c0, .string m, .int .i64 f, .slice a3 l c3, .int .i64 k] w fun e w' => e = .returned (.bool true) ∧ Below w.heap.size w w' := by
  have C1 := hid (bytes5_any a0 a3 n c0 l c3 ss m f k w hs hn hsz hm hl)
  by_cases hb : 65536 < n ∨ 65536 < m.size ∨ 65536 < l
  · exact cut_big a0 a3 n c0 l c3 ss m f k w hb C1
  · exact cut_main a0 a3 n c0 l c3 ss m f k zs w hs hi hnl (by omega) (by omega) (by omega) C1
end Go.Proofs.Qxb6614085a

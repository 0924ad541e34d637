import Derived.Test.Qxb6614244aFmtProg
import Derived.Stop.CallBack
import Derived.Stop.IfaceNil
import Derived.Stop.Texts
import Derived.Stop.JoinedTold
import Derived.Stop.FmtTextKit
import Derived.WalkKit
import Derived.WalkSpells
import Derived.WalkLawsBesides
namespace Go.Proofs.Qxb6614244aFmt
open Go.RowKit Go.Extern.Stop Go.Stop Go.Extern Go.Kit

theorem hid {p : Prop} (h : p) : Hid p := h

theorem call12 (args : Array Value) (w : World) : (callFunc 12 args).run Tryf.prog w = (FmtCalls.sprintf #[9, 51] #[9] args).run Tryf.prog w :=
  run_callFunc_next Tryf.func12 (by kernel_rfl) (by kernel_rfl) (by kernel_rfl) args w
theorem fguard (name : String) (w : World) : (FmtStop.guard name).run Tryf.prog w = .ok () w := by kernel_rfl
theorem nextTurns : Extern.next FmtCalls.turnsRow = some (FmtCalls.begun #[] #[]) := by kernel_rfl
theorem fmt0 : FmtStop.printed? ⟨#[112, 97, 110, 105, 99, 58, 32, 37, 118]⟩ 1 = some [(0, 118, false)] := by kernel_rfl
theorem fmt0r (w : World) : (FmtDoors.printed ⟨#[112, 97, 110, 105, 99, 58, 32, 37, 118]⟩ 1).run Tryf.prog w = .ok [(0, 118, false)] w := by kernel_rfl
def shape9 : List UInt8 := [12, 6, 0, 0, 0, 0, 0, 0, 0, 115, 116, 114, 105, 110, 103]
def shape2 : List UInt8 := [5, 5, 0, 0, 0, 0, 0, 0, 0, 105, 110, 116, 54, 52]
theorem act9 (name : String) (x : Value) (w : World) : (FmtCalls.act name false 118 false (.iface 9 x)).run Tryf.prog w = .ok (.closed false) w := by kernel_rfl
theorem act2 (name : String) (x : Value) (w : World) : (FmtCalls.act name false 118 false (.iface 2 x)).run Tryf.prog w = .ok (.closed false) w := by kernel_rfl
theorem op2 (name : String) (x : Int) (w : World) : (FmtStop.operand name false 118 false (.iface 2 (.int .i64 x))).run Tryf.prog w = .ok (shape2, Go.Extern.Stop.digits 8 (x % 2 ^ 64).toNat) w := by kernel_rfl
theorem op9 (name : String) (x : ByteArray) (w : World) : (FmtStop.operand name false 118 false (.iface 9 (.string x))).run Tryf.prog w = .ok (shape9, FmtStop.pack x.data.toList) w := by kernel_rfl

/-! ### What fmt's text is at these two formats -/
/-- The bytes of the word panic, a colon and a blank. -/
def panicB : ByteArray := ⟨#[112, 97, 110, 105, 99, 58, 32]⟩
def readStr (s : List UInt8) : List (List UInt8) := [[112, 97, 110, 105, 99, 58, 32, 37, 118], shape9, FmtStop.pack s]
def readInt (n : Int) : List (List UInt8) := [[112, 97, 110, 105, 99, 58, 32, 37, 118], shape2, digits 8 (n % 18446744073709551616).toNat]

theorem t_parse : (FmtText.parse [112, 97, 110, 105, 99, 58, 32, 37, 118]).map FmtText.glue = some [.lit [112, 97, 110, 105, 99, 58, 32], .verb {} 118] := by rfl

theorem text_str (s : List UInt8) (hs : s.length < 2 ^ 64) : FmtText.text "fmt.Sprintf" (readStr s) = some ([112, 97, 110, 105, 99, 58, 32] ++ s) := by
  have hn := FmtText.operand_str_at (sh := shape9) rfl rfl s hs
  rw [readStr, FmtText.text_sprintf_glued t_parse (FmtText.operands_cons hn FmtText.operands_nil)]
  simp [FmtText.render, FmtText.printArg_v_str]

theorem text_int (n : Int) (hw : (Lit.int .i64 n).wf = true) : FmtText.text "fmt.Sprintf" (readInt n) = some ([112, 97, 110, 105, 99, 58, 32] ++ Lib.itoa n) := by
  have hi := FmtText.operand_int_at (sh := shape2) (k := .i64) rfl rfl n hw
  rw [readInt, FmtText.text_sprintf_glued t_parse (FmtText.operands_cons hi FmtText.operands_nil)]
  simp [FmtText.render, FmtText.printArg_v _ _ hw]

theorem told_str (F : Interp) (s : ByteArray) (hs : s.size ≤ 16777216) : FmtStop.textOf (F.told "fmt.Sprintf" (readStr s.data.toList) 0) = panicB ++ s := by
  have hl : s.data.toList.length ≤ 16777216 := by simpa using hs
  apply ByteArray.ext
  apply Array.toList_inj.1
  rw [textOf_list, told_string F (text_str s.data.toList (by omega)) (by rw [List.length_append]; show 7 + _ < _; omega), ByteArray.data_append, Array.toList_append]
  rfl

theorem told_int (F : Interp) (n : Int) (hw : (Lit.int .i64 n).wf = true) : FmtStop.textOf (F.told "fmt.Sprintf" (readInt n) 0) = panicB ++ ⟨(Lib.itoa n).toArray⟩ := by
  have hl := FmtText.itoa_length_le hw
  apply ByteArray.ext
  apply Array.toList_inj.1
  rw [textOf_list, told_string F (text_int n hw) (by rw [List.length_append]; show 7 + _ < _; omega), ByteArray.data_append, Array.toList_append]
  rfl

attribute [local go_sem] call12 fguard fmt0 fmt0r act9 act2 op2 op9

set_option maxHeartbeats 800000 in
theorem error_str (F : Interp) (s : ByteArray) (rb : Nat) (w : World) (hF : F.told.answers w.tape) (hc : w.cell? ⟨rb, 0, none⟩ = some (.iface 9 (.string s))) (hs : s.size ≤ 16777216) :
    Calls Tryf.prog 11 #[.pointer (some ⟨rb, 0, none⟩)] w fun e w' => e = .returned (.string (panicB ++ s)) ∧ Below w.heap.size w w' := by
  have hF' := answers_open hF
  have HT := hid (told_str F s hs)
  go_enter Tryf.func11, Tryf.ntmps11
  go_wp2
  apply rows_value nextTurns
  case hr =>
    go_simp
    exact ⟨rfl, rfl⟩
  case h =>
    go_wp2
    go_ret
    exact ⟨congrArg (fun t => Ending.returned (.string t)) HT.out, ((Below.refl _ _).alloc (Nat.le_refl _) _).drew⟩

set_option maxHeartbeats 800000 in
theorem error_int (F : Interp) (n : Int) (rb : Nat) (w : World) (hF : F.told.answers w.tape) (hc : w.cell? ⟨rb, 0, none⟩ = some (.iface 2 (.int .i64 n))) (hw : (Lit.int .i64 n).wf = true) :
    Calls Tryf.prog 11 #[.pointer (some ⟨rb, 0, none⟩)] w fun e w' => e = .returned (.string (panicB ++ ⟨(Lib.itoa n).toArray⟩)) ∧ Below w.heap.size w w' := by
  have hF' := answers_open hF
  have HT := hid (told_int F n hw)
  clear hw
  go_enter Tryf.func11, Tryf.ntmps11
  go_wp2
  apply rows_value nextTurns
  case hr =>
    go_simp
    exact ⟨rfl, rfl⟩
  case h =>
    go_wp2
    go_ret
    exact ⟨congrArg (fun t => Ending.returned (.string t)) HT.out, ((Below.refl _ _).alloc (Nat.le_refl _) _).drew⟩

set_option maxHeartbeats 400000 in
theorem panic_str (F : Interp) (s : ByteArray) (a : Option Addr) (n c : Nat) (w : World) (hF : F.told.answers w.tape) (hs : s.size ≤ 16777216) :
    Calls Tryf.prog 7 #[.string s, .slice a n c] w fun e w' => e = .returned (.string (panicB ++ s)) ∧ Below w.heap.size w w' := by
  have e0 : (w.alloc (.cells #[.iface 9 (.string s), .slice a n c] 31)).cell? ⟨w.heap.size, 0, none⟩ = some (.iface 9 (.string s)) := by rw [cell_of_row _ _ _ _ _ _ (heap_alloc_new w _)]; rfl
  have HC := hid (error_str F s w.heap.size (w.alloc (.cells #[.iface 9 (.string s), .slice a n c] 31)) hF e0 hs)
  clear e0 hF hs
  go_enter Tryf.func7, Tryf.ntmps7
  go_wp2_with fail
  refine HC.out.mono ?_
  rintro e w1 ⟨rfl, hb⟩
  go_wp2_with fail
  go_ret
  exact ⟨rfl, ((Below.refl _ _).alloc (Nat.le_refl _) _).trans (hb.mono (by simp))⟩

set_option maxHeartbeats 400000 in
theorem panic_int (F : Interp) (k : Int) (a : Option Addr) (n c : Nat) (w : World) (hF : F.told.answers w.tape) (hw : (Lit.int .i64 k).wf = true) :
    Calls Tryf.prog 10 #[.int .i64 k, .slice a n c] w fun e w' => e = .returned (.string (panicB ++ ⟨(Lib.itoa k).toArray⟩)) ∧ Below w.heap.size w w' := by
  have e0 : (w.alloc (.cells #[.iface 2 (.int .i64 k), .slice a n c] 31)).cell? ⟨w.heap.size, 0, none⟩ = some (.iface 2 (.int .i64 k)) := by rw [cell_of_row _ _ _ _ _ _ (heap_alloc_new w _)]; rfl
  have HC := hid (error_int F k w.heap.size (w.alloc (.cells #[.iface 2 (.int .i64 k), .slice a n c] 31)) hF e0 hw)
  clear e0 hF hw
  go_enter Tryf.func10, Tryf.ntmps10
  go_wp2_with fail
  refine HC.out.mono ?_
  rintro e w1 ⟨rfl, hb⟩
  go_wp2_with fail
  go_ret
  exact ⟨rfl, ((Below.refl _ _).alloc (Nat.le_refl _) _).trans (hb.mono (by simp))⟩
end Go.Proofs.Qxb6614244aFmt

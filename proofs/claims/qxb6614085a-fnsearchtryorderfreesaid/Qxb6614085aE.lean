import Derived.Test.Qxb6614085aD
namespace Go.Proofs.Qxb6614085a
open Go.RowKit

/-- The rule of path text p lies at ⟨rb, off⟩, all of it below block B. -/
structure RuleAt (w : World) (B rb off : Nat) (p : ByteArray) : Prop where
  lt : rb < B
  principals : w.cell? ⟨rb, off + 1, none⟩ = some (.slice none 0 0)
  headers : w.cell? ⟨rb, off + 3, none⟩ = some (.slice none 0 0)
  paths : (p.toList = [] ∧ w.cell? ⟨rb, off + 2, none⟩ = some (.slice none 0 0)) ∨
    (¬ p.toList = [] ∧ ∃ pb, pb < B ∧ w.cell? ⟨rb, off + 2, none⟩ = some (.slice (some ⟨pb, 0, none⟩) 1 1) ∧ w.cell? ⟨pb, 0, none⟩ = some (.int .i64 0) ∧ w.cell? ⟨pb, 1, none⟩ = some (.string p))
/-- The call of method m lies at block cb, below block B. -/
structure CallAt (w : World) (B cb : Nat) (m : ByteArray) : Prop where
  lt : cb < B
  method : w.cell? ⟨cb, 0, none⟩ = some (.string m)
  principals : w.cell? ⟨cb, 1, none⟩ = some (.slice none 0 0)
  headers : w.cell? ⟨cb, 2, none⟩ = some (.map none)

theorem cell_later {w w' : World} {a : Addr} {v : Value} (h : w.cell? a = some v) (hb : Below w.heap.size w w') : w'.cell? a = some v := by
  rw [hb.cell (block_lt_of_cell h)]; exact h
theorem cell_under {w w' : World} {B b o : Nat} {v : Value} (h : w.cell? ⟨b, o, none⟩ = some v) (hl : b < B) (hb : Below B w w') : w'.cell? ⟨b, o, none⟩ = some v := by
  rw [hb.cell (p := ⟨b, o, none⟩) hl]; exact h
theorem RuleAt.later {w w' : World} {B rb off : Nat} {p : ByteArray} (h : RuleAt w B rb off p) (hb : Below B w w') : RuleAt w' B rb off p :=
  ⟨h.lt, cell_under h.principals h.lt hb, cell_under h.headers h.lt hb, h.paths.imp (fun ⟨e, c⟩ => ⟨e, cell_under c h.lt hb⟩) (fun ⟨e, pb, l, c, d, f⟩ => ⟨e, pb, l, cell_under c h.lt hb, cell_under d l hb, cell_under f l hb⟩)⟩
theorem CallAt.later {w w' : World} {B cb : Nat} {m : ByteArray} (h : CallAt w B cb m) (hb : Below B w w') : CallAt w' B cb m :=
  ⟨h.lt, cell_under h.method h.lt hb, cell_under h.principals h.lt hb, cell_under h.headers h.lt hb⟩

set_option maxHeartbeats 400000 in
theorem method17 (B rb off : Nat) (p m : ByteArray) (w : World) (h : RuleAt w B rb off p) :
    Calls Try.prog 17 #[.pointer (some ⟨rb, off, none⟩), .string m] w fun e w' => e = .returned (.bool (takesB p m)) ∧ Below w.heap.size w w' := by
  rcases h.paths with ⟨e, hc⟩ | ⟨e, pb, _, hc, h0, h1⟩
  · have ht : takesB p m = true := by simp [takesB, e]
    rw [ht]
    clear ht e h
    go_enter Try.func17, Try.ntmps17
    go_wp2
    go_ret
    exact ⟨rfl, Below.refl _ _⟩
  · have ht : takesB p m = (m.toList == p.toList) := by
      have : p.toList.isEmpty = false := by simpa using e
      rw [takesB, this, Bool.false_or]
      exact Bool.beq_comm
    have HA := hid (any20 p m pb w h0 h1)
    obtain ⟨t, hm⟩ : ∃ t, (m.toList == p.toList) = t := ⟨_, rfl⟩
    rw [ht, hm]
    rw [hm] at HA
    clear ht hm e h h0 h1
    go_enter Try.func17, Try.ntmps17
    go_wp2_with fail
    refine HA.out.mono ?_
    rintro e w1 ⟨rfl, hb⟩
    go_wp2_with fail
    go_ret
    exact ⟨rfl, hb⟩

set_option maxHeartbeats 400000 in
theorem takes16 (rb off : Nat) (v : Value) (w : World) (h : w.cell? ⟨rb, off + 1, none⟩ = some (.slice none 0 0)) :
    Calls Try.prog 16 #[.pointer (some ⟨rb, off, none⟩), v] w fun e w' => e = .returned (.bool true) ∧ Below w.heap.size w w' := by
  have hrb : rb < w.heap.size := block_lt_of_cell h
  go_enter Try.func16, Try.ntmps16
  go_wp2
  go_ret
  exact ⟨rfl, (Below.refl _ _).alloc (Nat.le_refl _) _⟩

set_option maxHeartbeats 400000 in
theorem headers18 (rb off : Nat) (v : Value) (w : World) (h : w.cell? ⟨rb, off + 3, none⟩ = some (.slice none 0 0)) :
    Calls Try.prog 18 #[.pointer (some ⟨rb, off, none⟩), v] w fun e w' => e = .returned (.bool true) ∧ w' = w := by
  go_enter Try.func18, Try.ntmps18
  go_wp2
  go_loop [11] (fun i => i = .int .i64 0) (fun _ => 0)
  case atStart => rfl
  case round =>
    subst hrel
    go_wp2
    go_ret
    exact ⟨rfl, rfl⟩

set_option maxHeartbeats 400000 in
theorem match15 (B rb off cb : Nat) (p m : ByteArray) (w : World) (hB : B ≤ w.heap.size) (h : RuleAt w B rb off p) (hc : CallAt w B cb m) :
    Calls Try.prog 15 #[.pointer (some ⟨rb, off, none⟩), .pointer (some ⟨cb, 0, none⟩)] w fun e w' => e = .returned (.bool (takesB p m)) ∧ Below w.heap.size w w' := by
  have c0 := hc.method
  have c1 := hc.principals
  have c2 := hc.headers
  have H1 := hid (takes16 rb off (.slice none 0 0) w h.principals)
  have HR := hid h
  have HC := hid hc
  clear h hc
  go_enter Try.func15, Try.ntmps15
  go_wp2_with fail
  refine H1.out.mono ?_
  rintro e w1 ⟨rfl, hb1⟩
  have HR1 := hid (HR.out.later (hb1.mono hB))
  have HC1 := HC.out.later (hb1.mono hB)
  have d0 := HC1.method
  have d2 := HC1.headers
  have HB1 := hid hb1
  clear hb1 HC1 c0 c1 c2 H1
  go_wp2_with fail
  refine (method17 B rb off p m w1 HR1.out).mono ?_
  rintro e w2 ⟨rfl, hb2⟩
  have e2 := cell_later d2 hb2
  have HB2 := hid (HB1.out.trans (hb2.mono HB1.out.size))
  have HR2 := hid (HR1.out.later (hb2.mono (Nat.le_trans hB HB1.out.size)))
  clear hb2 d0 d2
  obtain ⟨t, ht⟩ : ∃ t, takesB p m = t := ⟨_, rfl⟩
  rw [ht]
  have HT := hid ht
  clear ht
  cases t
  · go_wp2_with fail
    go_ret
    exact ⟨by rw [HT.out]; rfl, HB2.out⟩
  · go_wp2_with fail
    refine (headers18 rb off _ w2 HR2.out.headers).mono ?_
    rintro e w3 ⟨rfl, hw⟩
    have HW := hid hw
    clear hw
    go_wp2_with fail
    go_ret
    exact ⟨by rw [HT.out]; rfl, by rw [HW.out]; exact HB2.out⟩
end Go.Proofs.Qxb6614085a

import Derived.Test.Qxb6608715aA
import Derived.Test.Qxb6608715aB
import Derived.Test.Qxb6608715aShelf
import Derived.Deep.RegionHeld3
namespace Go.Proofs.Qxb6608715a
open Go.RowKit

/-- The strings joined by a separator. -/
def joinB (ss : List ByteArray) (sep : ByteArray) : ByteArray := ⟨(Lib.join (ss.map (·.data.toList)) sep.data.toList).toArray⟩
def comma : ByteArray := ⟨#[44, 32]⟩
def orB : ByteArray := ⟨#[32, 111, 114, 32]⟩

theorem lens_cons (x : ByteArray) (r : List ByteArray) : lens (x :: r) = x.size + lens r := by simp [lens]
theorem lens_lib (ss : List ByteArray) : Lib.lens (ss.map (·.data.toList)) = lens ss := by
  induction ss with
  | nil => rfl
  | cons x r ih => rw [lens_cons, ← ih]; simp only [Lib.lens, List.map_cons, List.sum_cons, Array.length_toList]; rfl

theorem joinB_size (ss : List ByteArray) (sep : ByteArray) : (joinB ss sep).size ≤ lens ss + ss.length * sep.size := by
  unfold joinB
  cases ss with
  | nil => exact Nat.zero_le _
  | cons x r =>
    simp only [List.map_cons, Lib.join_cons]
    have h := Lib.joinTail_length sep.data.toList (r.map (·.data.toList))
    rw [lens_lib] at h
    show (x.data.toList ++ Lib.joinTail sep.data.toList (r.map (·.data.toList))).toArray.size ≤ _
    rw [List.size_toArray, List.length_append, h, lens_cons, List.length_map, Array.length_toList, Array.length_toList, List.length_cons, Nat.succ_mul, Nat.mul_comm sep.data.size]
    show x.size + (r.length * sep.size + lens r) ≤ _
    omega

theorem join_at (bk o c m : Nat) (xs : List ByteArray) (w : World) (hm : xs.length = m) (hcap : m ≤ c) (hr : SRow w bk o xs) (hN : m ≤ 2097152) (hlen : lens xs ≤ 2097152) :
    Calls Try.prog 31 #[.slice (some ⟨bk, o, none⟩) m c, .string ⟨#[44, 32]⟩] w fun e w' => ∃ J : ByteArray, e = .returned (.string J) ∧ J = joinB xs comma ∧ J.size ≤ 8388608 ∧ Below w.heap.size w w' := by
  subst hm
  have hs := joinB_size xs comma
  have hc : comma.size = 2 := rfl
  rw [hc] at hs
  refine (Try.strings_Join bk o c xs ⟨#[44, 32]⟩ w (fun j x hj => ?_) hr.lt (by omega) hcap ?_).mono ?_
  · have hlt : j < xs.length := (List.getElem?_eq_some_iff.1 hj).1
    rw [hr.cell j hlt]
    simp [hj]
  · show (joinB xs comma).size ≤ _
    omega
  · rintro e w' ⟨rfl, hb⟩
    exact ⟨_, rfl, rfl, by show (joinB xs comma).size ≤ _; omega, hb⟩

set_option maxHeartbeats 400000 in
theorem named_any (rb g o m cap : Nat) (ss : List ByteArray) (s : ByteArray) (w : World) (hl : ss.length = m) (hm : m ≤ 1048576) (hcap : m ≤ cap) (hr : w.cell? ⟨rb, 256, none⟩ = some (.slice (some ⟨g, o, none⟩) (m + 1) cap)) (hss : SRow w g o (ss ++ [s])) (hsz : lens ss ≤ 2097152) (hs : s.size ≤ 2097152) :
    Calls Try.prog 29 #[.pointer (some ⟨rb, 0, none⟩)] w fun e w' => e = .returned (.string (joinB ss comma ++ orB ++ s)) ∧ Below w.heap.size w w' := by
  have hlast : w.cell? ⟨g, o + m, none⟩ = some (.string s) := by
    have := hss.cell m (by simp; omega)
    rw [this]; simp [← hl]
  have hrow : SRow w g o ss := ⟨hss.lt, fun k hk => by rw [hss.cell k (by simp; omega)]; simp [List.getElem?_append_left hk]⟩
  have hrb : rb < w.heap.size := block_lt_of_cell hr
  have hg : g < w.heap.size := hss.lt
  have b1 : (0 : Int) ≤ (m : Int) := by omega
  have b2 : (m : Int) < (m : Int) + 1 := by omega
  have HR : Hid (SRow w.drew g o ss) := ⟨hrow.lt, hrow.cell⟩
  have hm2 : m ≤ 2097152 := by omega
  have HL := hid hl
  clear hss hrow hl
  go_enter Try.func29, Try.ntmps29
  go_wp2
  go_region_held3 (fun w' => w'.cell? ⟨rb, 256, none⟩ = some (.slice (some ⟨g, o, none⟩) (m + 1) cap) ∧ w'.cell? ⟨g, o + m, none⟩ = some (.string s)) (go_keep) (first | (go_at_call 31; refine (join_at g o cap m ss w.drew HL.out hcap HR.out hm2 hsz).mono ?_; rintro e w1 ⟨J, rfl, hJ, hJs, hb⟩; have HJ := hid hJ; clear hJ; have d1 : ¬ (9223372036854775807 < J.size + 4) := (by omega); have d2 : ¬ (9223372036854775807 < J.size + 4 + s.size) := (by omega); have c1 : w1.cell? ⟨rb, 256, none⟩ = some (.slice (some ⟨g, o, none⟩) (m + 1) cap) := (hb.cell (p := ⟨rb, 256, none⟩) hrb).trans hr; have c2 : w1.cell? ⟨g, o + m, none⟩ = some (.string s) := (hb.cell (p := ⟨g, o + m, none⟩) hg).trans hlast))
  go_wp2
  go_ret
  rw [← HJ.out]
  exact ⟨rfl, ((Below.refl w.heap.size w).drew).trans hb⟩

set_option maxHeartbeats 400000 in
theorem callnamed (rb g o m cap : Nat) (ss : List ByteArray) (s : ByteArray) (w : World) (hl : ss.length = m) (hm : m ≤ 1048576) (hcap : m ≤ cap) (hr : w.cell? ⟨rb, 256, none⟩ = some (.slice (some ⟨g, o, none⟩) (m + 1) cap)) (hss : SRow w g o (ss ++ [s])) (hsz : lens ss ≤ 2097152) (hs : s.size ≤ 2097152) :
    Calls Try.prog 17 #[.pointer (some ⟨rb, 0, none⟩)] w fun e w' => e = .returned (.string (joinB ss comma ++ orB ++ s)) ∧ Below w.heap.size w w' := by
  have C := hid (named_any rb g o m cap ss s w hl hm hcap hr hss hsz hs)
  clear hl hm hcap hr hss hsz hs
  go_enter Try.func17, Try.ntmps17
  go_wp2_with (go_at_call 29; refine C.out.mono ?_; rintro e w1 ⟨rfl, hb⟩)
  go_ret
  exact ⟨rfl, hb⟩

theorem extract_tail (h t : ByteArray) : (h ++ t).extract ((h ++ t).size - t.size) (h ++ t).size = t := by
  apply ByteArray.ext
  rw [ByteArray.data_extract, ByteArray.data_append, ByteArray.size_append, Nat.add_sub_cancel]
  apply Array.toList_inj.1
  have e1 : h.size = h.data.toList.length := by simp [ByteArray.size_data]
  have e2 : t.size = t.data.toList.length := by simp [ByteArray.size_data]
  rw [Array.toList_extract, List.extract_eq_take_drop, Array.toList_append, e1, e2, List.drop_left, Nat.add_sub_cancel_left, List.take_length]

theorem extract_head (h t : ByteArray) : (h ++ t).extract 0 h.size = h := by
  apply ByteArray.ext
  rw [ByteArray.data_extract, ByteArray.data_append]
  apply Array.toList_inj.1
  have e1 : h.size = h.data.toList.length := by simp [ByteArray.size_data]
  rw [Array.toList_extract, List.extract_eq_take_drop, Array.toList_append, e1, List.drop_zero, Nat.sub_zero, List.take_left]

set_option maxHeartbeats 400000 in
theorem suffix_yes (h t : ByteArray) (w : World) (hs : (h ++ t).size ≤ 16777216) :
    Calls Try.prog 18 #[.string (h ++ t), .string t] w fun e w' => e = .returned (.bool true) ∧ w' = w := by
  obtain ⟨u, hu⟩ : ∃ u, u = h ++ t := ⟨_, rfl⟩
  rw [← hu] at hs ⊢
  have h1 : t.size ≤ u.size := by rw [hu, ByteArray.size_append]; omega
  have h2 : (t.size : Int) ≤ (u.size : Int) := by omega
  have HU := hid hu
  clear hu
  go_enter Try.func18, Try.ntmps18
  go_wp2
  go_ret
  refine ⟨?_, rfl⟩
  show Ending.returned (Value.bool ((u.extract (u.size - t.size) u.size).toList == t.toList)) = _
  rw [HU.out, extract_tail]
  simp
end Go.Proofs.Qxb6608715a

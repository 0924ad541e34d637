import Derived.Test.Qxb6608715aC
import Derived.Test.Qxb6608715aD
namespace Go.Proofs.Qxb6608715a
open Go.RowKit

-- Fewer than two names: true.
set_option maxHeartbeats 400000 in
theorem more_short (a : Option Addr) (len cap n0 : Nat) (x : ByteArray) (w : World) (_hlen : len < 2)
    (C1 : Hid (Calls Try.prog 14 #[.slice a len cap, .string x] w fun e w' => AnyBool e ∧ w' = w))
    (C2 : Hid (Calls Try.prog 15 #[.slice a len cap, .int .i64 1048576] w fun e w' => Counts e n0 ∧ w' = w)) :
    Calls Try.prog 5 #[.slice a len cap, .string x] w fun e w' => e = .returned (.bool true) ∧ Below w.heap.size w w' := by
  go_enter Try.func5, Try.ntmps5
  go_wp2_with fail
  refine C1.out.mono ?_
  rintro e w1 ⟨⟨bb, rfl⟩, rfl⟩
  cases bb
  · go_wp2_with fail
    go_ret
    exact ⟨rfl, Below.refl _ _⟩
  go_wp2_with fail
  refine C2.out.mono ?_
  rintro e w2 ⟨⟨m, rfl, hm0, hm1, hmm⟩, rfl⟩
  have HM := hid hmm
  clear hmm
  go_wp2_with fail
  all_goals
    go_ret
    exact ⟨rfl, Below.refl _ _⟩

theorem SRow.later {w w' : World} {b o : Nat} {ss : List ByteArray} (h : SRow w b o ss) (hb : Below w.heap.size w w') : SRow w' b o ss :=
  ⟨Nat.lt_of_lt_of_le h.lt hb.size, fun k hk => by rw [hb.cell (p := ⟨b, o + k, none⟩) h.lt]; exact h.cell k hk⟩

theorem SRow.grown {w w' : World} {b o g : Nat} {ss : List ByteArray} (h : SRow w b o ss) (hg : w.grownBy w' (some g)) (hne : b ≠ g) (hs : w.heap.size ≤ w'.heap.size) : SRow w' b o ss :=
  ⟨Nat.lt_of_lt_of_le h.lt hs, fun k hk => hg.cell (h.cell k hk) (by simpa using hne)⟩

theorem SRow.grown0 {w w' : World} {b o : Nat} {ss : List ByteArray} (h : SRow w b o ss) (hg : w.grownBy w' none) : SRow w' b o ss :=
  ⟨Nat.lt_of_lt_of_le h.lt hg.size, fun k hk => hg.cell (h.cell k hk) (by simp)⟩

theorem row_cells {w : World} {b : Nat} {ss : List ByteArray} (h : SRow w b 0 ss) : ∀ j u, (ss.map Value.string)[j]? = some u → w.cell? ((⟨b, 0, none⟩ : Addr).add j) = some u := fun j u hu => by
  have hj : j < ss.length := by simpa using (List.getElem?_eq_some_iff.1 hu).1
  have := h.cell j hj
  rw [Addr.add_lit, this, ← hu]
  simp [hj]

theorem strs_oneCell (ss : List ByteArray) : ∀ u ∈ ss.map Value.string, u.oneCell' = true := by
  intro u hu
  obtain ⟨_, _, rfl⟩ := List.mem_map.1 hu
  rfl

theorem row_of_owns {w : World} {base g n cap : Nat} {ss : List ByteArray} (h : w.ownsRow base 9 1 (.slice (some ⟨g, 0, none⟩) n cap) n (ss.map Value.string)) : SRow w g 0 ss :=
  ⟨(h.lt g rfl).2, fun k hk => by
    have hl : ss.length = n := by simpa using h.1
    have := h.cellAt k (by omega)
    rw [Nat.zero_add, this]
    simp [hk]⟩

def falses : Array Value := Array.replicate 256 (.bool false)
theorem falses_size : falses.size = 256 := by simp [falses]
theorem zero22 (w : World) : (zeroValue 22).run Try.prog w = .ok (.agg falses) w := by kernel_rfl
theorem falses_info : (Try.prog.info? 22).map (·.size) = some falses.size := by rw [falses_size]; exact info22

theorem row_block {w w' : World} {g : Nat} {o : Obj} (h : w.heap[g]? = some o) (hb : Below w.heap.size w w') : w'.heap[g]? = some o := by
  rw [hb.block g (Array.getElem?_eq_some_iff.1 h).1]; exact h

theorem callnamed2 (rb g o m cap : Nat) (ss : List ByteArray) (s : ByteArray) (w : World) (hl : ss.length = m) (hm : m ≤ 1048576) (hcap : m ≤ cap) (hr : w.cell? ⟨rb, 256, none⟩ = some (.slice (some ⟨g, o, none⟩) (m + 1) cap)) (hss : SRow w g o (ss ++ [s])) (hsz : lens ss ≤ 2097152) (hs : s.size ≤ 2097152) :
    Calls Try.prog 17 #[.pointer (some ⟨rb, 0, none⟩)] w fun e w' => ∃ N : ByteArray, e = .returned (.string N) ∧ N = joinB ss comma ++ (orB ++ s) ∧ N.size ≤ 16777216 ∧ Below w.heap.size w w' := by
  refine (callnamed rb g o m cap ss s w hl hm hcap hr hss hsz hs).mono ?_
  rintro e w' ⟨rfl, hb⟩
  have h1 := joinB_size ss comma
  have h2 : comma.size = 2 := rfl
  have h3 : orB.size = 4 := rfl
  refine ⟨_, rfl, ByteArray.append_assoc, ?_, hb⟩
  rw [ByteArray.size_append, ByteArray.size_append, h3]
  rw [h2, hl] at h1
  omega

theorem suffix2 (u h t : ByteArray) (w : World) (hu : u = h ++ t) (hs : u.size ≤ 16777216) :
    Calls Try.prog 18 #[.string u, .string t] w fun e w' => e = .returned (.bool true) ∧ w' = w := by
  subst hu; exact suffix_yes h t w hs

theorem joinB_snoc (ss : List ByteArray) (s : ByteArray) (h : 1 ≤ ss.length) : joinB (ss ++ [s]) comma = joinB ss comma ++ comma ++ s := by
  match ss, h with
  | y :: r, _ =>
    apply ByteArray.ext
    rw [ByteArray.data_append, ByteArray.data_append]
    apply Array.toList_inj.1
    simp only [joinB, List.cons_append, List.map_cons, List.map_append, List.map_nil, Lib.join_cons, Lib.joinTail, List.flatten_append, Array.toList_append, List.append_assoc, List.flatten_cons, List.flatten_nil, List.append_nil]

-- What stands behind the copies: the names, the names and one more, the empty table.
structure Stage (w W : World) (g0 g1 g2 : Nat) (ss : List ByteArray) (x : ByteArray) : Prop where
  names : SRow W g0 0 ss
  more : SRow W g1 0 (ss ++ [x])
  table : W.heap[g2]? = some (.cells falses 22 (0, 0))
  below : Below w.heap.size w W

theorem Stage.later {w W W' : World} {g0 g1 g2 : Nat} {ss : List ByteArray} {x : ByteArray} (h : Stage w W g0 g1 g2 ss x) (hb : Below W.heap.size W W') : Stage w W' g0 g1 g2 ss x :=
  ⟨h.names.later hb, h.more.later hb, row_block h.table hb, h.below.trans (hb.mono h.below.size)⟩

theorem final_eq (ss : List ByteArray) (s x N1 N2 : ByteArray) (hm : 1 ≤ ss.length) (h1 : N1 = joinB ss comma ++ (orB ++ s)) (h2 : N2 = joinB (ss ++ [s]) comma ++ (orB ++ x)) :
    (N2.toList == (N1.extract 0 (N1.size - (4 + s.size)) ++ ⟨#[44, 32]⟩ ++ s ++ ⟨#[32, 111, 114, 32]⟩ ++ x).toList) = true := by
  have h3 : N1.size - (4 + s.size) = (joinB ss comma).size := by
    have : orB.size = 4 := rfl
    rw [h1, ByteArray.size_append, ByteArray.size_append, this]; omega
  have e1 : N1.extract 0 (joinB ss comma).size = joinB ss comma := by rw [h1]; exact extract_head _ _
  rw [h3, e1, h2, joinB_snoc ss s hm]
  have : joinB ss comma ++ comma ++ s ++ (orB ++ x) = joinB ss comma ++ ⟨#[44, 32]⟩ ++ s ++ ⟨#[32, 111, 114, 32]⟩ ++ x := ByteArray.append_assoc.symm
  rw [this]
  simp

theorem ret_bool {b : Bool} (h : b = true) : Ending.returned (.bool b) = .returned (.bool true) := by rw [h]

set_option maxHeartbeats 1000000 in
theorem more_main (b o m cap : Nat) (ss : List ByteArray) (s x : ByteArray) (w : World) (hx : x.size ≤ maxLen) (hl : ss.length = m) (hm : 1 ≤ m) (hr : SRow w b o (ss ++ [s]))
    (C1 : Hid (Calls Try.prog 14 #[.slice (some ⟨b, o, none⟩) (m + 1) cap, .string x] w fun e w' => AnyBool e ∧ w' = w))
    (C2 : Hid (Calls Try.prog 15 #[.slice (some ⟨b, o, none⟩) (m + 1) cap, .int .i64 1048576] w fun e w' => Counts e (16 * (m + 1) + lens (ss ++ [s])) ∧ w' = w)) :
    Calls Try.prog 5 #[.slice (some ⟨b, o, none⟩) (m + 1) cap, .string x] w fun e w' => e = .returned (.bool true) ∧ Below w.heap.size w w' := by
  unfold maxLen at hx
  obtain ⟨i0, hi, hz0, hz1, hz2⟩ := info_parts info9
  have HL := hid hl
  have HR := hid hr
  clear hl hr
  go_enter Try.func5, Try.ntmps5
  go_wp2_with fail
  refine C1.out.mono ?_
  rintro e w1 ⟨⟨bb, rfl⟩, rfl⟩
  cases bb
  · go_wp2_with fail
    go_ret
    exact ⟨rfl, Below.refl _ _⟩
  go_wp2_with fail
  refine C2.out.mono ?_
  rintro e w2 ⟨⟨n, rfl, hn0, hn1, hnn⟩, rfl⟩
  by_cases hov : n ≤ 1048576
  rotate_left
  · clear hnn
    go_wp2_with fail
    go_ret
    exact ⟨rfl, Below.refl _ _⟩
  have hne := hnn hov
  clear hnn
  have hsn := lens_snoc ss s
  rw [hsn] at hne
  have HN := hid hne
  have hml : 16 * (m + 1) + (lens ss + s.size) ≤ 1048576 := by omega
  clear hne hsn
  by_cases hxx : (x.size : Int) ≤ 1048576 - n
  rotate_left
  · go_wp2_with fail
    go_ret
    exact ⟨rfl, Below.refl _ _⟩
  go_wp2_with fail
  have hcl := clone_some b o (m + 1) cap (ss ++ [s]) w2 (by simp [HL.out]) (by omega) HR.out
  refine hcl.mono ?_
  clear hcl
  rintro e w3 ⟨rfl, hrow, hbel⟩
  have hsz3 : w2.heap.size < w3.heap.size := hrow.lt
  have HROW := hid hrow
  have HBEL := hid hbel
  clear hrow hbel C1 C2
  have hal := zero22
  go_wp2_with (first
    | (at_make; refine wpList_make_own _ rfl _ _ 26 rfl w3.heap.size 9 i0 (.string ByteArray.empty) 1 Try.underlying26 hi hz0 hz1 _ _ _ (m + 1 + 1) rfl rfl (by omega) (by rw [hz2]; omega) (by unfold maxLen; omega) (Nat.le_refl _) ?_; intro w4 hown4 hgrow4; have HG4 := hid hgrow4; have HROW4 := hid (HROW.out.grown0 hgrow4); clear hgrow4)
    | (at_builtin; refine wpList_append_fits _ rfl (.tmp 35) (.tmp 36) 26 rfl w3.heap.size 9 i0 1 Try.underlying26 hi hz1 w3.heap.size 0 (m + 1 + 1) [] rfl hown4 ⟨w2.heap.size, 0, none⟩ (m + 1) (m + 1) ((ss ++ [s]).map Value.string) rfl (by simp [HL.out]) (row_cells HROW4.out) (strs_oneCell _) (by omega) ?_; intro w5 hown5 hgrow5; simp only [Nat.zero_add, List.nil_append] at hown5; have HG5 := hid hgrow5; clear hgrow5 hown4)
    | (at_builtin; refine wpList_append_fits _ rfl (.tmp 38) (.tmp 40) 26 rfl w3.heap.size 9 i0 1 Try.underlying26 hi hz1 w3.heap.size (m + 1) (m + 1 + 1) _ rfl (hown5.alloc _) ⟨w5.heap.size, 0, none⟩ 1 1 [.string x] rfl rfl (cell_one_new _ _ _) (strs_oneCell [x]) (by omega) ?_; intro w6 hown6 hgrow6; have HG6 := hid hgrow6; have HO6 := hid hown6; clear hgrow6 hown6 hown5)
    | (refine wpList_load_row rfl 22 (.tmp 7) rfl _ rfl 22 falses _ _ (heap_alloc_new _ _) Try.underlying22 rfl falses_info ?_))
  have S7 : Stage w2 (w6.alloc (.cells falses 22)) w2.heap.size w3.heap.size w6.heap.size (ss ++ [s]) x := by
    have hr4 := HROW4.out
    have hz4 : w3.heap.size ≤ w4.heap.size := HG4.out.size
    have hz5 : w4.heap.size ≤ w5.heap.size := HG5.out.size
    have hz6 := HG6.out.size
    rw [World.size_alloc] at hz6
    have hr5 := hr4.grown HG5.out (by omega) hz5
    have hr5' : SRow (w5.alloc (.cells #[.string x] 9)) w2.heap.size 0 (ss ++ [s]) := hr5.later ((Below.refl _ _).alloc (Nat.le_refl _) _)
    have hr6 := hr5'.grown HG6.out (by omega) HG6.out.size
    have ho6 := HO6.out
    have hb6 : Below w2.heap.size w2 w6 := by
      refine (((HBEL.out.grown HG4.out (by omega) (fun k hk => by cases hk)).grown HG5.out (by omega) (fun k hk => by cases hk; omega)).alloc (by omega) _).grown HG6.out ?_ (fun k hk => by cases hk; omega)
      rw [World.size_alloc]; omega
    refine ⟨hr6.later ((Below.refl _ _).alloc (Nat.le_refl _) _), (row_of_owns (n := m + 1 + 1) (cap := m + 1 + 1) (base := w3.heap.size) (by rw [List.map_append]; exact ho6)).later ((Below.refl _ _).alloc (Nat.le_refl _) _), heap_alloc_new _ _, hb6.alloc (by omega) _⟩
  clear HROW4 HG4 HG5 HG6 HO6 HROW HBEL
  refine (newrule falses falses_size _ _ _ _).mono ?_
  rintro e w8 ⟨r1, rfl, hr1a, hr1b, hr1c, hb8⟩
  have S8 := hid (S7.later hb8)
  clear S7 hb8
  go_wp2_with fail
  refine (callnamed2 r1 w2.heap.size 0 m (m + 1) ss s w8 HL.out (by omega) (by omega) hr1c S8.out.names (by omega) (by omega)).mono ?_
  rintro e w9 ⟨N1, rfl, hN1, hN1s, hb9⟩
  have HN1 := hid hN1
  have S9 := hid (S8.out.later hb9)
  clear hN1 hb9 hr1a hr1b hr1c S8
  go_wp2_with (refine wpList_load_row rfl 22 (.tmp 7) rfl _ rfl 22 falses _ _ S9.out.table Try.underlying22 rfl falses_info ?_)
  refine (newrule falses falses_size _ _ _ _).mono ?_
  rintro e w10 ⟨r2, rfl, hr2a, hr2b, hr2c, hb10⟩
  have S10 := hid (S9.out.later hb10)
  clear hb10 S9
  go_wp2_with fail
  have hls : lens (ss ++ [s]) = lens ss + s.size := lens_snoc ss s
  refine (callnamed2 r2 w3.heap.size 0 (m + 1) (m + 1 + 1) (ss ++ [s]) x w10 (by simp [HL.out]) (by omega) (by omega) hr2c S10.out.more (by omega) (by omega)).mono ?_
  rintro e w11 ⟨N2, rfl, hN2, hN2s, hb11⟩
  have HN2 := hid hN2
  have S11 := hid (S10.out.later hb11)
  clear hN2 hb11 hr2a hr2b hr2c S10 hls
  have hlast : w11.cell? ⟨w2.heap.size, m, none⟩ = some (.string s) := by
    have := S11.out.names.cell m (by simp [HL.out])
    rw [Nat.zero_add] at this
    rw [this]; simp [← HL.out]
  go_wp2_with fail
  refine (suffix2 N1 (joinB ss comma) _ w11 HN1.out hN1s).mono ?_
  rintro e w12 ⟨rfl, hw⟩
  have HW := hid hw
  clear hw
  have hge : 4 + s.size ≤ N1.size := by
    have h3 : orB.size = 4 := rfl
    rw [HN1.out, ByteArray.size_append, ByteArray.size_append, h3]; omega
  go_wp2_with fail
  go_ret
  refine ⟨?_, by rw [HW.out]; exact S11.out.below⟩
  exact ret_bool (final_eq ss s x N1 N2 (by rw [HL.out]; exact hm) HN1.out HN2.out)
end Go.Proofs.Qxb6608715a

import Derived.Test.Qxb6614085aG
import Derived.Deep.DeepCutAuto
import Derived.Laws.CopyOwn
namespace Go.Proofs.Qxb6614085a
open Go.RowKit

theorem info9 : (Try.prog.info? 9).map (fun i => (i.zero, i.size, i.bytes)) = some (some (.string ByteArray.empty), 1, 16) := by kernel_rfl
theorem info3 : (Try.prog.info? 3).map (fun i => (i.zero, i.size, i.bytes)) = some (some (.int .i64 0), 1, 8) := by kernel_rfl
theorem size9 : (Try.prog.info? 9).map (·.size) = some 1 := by kernel_rfl
theorem size3 : (Try.prog.info? 3).map (·.size) = some 1 := by kernel_rfl

theorem strs_oneCell (ss : List ByteArray) : ∀ u ∈ ss.map Value.string, u.oneCell' = true := by
  intro u hu
  obtain ⟨_, _, rfl⟩ := List.mem_map.1 hu
  rfl

theorem made_row {w : World} {base g n : Nat} {e : TypeId} {xs : List Value} (h : w.ownsRow base e 1 (.slice (some ⟨g, 0, none⟩) n n) n xs) : ∃ cur : Array Value, w.heap[g]? = some (.cells cur e (0, 0)) ∧ cur.size = n := by
  rcases h.2 with ⟨h', _⟩ | ⟨g', cap, cur, h', _, hg, _, _, hs, _⟩
  · simp at h'
  · simp at h'
    obtain ⟨rfl, rfl⟩ := h'
    exact ⟨cur, hg, by omega⟩

theorem made_below {w w' : World} (hg : w.grownBy w' none) : Below w.heap.size w w' := (Below.refl _ _).grown hg (Nat.le_refl _) (fun k hk => by cases hk)

theorem copy_len {w : World} {a : Option Addr} {n : Nat} {ss : List ByteArray} (h : SSl w a n ss) : (ss.map Value.string).length = Nat.min n n := by
  rw [List.length_map, h.length]; exact (Nat.min_self n).symm

theorem copy_from {w w' : World} {ad : Addr} {n g : Nat} {ss : List ByteArray} (h : SSl w (some ad) n ss) (hb : Below w.heap.size w w') :
    0 < (ss.map Value.string).length → some (⟨g, 0, none⟩ : Addr) = some ⟨g, 0, none⟩ ∧ ∃ ad', some ad = some ad' ∧ ∀ j v, (ss.map Value.string)[j]? = some v → w'.cell? (ad'.add j) = some v := fun hp => by
  refine ⟨rfl, ad, rfl, fun j v hv => ?_⟩
  rw [List.length_map, h.length] at hp
  obtain ⟨b, o, e, hr⟩ := h.lies.resolve_left (by omega)
  obtain rfl := Option.some.inj e
  have hj : j < ss.length := by simpa using (List.getElem?_eq_some_iff.1 hv).1
  have := (hr.later hb).cell j hj
  rw [Addr.add_lit, this, ← hv]
  simp [hj]

theorem splice_all {cur cs : List Value} (h : cur.length = cs.length) : splice cur 0 cs = cs := by
  simp [splice, ← h]

theorem copied_strs {w w' : World} {a : Option Addr} {g n : Nat} {ss : List ByteArray} {cur : Array Value} (h : SSl w a n ss) (hw : w'.heap[g]? = some (.cells (splice cur.toList 0 (ss.map Value.string)).toArray 9 (0, 0))) (hl : cur.size = n) : SSl w' (some ⟨g, 0, none⟩) n ss := by
  rw [splice_all (by simp [hl, h.length])] at hw
  refine ⟨h.length, .inr ⟨g, 0, rfl, (Array.getElem?_eq_some_iff.1 hw).1, fun k hk => ?_⟩⟩
  rw [Nat.zero_add, cell_of_row _ _ _ _ _ _ hw]
  simp [hk]

theorem copied_ints {w w' : World} {a : Option Addr} {g n : Nat} {zs : List Int} {cur : Array Value} (h : ISl w a n zs) (hw : w'.heap[g]? = some (.cells (splice cur.toList 0 (zs.map (Value.int .i64))).toArray 3 (0, 0))) (hl : cur.size = n) : ISl w' (some ⟨g, 0, none⟩) n zs := by
  rw [splice_all (by simp [hl, h.length])] at hw
  refine ⟨h.length, .inr ⟨g, 0, rfl, (Array.getElem?_eq_some_iff.1 hw).1, fun k hk => ?_⟩⟩
  rw [Nat.zero_add, cell_of_row _ _ _ _ _ _ hw]
  simp [hk]

theorem copy_leni {w : World} {a : Option Addr} {n : Nat} {zs : List Int} (h : ISl w a n zs) : (zs.map (Value.int .i64)).length = Nat.min n n := by
  rw [List.length_map, h.length]; exact (Nat.min_self n).symm

theorem copy_fromi {w w' : World} {ad : Addr} {n g : Nat} {zs : List Int} (h : ISl w (some ad) n zs) (hb : Below w.heap.size w w') :
    0 < (zs.map (Value.int .i64)).length → some (⟨g, 0, none⟩ : Addr) = some ⟨g, 0, none⟩ ∧ ∃ ad', some ad = some ad' ∧ ∀ j v, (zs.map (Value.int .i64))[j]? = some v → w'.cell? (ad'.add j) = some v := fun hp => by
  refine ⟨rfl, ad, rfl, fun j v hv => ?_⟩
  rw [List.length_map, h.length] at hp
  obtain ⟨b, o, e, hr⟩ := h.lies.resolve_left (by omega)
  obtain rfl := Option.some.inj e
  have hj : j < zs.length := by simpa using (List.getElem?_eq_some_iff.1 hv).1
  have := (hr.later hb).cell j hj
  rw [Addr.add_lit, this, ← hv]
  simp [hj]

/-- A slice of ints as the law's own copy leaves it: nil, or at its row's head with no room to spare. -/
structure Copied (w : World) (a : Option Addr) (n c : Nat) (zs : List Int) : Prop where
  isl : ISl w a n zs
  shape : (a = none ∧ n = 0 ∧ c = 0) ∨ ∃ g, a = some ⟨g, 0, none⟩ ∧ c = n

theorem Copied.later {w w' : World} {a : Option Addr} {n c : Nat} {zs : List Int} (h : Copied w a n c zs) (hb : Below w.heap.size w w') : Copied w' a n c zs := ⟨h.isl.later hb, h.shape⟩

/-- What stands while a search goes on: the paths and the candidates, as they lay in world v, below block sb. -/
structure TwoRows (v w : World) (sb : Nat) (a0 a3 : Option Addr) (n l c3 : Nat) (ss : List ByteArray) (zs : List Int) : Prop where
  mk ::
  paths : SSl v a0 n ss
  cands : ISl v a3 l zs
  shape : (a3 = none ∧ l = 0 ∧ c3 = 0) ∨ ∃ g, a3 = some ⟨g, 0, none⟩ ∧ c3 = l
  le : v.heap.size ≤ sb
  below : Below v.heap.size v w

theorem TwoRows.later {v w w' : World} {sb : Nat} {a0 a3 : Option Addr} {n l c3 : Nat} {ss : List ByteArray} {zs : List Int} (h : TwoRows v w sb a0 a3 n l c3 ss zs) (hb : Below sb w w') : TwoRows v w' sb a0 a3 n l c3 ss zs :=
  ⟨h.paths, h.cands, h.shape, h.le, h.below.trans (hb.mono h.le)⟩

theorem TwoRows.under {v w : World} {sb : Nat} {a0 a3 : Option Addr} {n l c3 : Nat} {ss : List ByteArray} {zs : List Int} (h : TwoRows v w sb a0 a3 n l c3 ss zs) : IUnder w sb a3 l zs :=
  ⟨h.cands.later h.below, h.cands.lies.imp id fun ⟨b, o, e, r⟩ => ⟨b, o, e, Nat.lt_of_lt_of_le r.lt h.le⟩⟩

theorem TwoRows.takeU {v w : World} {sb g : Nat} {a0 : Option Addr} {n l c3 : Nat} {ss : List ByteArray} {zs : List Int} (h : TwoRows v w sb a0 (some ⟨g, 0, none⟩) n l c3 ss zs) (j : Nat) (hj : j ≤ l) : IUnder w sb (some ⟨g, 0, none⟩) j (zs.take j) := by
  have hl := h.cands.length
  have hlen : (zs.take j).length = j := by rw [List.length_take, hl]; omega
  rcases (h.cands.later h.below).lies with h0 | ⟨b, o, e, hr⟩
  · have : j = 0 := by omega
    exact ⟨⟨hlen, .inl this⟩, .inl this⟩
  · simp at e
    obtain ⟨rfl, rfl⟩ := e
    refine ⟨⟨hlen, .inr ⟨g, 0, rfl, hr.lt, fun k hk => ?_⟩⟩, ?_⟩
    · have hk' : k < j := by omega
      rw [hr.cell k (by omega)]
      simp [hk']
    · rcases h.cands.lies with h0 | ⟨b, o, e, hr'⟩
      · exact .inl (by omega)
      · simp at e
        obtain ⟨rfl, rfl⟩ := e
        exact .inr ⟨g, 0, rfl, Nat.lt_of_lt_of_le hr'.lt h.le⟩

theorem TwoRows.dropU {v w : World} {sb g : Nat} {a0 : Option Addr} {n l c3 : Nat} {ss : List ByteArray} {zs : List Int} (h : TwoRows v w sb a0 (some ⟨g, 0, none⟩) n l c3 ss zs) (j : Nat) (hj : j ≤ l) : IUnder w sb (some ⟨g, j, none⟩) (l - j) (zs.drop j) := by
  have hl := h.cands.length
  have hlen : (zs.drop j).length = l - j := by rw [List.length_drop, hl]
  rcases (h.cands.later h.below).lies with h0 | ⟨b, o, e, hr⟩
  · have : l - j = 0 := by omega
    exact ⟨⟨hlen, .inl this⟩, .inl this⟩
  · simp at e
    obtain ⟨rfl, rfl⟩ := e
    refine ⟨⟨hlen, .inr ⟨g, j, rfl, hr.lt, fun k hk => ?_⟩⟩, ?_⟩
    · have := hr.cell (j + k) (by omega)
      rw [Nat.zero_add] at this
      rw [this]
      simp
    · rcases h.cands.lies with h0 | ⟨b, o, e, hr'⟩
      · exact .inl (by omega)
      · simp at e
        obtain ⟨rfl, rfl⟩ := e
        exact .inr ⟨g, j, rfl, Nat.lt_of_lt_of_le hr'.lt h.le⟩

set_option maxHeartbeats 2000000 in
set_option maxRecDepth 100000 in
theorem cut_main (a0 a3 : Option Addr) (n c0 l c3 : Nat) (ss : List ByteArray) (m : ByteArray) (f k : Int) (zs : List Int) (w : World) (hs : SSl w a0 n ss) (hi : ISl w a3 l zs)
    (hnl : a3 = none → l = 0 ∧ c3 = 0) (hm : m.size ≤ 65536) (hn : n ≤ 65536) (hl : l ≤ 65536)
    (C1 : Hid (Calls Try.prog 5 #[.slice a0 n c0, .string m, .int .i64 f, .slice a3 l c3, .int .i64 k] w fun e w' => TellsBytes e ss ∧ w' = w)) :
    Calls Try.prog 3 #[.slice a0 n c0, .string m, .int .i64 f, .slice a3 l c3, .int .i64 k] w fun e w' => e = .returned (.bool true) ∧ Below w.heap.size w w' := by
  obtain ⟨i9, hi9, hz90, hz91, hz92⟩ := info_parts info9
  obtain ⟨i3, hi3, hz30, hz31, hz32⟩ := info_parts info3
  have HS := hid hs
  have HI := hid hi
  have HNL := hid hnl
  clear hs hi hnl
  have hnil0 := fun w => run_neq_slice_nil_any (P := Try.prog) w 22 9 a0 n c0 0 0 Try.underlying22
  have hnil3 := fun w => run_neq_slice_nil_any (P := Try.prog) w 23 3 a3 l c3 0 0 Try.underlying23
  go_enter Try.func3, Try.ntmps3
  go_wp2_with fail
  refine C1.out.mono ?_
  rintro e w1 ⟨⟨bb, rfl, hby⟩, rfl⟩
  cases bb
  · clear hby
    go_wp2_with fail
    go_ret
    exact ⟨rfl, Below.refl _ _⟩
  have HSZ := hid (hby rfl)
  clear hby
  go_upto_if 42 with (fail)
  go_cut [0] (fun s0 wx => ∃ a' c', s0 = .slice a' n c' ∧ SSl wx a' n ss ∧ Below w1.heap.size w1 wx)
  case first =>
    clear C1
    cases a0 with
    | none =>
      go_wp2_with fail
      go_meet
      case rel => exact ⟨none, c0, rfl, HS.out, Below.refl _ _⟩
    | some ad =>
      go_wp2_with (first
        | (at_make; refine wpList_make_full _ rfl _ _ 22 rfl w1.heap.size 9 i9 (.string ByteArray.empty) 1 Try.underlying22 hi9 hz90 hz91 _ _ _ _ n rfl rfl rfl rfl (by rw [hz92]; omega) (by unfold maxLen; omega) (Nat.le_refl _) ?_; intro w2 hown hgrow; obtain ⟨cur, hcur, hlen⟩ := made_row hown; have hb2 := made_below hgrow; have HC := hid hcur; clear hown hgrow hcur)
        | (refine wpList_copy_splice rfl (.tmp 46) (.tmp 47) 22 22 rfl 9 Try.underlying22 size9 _ _ _ _ _ _ rfl rfl w1.heap.size 0 cur.toList 9 (by simpa using HC.out) (ss.map Value.string) (copy_len HS.out) (copy_from HS.out hb2) (by simp [hlen, HS.out.length]) (strs_oneCell ss) w1.heap.size w1 hb2 (Nat.le_refl _) ?_; intro w3 hw3 hb3))
      go_meet
      case rel => exact ⟨some ⟨w1.heap.size, 0, none⟩, n, rfl, copied_strs HS.out hw3.out hlen, hb3⟩
  case rest =>
    obtain ⟨a0', c0', rfl, hs', hb'⟩ := hcut
    have HS' := hid hs'
    have HB' := hid hb'
    have HI' := hid (HI.out.later hb')
    have hsz' : w1.heap.size ≤ wc.heap.size := hb'.size
    clear hs' hb' HS HI C1 hnil0
    go_upto_if 51 with (fail)
    go_cut [3] (fun s3 wx => ∃ a' c', s3 = .slice a' l c' ∧ Copied wx a' l c' zs ∧ SSl wx a0' n ss ∧ Below w1.heap.size w1 wx)
    case first =>
      cases a3 with
      | none =>
        go_wp2_with fail
        go_meet
        case rel => exact ⟨none, c3, rfl, ⟨HI'.out, .inl ⟨rfl, (HNL.out (by first | trivial | rfl)).1, (HNL.out (by first | trivial | rfl)).2⟩⟩, HS'.out, HB'.out⟩
      | some ad =>
        go_wp2_with (first
          | (at_make; refine wpList_make_full _ rfl _ _ 23 rfl wc.heap.size 3 i3 (.int .i64 0) 1 Try.underlying23 hi3 hz30 hz31 _ _ _ _ l rfl rfl rfl rfl (by rw [hz32]; omega) (by unfold maxLen; omega) (Nat.le_refl _) ?_; intro w2 hown hgrow; obtain ⟨cur, hcur, hlen⟩ := made_row hown; have hb2 := made_below hgrow; have HC := hid hcur; clear hown hgrow hcur)
          | (refine wpList_copy_splice rfl (.tmp 55) (.tmp 56) 23 23 rfl 3 Try.underlying23 size3 _ _ _ _ _ _ rfl rfl wc.heap.size 0 cur.toList 3 (by simpa using HC.out) (zs.map (Value.int .i64)) (copy_leni HI'.out) (copy_fromi HI'.out hb2) (by simp [hlen, HI'.out.length]) (ints_oneCell .i64 zs) wc.heap.size wc hb2 (Nat.le_refl _) ?_; intro w3 hw3 hb3))
        go_meet
        case rel => exact ⟨some ⟨wc.heap.size, 0, none⟩, l, rfl, ⟨copied_ints HI'.out hw3.out hlen, .inr ⟨wc.heap.size, rfl, rfl⟩⟩, HS'.out.later hb3, HB'.out.trans (hb3.mono hsz')⟩
    case rest =>
      obtain ⟨a3', c3', rfl, hi', hs', hb'⟩ := hcut
      have HS := hid hs'
      have HI := hid hi'
      have HB := hid hb'
      clear hs' hi' hb' HS' HI' HB' hnil3
      have hwc : w1.heap.size ≤ wc.heap.size := HB.out.size
      go_wp2_with fail
      go_loop [13, 14] (fun t i => ∃ (j : Nat) (T : Int), j ≤ n ∧ i = .int .i64 j ∧ t = .int .i64 T ∧ 0 ≤ T ∧ T ≤ 1048576) (fun _ i => n - (intOf i).toNat)
      case atStart => exact ⟨0, _, by omega, rfl, rfl, by omega, by omega⟩
      case round =>
        obtain ⟨j, T, hj, rfl, rfl, hT0, hT1⟩ := hrel
        by_cases hlt : j < n
        · obtain ⟨b, o, rfl, hrow⟩ := HS.out.lies.resolve_left (by omega)
          have hcell := hrow.cell j (by rw [HS.out.length]; exact hlt)
          have hss := HSZ.out _ (getD_mem ss j (by rw [HS.out.length]; exact hlt))
          obtain ⟨p, hp⟩ : ∃ p, p = ss.getD j ByteArray.empty := ⟨_, rfl⟩
          rw [← hp] at hcell hss
          clear hp hrow
          go_wp2_with fail
          · go_ret
            exact ⟨rfl, HB.out⟩
          · go_round
            case rel => exact ⟨j + 1, _, by omega, by go_num, rfl, by omega, by omega⟩
            case measure => simp [intOf]; omega
        · go_wp2_with fail
          clear hlt hj
          refine (exact_any a0' n c0' ss wc HS.out (by unfold maxLen; omega) (fun s hs => by have := HSZ.out s hs; unfold maxLen; omega)).mono ?_
          rintro e w2 ⟨⟨bb, rfl⟩, hw2⟩
          subst hw2
          cases bb
          · go_wp2_with fail
            go_ret
            exact ⟨rfl, HB.out⟩
          go_wp2_with fail
          refine (asc_any a3' l c3' zs _ HI.out.isl (by unfold maxLen; omega)).mono ?_
          rintro e w3 ⟨⟨bb, rfl, hasc⟩, hb3⟩
          have HB3 := hid (HB.out.trans (hb3.mono hwc))
          cases bb
          · clear hasc hb3
            go_wp2_with fail
            go_ret
            exact ⟨rfl, HB3.out⟩
          have HA := hid (hasc rfl)
          have HS3 := hid (HS.out.later hb3)
          have HI3 := hid (HI.out.later hb3)
          clear hasc hb3 HS HI HB
          by_cases hf0 : f < 0
          · go_wp2_with fail
            go_ret
            exact ⟨rfl, HB3.out⟩
          by_cases hf1 : (n : Int) < f
          · go_wp2_with fail
            go_ret
            exact ⟨rfl, HB3.out⟩
          go_upto_region 26 with (fail)
          go_cut [111] (fun s111 wx => (∃ bb, s111 = .bool bb) ∧ wx = w3)
          case first =>
            by_cases hfn : f < (n : Int)
            · obtain ⟨i, rfl⟩ : ∃ i : Nat, f = i := ⟨f.toNat, by omega⟩
              obtain ⟨b, o, rfl, hrow⟩ := HS3.out.lies.resolve_left (by omega)
              have hcell := hrow.cell i (by rw [HS3.out.length]; omega)
              obtain ⟨p, hp⟩ : ∃ p, p = ss.getD i ByteArray.empty := ⟨_, rfl⟩
              rw [← hp] at hcell
              clear hp hrow
              go_wp2_with fail
              refine (takes_any p m _).mono ?_
              rintro e w4 ⟨rfl, hw4⟩
              subst hw4
              obtain ⟨t, ht⟩ : ∃ t, takesB p m = t := ⟨_, rfl⟩
              rw [ht]
              clear ht
              go_wp2_with fail
              go_meet
              case rel => exact ⟨⟨_, rfl⟩, rfl⟩
            · go_wp2_with fail
              go_meet
              case rel => exact ⟨⟨_, rfl⟩, rfl⟩
          case rest =>
            obtain ⟨⟨bb, rfl⟩, hwc⟩ := hcut
            subst hwc
            cases bb
            rotate_left
            · go_wp2_with fail
              go_ret
              exact ⟨rfl, HB3.out⟩
            by_cases hk0 : k < 0
            · go_wp2_with fail
              go_ret
              exact ⟨rfl, HB3.out⟩
            by_cases hk1 : (l : Int) < k
            · go_wp2_with fail
              go_ret
              exact ⟨rfl, HB3.out⟩
            go_wp2_with fail
            refine (least_any a0' a3' n c0' l c3' ss m zs f _ HS3.out HI3.out.isl (by unfold maxLen; omega) HA.out.nonneg).mono ?_
            rintro e w4 ⟨rfl, hw4⟩
            subst hw4
            obtain ⟨W, hW⟩ : ∃ W, W = least (tk ss m) n zs f := ⟨_, rfl⟩
            rw [← hW]
            have HW := hid hW
            clear hW
            go_wp2_with fail
            refine (newSearch a0' n c0' ss m f _ HS3.out hn).mono ?_
            rintro e w5 ⟨sb, rb, cb, rfl, hsb, hse5, hb5⟩
            have HT := hid (TwoRows.mk HS3.out HI3.out.isl HI3.out.shape hsb hb5)
            have HSE5 := hid hse5
            have HBW := hid (HB3.out.trans (hb5.mono HB3.out.size))
            clear hse5 hb5 hsb
            go_wp2_with fail
            have hml : l ≤ maxLen := by unfold maxLen; omega
            have E1 : Hid (tryL (tk ss m) zs f = W) := hid (by rw [HW.out]; exact tryL_least _ _ zs f HA.out (by omega))
            have hWb := tryL_bounds (tk ss m) zs f HA.out.nonneg (by omega)
            rw [E1.out] at hWb
            have E2 : Hid (tryL (tk ss m) zs W = W) := hid (by have := try_twice (tk ss m) n zs f HA.out (by omega) (by omega); rw [E1.out, ← HW.out] at this; exact this)
            refine (searchTry sb rb cb n l c3' a3' ss m f zs w5 HSE5.out (by omega) hml HA.out.nonneg HT.out.under).mono ?_
            rintro e w6 ⟨rfl, hse6, hb6⟩
            rw [E1.out] at hse6
            have HT6 := hid (HT.out.later hb6)
            have HBW6 := hid (HBW.out.trans (hb6.mono (Nat.le_trans HB3.out.size HT.out.le)))
            have HSE6 := hid hse6
            clear hse6 hb6
            go_wp2_with fail
            refine (searchFound sb W w6 HSE6.out.found).mono ?_
            rintro e w7 ⟨rfl, hw7⟩
            subst hw7
            go_wp2_with fail
            refine (searchTry sb rb cb n l c3' a3' ss m W zs _ HSE6.out (by omega) hml HA.out.nonneg HT6.out.under).mono ?_
            rintro e w8 ⟨rfl, hse8, hb8⟩
            rw [E2.out] at hse8
            have HT8 := hid (HT6.out.later hb8)
            have HBW8 := hid (HBW6.out.trans (hb8.mono (Nat.le_trans HB3.out.size HT.out.le)))
            have HSE8 := hid hse8
            clear hse8 hb8
            go_wp2_with fail
            refine (searchFound sb W w8 HSE8.out.found).mono ?_
            rintro e w9 ⟨rfl, hw9⟩
            subst hw9
            go_wp2_with fail
            refine (newSearch a0' n c0' ss m f _ (HT8.out.paths.later HT8.out.below) hn).mono ?_
            rintro e w10 ⟨sb2, rb2, cb2, rfl, hsb2, hse10, hb10⟩
            have HBW10 := hid (HBW8.out.trans (hb10.mono HBW8.out.size))
            have HT10 := hid (TwoRows.mk (HT8.out.paths.later HT8.out.below) (HT8.out.cands.later HT8.out.below) HT8.out.shape hsb2 hb10)
            have HSE10 := hid hse10
            have hle2 := Nat.le_trans HBW8.out.size hsb2
            clear hse10 hb10 hsb2 HSE5 HSE6 HSE8 HT HT6 HT8 HBW HBW6 HBW8 HS3 HI3
            obtain ⟨j, rfl⟩ : ∃ j : Nat, k = j := ⟨k.toNat, by omega⟩
            have hjl : j ≤ l := by omega
            obtain ⟨V, hV⟩ : ∃ V, V = tryL (tk ss m) (zs.take j) f := ⟨_, rfl⟩
            have hVb := tryL_bounds (tk ss m) (zs.take j) f (HA.out.take j).nonneg (by omega)
            rw [← hV] at hVb
            have E3 : Hid (tryL (tk ss m) (zs.drop j) V = W) := hid (by rw [hV, HW.out]; exact try_cut (tk ss m) n zs j f HA.out (by omega) (by omega))
            have HV := hid hV
            clear hV
            rcases HT10.out.shape with ⟨e1, e2, e3⟩ | ⟨g, e1, e2⟩
            · subst e1 e2 e3
              have hj0 : j = 0 := by omega
              subst hj0
              have hz00 : zs.length = 0 := HT10.out.cands.length
              have HZ0 := hid hz00
              clear hz00
              go_wp2_with fail
              refine (searchTry sb2 rb2 cb2 n 0 0 none ss m f (zs.take 0) w10 HSE10.out (by omega) hml (by simp) ⟨⟨by simp, .inl rfl⟩, .inl rfl⟩).mono ?_
              rintro e w11 ⟨rfl, hse11, hb11⟩
              rw [← HV.out] at hse11
              have HBW11 := hid (HBW10.out.trans (hb11.mono hle2))
              have HSE11 := hid hse11
              clear hse11 hb11
              go_wp2_with fail
              refine (searchTry sb2 rb2 cb2 n 0 0 none ss m V (zs.drop 0) w11 HSE11.out (by omega) hml (HA.out.drop 0).nonneg ⟨⟨HZ0.out, .inl rfl⟩, .inl rfl⟩).mono ?_
              rintro e w12 ⟨rfl, hse12, hb12⟩
              rw [E3.out] at hse12
              have HBW12 := hid (HBW11.out.trans (hb12.mono hle2))
              have HSE12 := hid hse12
              clear hse12 hb12
              go_wp2_with fail
              refine (searchFound sb2 W w12 HSE12.out.found).mono ?_
              rintro e w13 ⟨rfl, hw13⟩
              subst hw13
              go_wp2_with fail
              go_ret
              exact ⟨rfl, HBW12.out⟩
            · subst e1 e2
              go_wp2_with fail
              refine (searchTry sb2 rb2 cb2 n j _ _ ss m f (zs.take j) w10 HSE10.out (by omega) (by omega) (HA.out.take j).nonneg (HT10.out.takeU j hjl)).mono ?_
              rintro e w11 ⟨rfl, hse11, hb11⟩
              rw [← HV.out] at hse11
              have HBW11 := hid (HBW10.out.trans (hb11.mono hle2))
              have HT11 := hid (HT10.out.later hb11)
              have HSE11 := hid hse11
              clear hse11 hb11
              by_cases hje : c3' = j
              · subst hje
                have hdl : zs.drop c3' = [] := List.drop_eq_nil_of_le (by rw [HT10.out.cands.length]; omega)
                have HDL := hid hdl
                clear hdl
                go_wp2_with fail
                refine (searchTry sb2 rb2 cb2 n 0 _ _ ss m V (zs.drop c3') w11 HSE11.out (by omega) (by omega) (HA.out.drop c3').nonneg ⟨⟨by rw [HDL.out]; rfl, .inl rfl⟩, .inl rfl⟩).mono ?_
                rintro e w12 ⟨rfl, hse12, hb12⟩
                rw [E3.out] at hse12
                have HBW12 := hid (HBW11.out.trans (hb12.mono hle2))
                have HSE12 := hid hse12
                clear hse12 hb12
                go_wp2_with fail
                refine (searchFound sb2 W w12 HSE12.out.found).mono ?_
                rintro e w13 ⟨rfl, hw13⟩
                subst hw13
                go_wp2_with fail
                go_ret
                exact ⟨rfl, HBW12.out⟩
              · go_wp2_with fail
                refine (searchTry sb2 rb2 cb2 n (c3' - j) _ _ ss m V (zs.drop j) w11 HSE11.out (by omega) (by omega) (HA.out.drop j).nonneg (HT11.out.dropU j hjl)).mono ?_
                rintro e w12 ⟨rfl, hse12, hb12⟩
                rw [E3.out] at hse12
                have HBW12 := hid (HBW11.out.trans (hb12.mono hle2))
                have HSE12 := hid hse12
                clear hse12 hb12
                go_wp2_with fail
                refine (searchFound sb2 W w12 HSE12.out.found).mono ?_
                rintro e w13 ⟨rfl, hw13⟩
                subst hw13
                go_wp2_with fail
                go_ret
                exact ⟨rfl, HBW12.out⟩
end Go.Proofs.Qxb6614085a

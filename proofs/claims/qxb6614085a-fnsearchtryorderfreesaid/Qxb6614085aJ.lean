import Derived.Test.Qxb6614085aH
namespace Go.Proofs.Qxb6614085a
open Go.RowKit

/-- What stands while a search goes on: the paths and both lists of candidates, as they lay in world v, below block sb. -/
structure Rows3 (v w : World) (sb : Nat) (a0 a3 a4 : Option Addr) (n l q : Nat) (ss : List ByteArray) (zs ys : List Int) : Prop where
  mk ::
  paths : SSl v a0 n ss
  cands : ISl v a3 l zs
  cands2 : ISl v a4 q ys
  le : v.heap.size ≤ sb
  below : Below v.heap.size v w

theorem Rows3.later {v w w' : World} {sb : Nat} {a0 a3 a4 : Option Addr} {n l q : Nat} {ss : List ByteArray} {zs ys : List Int} (h : Rows3 v w sb a0 a3 a4 n l q ss zs ys) (hb : Below sb w w') : Rows3 v w' sb a0 a3 a4 n l q ss zs ys :=
  ⟨h.paths, h.cands, h.cands2, h.le, h.below.trans (hb.mono h.le)⟩
theorem Rows3.under {v w : World} {sb : Nat} {a0 a3 a4 : Option Addr} {n l q : Nat} {ss : List ByteArray} {zs ys : List Int} (h : Rows3 v w sb a0 a3 a4 n l q ss zs ys) : IUnder w sb a3 l zs :=
  ⟨h.cands.later h.below, h.cands.lies.imp id fun ⟨b, o, e, r⟩ => ⟨b, o, e, Nat.lt_of_lt_of_le r.lt h.le⟩⟩
theorem Rows3.under2 {v w : World} {sb : Nat} {a0 a3 a4 : Option Addr} {n l q : Nat} {ss : List ByteArray} {zs ys : List Int} (h : Rows3 v w sb a0 a3 a4 n l q ss zs ys) : IUnder w sb a4 q ys :=
  ⟨h.cands2.later h.below, h.cands2.lies.imp id fun ⟨b, o, e, r⟩ => ⟨b, o, e, Nat.lt_of_lt_of_le r.lt h.le⟩⟩

set_option maxHeartbeats 2000000 in
set_option maxRecDepth 100000 in
theorem free_main (a0 a3 a4 : Option Addr) (n c0 l c3 q c4 : Nat) (ss : List ByteArray) (m : ByteArray) (f : Int) (zs ys : List Int) (w : World) (hs : SSl w a0 n ss) (hi : ISl w a3 l zs) (hy : ISl w a4 q ys)
    (hm : m.size ≤ 65536) (hn : n ≤ 65536) (hl : l ≤ 65536) (hq : q ≤ 65536)
    (C1 : Hid (Calls Try.prog 13 #[.slice a0 n c0, .string m, .int .i64 f, .slice a3 l c3, .slice a4 q c4] w fun e w' => TellsBytes e ss ∧ w' = w)) :
    Calls Try.prog 4 #[.slice a0 n c0, .string m, .int .i64 f, .slice a3 l c3, .slice a4 q c4] w fun e w' => e = .returned (.bool true) ∧ Below w.heap.size w w' := by
  obtain ⟨i9, hi9, hz90, hz91, hz92⟩ := info_parts info9
  obtain ⟨i3, hi3, hz30, hz31, hz32⟩ := info_parts info3
  have HS := hid hs
  have HI := hid hi
  have HY := hid hy
  clear hs hi hy
  have hnil0 := fun w => run_neq_slice_nil_any (P := Try.prog) w 22 9 a0 n c0 0 0 Try.underlying22
  have hnil3 := fun w => run_neq_slice_nil_any (P := Try.prog) w 23 3 a3 l c3 0 0 Try.underlying23
  have hnil4 := fun w => run_neq_slice_nil_any (P := Try.prog) w 23 3 a4 q c4 0 0 Try.underlying23
  go_enter Try.func4, Try.ntmps4
  go_wp2_with fail
  refine C1.out.mono ?_
  rintro e w1 ⟨⟨bb, rfl, hby⟩, rfl⟩
  cases bb
  · clear hby
    go_wp2_with fail
    go_ret
    exact ⟨rfl, Below.refl _ _⟩
  have HSZ := hid (hby rfl)
  clear hby
  go_upto_if 47 with (fail)
  go_cut [0] (fun s0 wx => ∃ a' c', s0 = .slice a' n c' ∧ SSl wx a' n ss ∧ Below w1.heap.size w1 wx)
  case first =>
    clear C1
    cases a0 with
    | none =>
      go_wp2_with fail
      go_meet
      case rel => exact ⟨none, c0, rfl, HS.out, Below.refl _ _⟩
    | some ad =>
      go_wp2_with (first
        | (at_make; refine wpList_make_full _ rfl _ _ 22 rfl w1.heap.size 9 i9 (.string ByteArray.empty) 1 Try.underlying22 hi9 hz90 hz91 _ _ _ _ n rfl rfl rfl rfl (by rw [hz92]; omega) (by unfold maxLen; omega) (Nat.le_refl _) ?_; intro w2 hown hgrow; obtain ⟨cur, hcur, hlen⟩ := made_row hown; have hb2 := made_below hgrow; have HC := hid hcur; clear hown hgrow hcur)
        | (refine wpList_copy_splice rfl (.tmp 51) (.tmp 52) 22 22 rfl 9 Try.underlying22 size9 _ _ _ _ _ _ rfl rfl w1.heap.size 0 cur.toList 9 (by simpa using HC.out) (ss.map Value.string) (copy_len HS.out) (copy_from HS.out hb2) (by simp [hlen, HS.out.length]) (strs_oneCell ss) w1.heap.size w1 hb2 (Nat.le_refl _) ?_; intro w3 hw3 hb3))
      go_meet
      case rel => exact ⟨some ⟨w1.heap.size, 0, none⟩, n, rfl, copied_strs HS.out hw3.out hlen, hb3⟩
  case rest =>
    obtain ⟨a0', c0', rfl, hs', hb'⟩ := hcut
    have HS' := hid hs'
    have HB' := hid hb'
    have HI' := hid (HI.out.later hb')
    have HY' := hid (HY.out.later hb')
    have hsz' : w1.heap.size ≤ wc.heap.size := hb'.size
    clear hs' hb' HS HI HY C1 hnil0
    go_upto_if 56 with (fail)
    go_cut [3] (fun s3 wx => ∃ a' c', s3 = .slice a' l c' ∧ ISl wx a' l zs ∧ SSl wx a0' n ss ∧ ISl wx a4 q ys ∧ Below w1.heap.size w1 wx)
    case first =>
      cases a3 with
      | none =>
        go_wp2_with fail
        go_meet
        case rel => exact ⟨none, c3, rfl, HI'.out, HS'.out, HY'.out, HB'.out⟩
      | some ad =>
        go_wp2_with (first
          | (at_make; refine wpList_make_full _ rfl _ _ 23 rfl wc.heap.size 3 i3 (.int .i64 0) 1 Try.underlying23 hi3 hz30 hz31 _ _ _ _ l rfl rfl rfl rfl (by rw [hz32]; omega) (by unfold maxLen; omega) (Nat.le_refl _) ?_; intro w2 hown hgrow; obtain ⟨cur, hcur, hlen⟩ := made_row hown; have hb2 := made_below hgrow; have HC := hid hcur; clear hown hgrow hcur)
          | (refine wpList_copy_splice rfl (.tmp 60) (.tmp 61) 23 23 rfl 3 Try.underlying23 size3 _ _ _ _ _ _ rfl rfl wc.heap.size 0 cur.toList 3 (by simpa using HC.out) (zs.map (Value.int .i64)) (copy_leni HI'.out) (copy_fromi HI'.out hb2) (by simp [hlen, HI'.out.length]) (ints_oneCell .i64 zs) wc.heap.size wc hb2 (Nat.le_refl _) ?_; intro w3 hw3 hb3))
        go_meet
        case rel => exact ⟨some ⟨wc.heap.size, 0, none⟩, l, rfl, copied_ints HI'.out hw3.out hlen, HS'.out.later hb3, HY'.out.later hb3, HB'.out.trans (hb3.mono hsz')⟩
    case rest =>
      obtain ⟨a3', c3', rfl, hi', hs', hy', hb'⟩ := hcut
      have HS1 := hid hs'
      have HI1 := hid hi'
      have HY1 := hid hy'
      have HB1 := hid hb'
      have hsz1 : w1.heap.size ≤ wc.heap.size := hb'.size
      clear hs' hi' hb' hy' HS' HI' HB' HY' hnil3
      go_upto_if 65 with (fail)
      go_cut [4] (fun s4 wx => ∃ a' c', s4 = .slice a' q c' ∧ ISl wx a' q ys ∧ SSl wx a0' n ss ∧ ISl wx a3' l zs ∧ Below w1.heap.size w1 wx)
      case first =>
        cases a4 with
        | none =>
          go_wp2_with fail
          go_meet
          case rel => exact ⟨none, c4, rfl, HY1.out, HS1.out, HI1.out, HB1.out⟩
        | some ad =>
          go_wp2_with (first
            | (at_make; refine wpList_make_full _ rfl _ _ 23 rfl wc.heap.size 3 i3 (.int .i64 0) 1 Try.underlying23 hi3 hz30 hz31 _ _ _ _ q rfl rfl rfl rfl (by rw [hz32]; omega) (by unfold maxLen; omega) (Nat.le_refl _) ?_; intro w2 hown hgrow; obtain ⟨cur, hcur, hlen⟩ := made_row hown; have hb2 := made_below hgrow; have HC := hid hcur; clear hown hgrow hcur)
            | (refine wpList_copy_splice rfl (.tmp 69) (.tmp 70) 23 23 rfl 3 Try.underlying23 size3 _ _ _ _ _ _ rfl rfl wc.heap.size 0 cur.toList 3 (by simpa using HC.out) (ys.map (Value.int .i64)) (copy_leni HY1.out) (copy_fromi HY1.out hb2) (by simp [hlen, HY1.out.length]) (ints_oneCell .i64 ys) wc.heap.size wc hb2 (Nat.le_refl _) ?_; intro w3 hw3 hb3))
          go_meet
          case rel => exact ⟨some ⟨wc.heap.size, 0, none⟩, q, rfl, copied_ints HY1.out hw3.out hlen, HS1.out.later hb3, HI1.out.later hb3, HB1.out.trans (hb3.mono hsz1)⟩
      case rest =>
        obtain ⟨a4', c4', rfl, hy', hs', hi', hb'⟩ := hcut
        have HS := hid hs'
        have HI := hid hi'
        have HY := hid hy'
        have HB := hid hb'
        clear hs' hi' hy' hb' HS1 HI1 HY1 HB1 hnil4 hi9 hz90 hz91 hz92 hi3 hz30 hz31 hz32
        have hwc : w1.heap.size ≤ wc.heap.size := HB.out.size
        go_wp2_with fail
        go_loop [14, 15] (fun t i => ∃ (j : Nat) (T : Int), j ≤ n ∧ i = .int .i64 j ∧ t = .int .i64 T ∧ 0 ≤ T ∧ T ≤ 1114112) (fun _ i => n - (intOf i).toNat)
        case atStart => exact ⟨0, _, by omega, rfl, rfl, by omega, by omega⟩
        case round =>
          obtain ⟨j, T, hj, rfl, rfl, hT0, hT1⟩ := hrel
          by_cases hlt : j < n
          · obtain ⟨b, o, rfl, hrow⟩ := HS.out.lies.resolve_left (by omega)
            have hcell := hrow.cell j (by rw [HS.out.length]; exact hlt)
            have hss := HSZ.out _ (getD_mem ss j (by rw [HS.out.length]; exact hlt))
            obtain ⟨p, hp⟩ : ∃ p, p = ss.getD j ByteArray.empty := ⟨_, rfl⟩
            rw [← hp] at hcell hss
            clear hp hrow
            go_wp2_with fail
            · go_ret
              exact ⟨rfl, HB.out⟩
            · go_round
              case rel => exact ⟨j + 1, _, by omega, by go_num, rfl, by omega, by omega⟩
              case measure => simp [intOf]; omega
          · by_cases hT : T ≤ 1048576
            rotate_left
            · go_wp2_with fail
              go_ret
              exact ⟨rfl, HB.out⟩
            go_wp2_with fail
            clear hlt hj
            refine (exact_any a0' n c0' ss wc HS.out (by unfold maxLen; omega) (fun s hs => by have := HSZ.out s hs; unfold maxLen; omega)).mono ?_
            rintro e w2 ⟨⟨bb, rfl⟩, hw2⟩
            subst hw2
            cases bb
            · go_wp2_with fail
              go_ret
              exact ⟨rfl, HB.out⟩
            go_wp2_with fail
            refine (asc_any a3' l c3' zs _ HI.out (by unfold maxLen; omega)).mono ?_
            rintro e w3 ⟨⟨bb, rfl, hasc⟩, hb3⟩
            have HB3 := hid (HB.out.trans (hb3.mono hwc))
            cases bb
            · clear hasc hb3
              go_wp2_with fail
              go_ret
              exact ⟨rfl, HB3.out⟩
            have HA := hid (hasc rfl)
            have HS3 := hid (HS.out.later hb3)
            have HI3 := hid (HI.out.later hb3)
            have HY3 := hid (HY.out.later hb3)
            clear hasc hb3 HS HI HY HB
            go_wp2_with fail
            refine (asc_any a4' q c4' ys _ HY3.out (by unfold maxLen; omega)).mono ?_
            rintro e w4 ⟨⟨bb, rfl, hasc⟩, hb4⟩
            have HB4 := hid (HB3.out.trans (hb4.mono HB3.out.size))
            cases bb
            · clear hasc hb4
              go_wp2_with fail
              go_ret
              exact ⟨rfl, HB4.out⟩
            have HAY := hid (hasc rfl)
            have HS4 := hid (HS3.out.later hb4)
            have HI4 := hid (HI3.out.later hb4)
            have HY4 := hid (HY3.out.later hb4)
            clear hasc hb4 HS3 HI3 HY3 HB3
            by_cases hf0 : f < 0
            · go_wp2_with fail
              go_ret
              exact ⟨rfl, HB4.out⟩
            by_cases hf1 : (n : Int) < f
            · go_wp2_with fail
              go_ret
              exact ⟨rfl, HB4.out⟩
            go_upto_region 30 with (fail)
            go_cut [134] (fun s134 wx => (∃ bb, s134 = .bool bb) ∧ wx = w4)
            case first =>
              by_cases hfn : f < (n : Int)
              · obtain ⟨i, rfl⟩ : ∃ i : Nat, f = i := ⟨f.toNat, by omega⟩
                obtain ⟨b, o, rfl, hrow⟩ := HS4.out.lies.resolve_left (by omega)
                have hcell := hrow.cell i (by rw [HS4.out.length]; omega)
                obtain ⟨p, hp⟩ : ∃ p, p = ss.getD i ByteArray.empty := ⟨_, rfl⟩
                rw [← hp] at hcell
                clear hp hrow
                go_wp2_with fail
                refine (takes_any p m _).mono ?_
                rintro e w5 ⟨rfl, hw5⟩
                subst hw5
                obtain ⟨t, ht⟩ : ∃ t, takesB p m = t := ⟨_, rfl⟩
                rw [ht]
                clear ht
                go_wp2_with fail
                go_meet
                case rel => exact ⟨⟨_, rfl⟩, rfl⟩
              · go_wp2_with fail
                go_meet
                case rel => exact ⟨⟨_, rfl⟩, rfl⟩
            case rest =>
              obtain ⟨⟨bb, rfl⟩, hwc⟩ := hcut
              subst hwc
              cases bb
              rotate_left
              · go_wp2_with fail
                go_ret
                exact ⟨rfl, HB4.out⟩
              have hml : l ≤ maxLen := by unfold maxLen; omega
              have hmq : q ≤ maxLen := by unfold maxLen; omega
              go_wp2_with fail
              refine (least_any a0' a3' n c0' l c3' ss m zs f _ HS4.out HI4.out hml HA.out.nonneg).mono ?_
              rintro e w5 ⟨rfl, hw5⟩
              subst hw5
              obtain ⟨U, hU⟩ : ∃ U, U = least (tk ss m) n zs f := ⟨_, rfl⟩
              rw [← hU]
              have HU := hid hU
              clear hU
              go_wp2_with fail
              refine (least_any a0' a4' n c0' q c4' ss m ys U _ HS4.out HY4.out hmq HAY.out.nonneg).mono ?_
              rintro e w6 ⟨rfl, hw6⟩
              subst hw6
              obtain ⟨W, hW⟩ : ∃ W, W = least (tk ss m) n ys U := ⟨_, rfl⟩
              rw [← hW]
              obtain ⟨V, hV⟩ : ∃ V, V = tryL (tk ss m) zs f := ⟨_, rfl⟩
              obtain ⟨X, hX⟩ : ∃ X, X = tryL (tk ss m) ys f := ⟨_, rfl⟩
              have E1 : Hid (tryL (tk ss m) ys V = W) := hid (by rw [hV, hW, HU.out]; exact try_two (tk ss m) n zs ys f HA.out HAY.out (by omega) (by omega))
              have E2 : Hid (tryL (tk ss m) zs X = W) := hid (by rw [hX, hW, HU.out]; exact try_swap (tk ss m) n zs ys f HA.out HAY.out (by omega) (by omega))
              have hVb := tryL_bounds (tk ss m) zs f HA.out.nonneg (by omega)
              rw [← hV] at hVb
              have hXb := tryL_bounds (tk ss m) ys f HAY.out.nonneg (by omega)
              rw [← hX] at hXb
              have HV := hid hV
              have HX := hid hX
              clear hW hV hX
              go_wp2_with fail
              refine (newSearch a0' n c0' ss m f _ HS4.out hn).mono ?_
              rintro e w7 ⟨sb, rb, cb, rfl, hsb, hse7, hb7⟩
              have HT := hid (Rows3.mk HS4.out HI4.out HY4.out hsb hb7)
              have HSE7 := hid hse7
              have HBW := hid (HB4.out.trans (hb7.mono HB4.out.size))
              have hle := Nat.le_trans HB4.out.size hsb
              clear hse7 hb7 hsb HS4 HI4 HY4
              go_wp2_with fail
              refine (searchTry sb rb cb n l c3' a3' ss m f zs w7 HSE7.out (by omega) hml HA.out.nonneg HT.out.under).mono ?_
              rintro e w8 ⟨rfl, hse8, hb8⟩
              rw [← HV.out] at hse8
              have HT8 := hid (HT.out.later hb8)
              have HBW8 := hid (HBW.out.trans (hb8.mono hle))
              have HSE8 := hid hse8
              clear hse8 hb8 HT HBW HSE7
              go_wp2_with fail
              refine (searchTry sb rb cb n q c4' a4' ss m V ys w8 HSE8.out (by omega) hmq HAY.out.nonneg HT8.out.under2).mono ?_
              rintro e w9 ⟨rfl, hse9, hb9⟩
              rw [E1.out] at hse9
              have HT9 := hid (HT8.out.later hb9)
              have HBW9 := hid (HBW8.out.trans (hb9.mono hle))
              have HSE9 := hid hse9
              clear hse9 hb9 HT8 HBW8 HSE8
              go_wp2_with fail
              refine (searchFound sb W w9 HSE9.out.found).mono ?_
              rintro e w10 ⟨rfl, hw10⟩
              subst hw10
              go_wp2_with fail
              refine (newSearch a0' n c0' ss m f _ (HT9.out.paths.later HT9.out.below) hn).mono ?_
              rintro e w11 ⟨sb2, rb2, cb2, rfl, hsb2, hse11, hb11⟩
              have HT11 := hid (Rows3.mk (HT9.out.paths.later HT9.out.below) (HT9.out.cands.later HT9.out.below) (HT9.out.cands2.later HT9.out.below) hsb2 hb11)
              have HSE11 := hid hse11
              have HBW11 := hid (HBW9.out.trans (hb11.mono HBW9.out.size))
              have hle2 := Nat.le_trans HBW9.out.size hsb2
              clear hse11 hb11 hsb2 HT9 HBW9 HSE9
              go_wp2_with fail
              refine (searchTry sb2 rb2 cb2 n q c4' a4' ss m f ys w11 HSE11.out (by omega) hmq HAY.out.nonneg HT11.out.under2).mono ?_
              rintro e w12 ⟨rfl, hse12, hb12⟩
              rw [← HX.out] at hse12
              have HT12 := hid (HT11.out.later hb12)
              have HBW12 := hid (HBW11.out.trans (hb12.mono hle2))
              have HSE12 := hid hse12
              clear hse12 hb12 HT11 HBW11 HSE11
              go_wp2_with fail
              refine (searchTry sb2 rb2 cb2 n l c3' a3' ss m X zs w12 HSE12.out (by omega) hml HA.out.nonneg HT12.out.under).mono ?_
              rintro e w13 ⟨rfl, hse13, hb13⟩
              rw [E2.out] at hse13
              have HBW13 := hid (HBW12.out.trans (hb13.mono hle2))
              have HSE13 := hid hse13
              clear hse13 hb13 HT12 HBW12 HSE12
              go_wp2_with fail
              refine (searchFound sb2 W w13 HSE13.out.found).mono ?_
              rintro e w14 ⟨rfl, hw14⟩
              subst hw14
              go_wp2_with fail
              go_ret
              exact ⟨rfl, HBW13.out⟩

set_option maxHeartbeats 1000000 in
set_option maxRecDepth 100000 in
theorem free_big (a0 a3 a4 : Option Addr) (n c0 l c3 q c4 : Nat) (ss : List ByteArray) (m : ByteArray) (f : Int) (w : World) (hb : 65536 < n ∨ 65536 < m.size ∨ 65536 < l ∨ 65536 < q)
    (C1 : Hid (Calls Try.prog 13 #[.slice a0 n c0, .string m, .int .i64 f, .slice a3 l c3, .slice a4 q c4] w fun e w' => TellsBytes e ss ∧ w' = w)) :
    Calls Try.prog 4 #[.slice a0 n c0, .string m, .int .i64 f, .slice a3 l c3, .slice a4 q c4] w fun e w' => e = .returned (.bool true) ∧ Below w.heap.size w w' := by
  have HBG := hid hb
  clear hb
  go_enter Try.func4, Try.ntmps4
  go_wp2_with fail
  refine C1.out.mono ?_
  rintro e w1 ⟨⟨bb, rfl, hby⟩, rfl⟩
  clear hby C1
  cases bb
  · go_wp2_with fail
    go_ret
    exact ⟨rfl, Below.refl _ _⟩
  by_cases h1 : (65536 : Int) < (n : Int)
  · go_wp2_with fail
    go_ret
    exact ⟨rfl, Below.refl _ _⟩
  by_cases h2 : (65536 : Int) < (m.size : Int)
  · go_wp2_with fail
    go_ret
    exact ⟨rfl, Below.refl _ _⟩
  by_cases h3 : (65536 : Int) < (l : Int)
  · go_wp2_with fail
    go_ret
    exact ⟨rfl, Below.refl _ _⟩
  have h4 : (65536 : Int) < (q : Int) := by have := HBG.out; omega
  go_wp2_with fail
  go_ret
  exact ⟨rfl, Below.refl _ _⟩

theorem free_walk (a0 a3 a4 : Option Addr) (n c0 l c3 q c4 : Nat) (ss : List ByteArray) (m : ByteArray) (f : Int) (zs ys : List Int) (w : World) (hs : SSl w a0 n ss) (hi : ISl w a3 l zs) (hy : ISl w a4 q ys)
    (hm : m.size ≤ maxLen) (hn : n ≤ maxLen) (hl : l ≤ maxLen) (hq : q ≤ maxLen) (hsz : ∀ s ∈ ss, s.size ≤ maxLen) :
    Calls Try.prog 4 #[.slice a0 n c0, .string m, .int .i64 f, .slice a3 l c3, .slice a4 q c4] w fun e w' => e = .returned (.bool true) ∧ Below w.heap.size w w' := by
  have C1 := hid (bytes13_any a0 a3 a4 n c0 l c3 q c4 ss m f w hs hn hsz hm hl hq)
  by_cases hb : 65536 < n ∨ 65536 < m.size ∨ 65536 < l ∨ 65536 < q
  · exact free_big a0 a3 a4 n c0 l c3 q c4 ss m f w hb C1
  · exact free_main a0 a3 a4 n c0 l c3 q c4 ss m f zs ys w hs hi hy (by omega) (by omega) (by omega) (by omega) C1
end Go.Proofs.Qxb6614085a

import Derived.Test.Qxb6614085aC
import Derived.Test.Qxb6614085aE
import Derived.Deep.RegionHeld3
namespace Go.Proofs.Qxb6614085a
open Go.RowKit

/-- A search lies at block sb, its rules and its call below it. -/
structure SearchAt (w : World) (sb rb cb n : Nat) (ss : List ByteArray) (m : ByteArray) (f : Int) : Prop where
  lt : sb < w.heap.size
  rules : w.cell? ⟨sb, 0, none⟩ = some (.slice (some ⟨rb, 0, none⟩) n n)
  call : w.cell? ⟨sb, 1, none⟩ = some (.pointer (some ⟨cb, 0, none⟩))
  found : w.cell? ⟨sb, 2, none⟩ = some (.int .i64 f)
  free : w.frozen? ⟨sb, 2, none⟩ = false
  each : ∀ i, i < n → RuleAt w sb rb (i * 4) (ss.getD i ByteArray.empty)
  callAt : CallAt w sb cb m

theorem SearchAt.later {w w' : World} {sb rb cb n : Nat} {ss : List ByteArray} {m : ByteArray} {f : Int} (h : SearchAt w sb rb cb n ss m f) (hb : Below w.heap.size w w') : SearchAt w' sb rb cb n ss m f :=
  ⟨Nat.lt_of_lt_of_le h.lt hb.size, cell_later h.rules hb, cell_later h.call hb, cell_later h.found hb, by rw [hb.frozen (p := ⟨sb, 2, none⟩) h.lt]; exact h.free,
    fun i hi => (h.each i hi).later (hb.mono (Nat.le_of_lt h.lt)), h.callAt.later (hb.mono (Nat.le_of_lt h.lt))⟩

theorem SearchAt.stored {w : World} {sb rb cb n : Nat} {ss : List ByteArray} {m : ByteArray} {f : Int} (h : SearchAt w sb rb cb n ss m f) (f' : Int) : SearchAt (w.setCell ⟨sb, 2, none⟩ (.int .i64 f')) sb rb cb n ss m f' :=
  have hb : Below sb w (w.setCell ⟨sb, 2, none⟩ (.int .i64 f')) := (Below.refl sb w).setCell (p := ⟨sb, 2, none⟩) (Nat.le_refl _) _
  ⟨by simpa using h.lt, by rw [World.cell?_setCell_other _ _ _ _ (by simp)]; exact h.rules, by rw [World.cell?_setCell_other _ _ _ _ (by simp)]; exact h.call, World.cell?_setCell_same _ _ _ h.found, by rw [World.frozen?_setCell]; exact h.free,
    fun i hi => (h.each i hi).later hb, h.callAt.later hb⟩

set_option maxHeartbeats 1000000 in
theorem try_some (sb rb cb n b o len cap : Nat) (ss : List ByteArray) (m : ByteArray) (f : Int) (zs : List Int) (w : World) (h : SearchAt w sb rb cb n ss m f) (hfn : f ≤ n) (hl : zs.length = len) (hm : len ≤ maxLen) (hz : ∀ z ∈ zs, 0 ≤ z) (hr : IRow w b o zs) (hbs : b < sb) :
    Calls Try.prog 14 #[.pointer (some ⟨sb, 0, none⟩), .slice (some ⟨b, o, none⟩) len cap] w fun e w' => e = .returned (.tuple #[]) ∧ SearchAt w' sb rb cb n ss m (tryL (tk ss m) zs f) ∧ Below sb w w' := by
  have hc : ∀ wr, Below sb w wr → ∀ k, k < len → wr.cell? ⟨b, o + k, none⟩ = some (.int .i64 (zs.getD k 0)) := fun wr hb k hk => by
    rw [hb.cell (p := ⟨b, o + k, none⟩) hbs]; exact hr.cell k (by omega)
  have HC := hid hc
  have HL := hid hl
  have HZ := hid hz
  have HS := hid h
  clear hc hr hl hz h
  unfold maxLen at hm
  go_enter Try.func14, Try.ntmps14
  go_wp2
  go_loopw [8] (fun i wr => ∃ k : Nat, k ≤ len ∧ i = .int .i64 k ∧ SearchAt wr sb rb cb n ss m f ∧ tryL (tk ss m) (zs.drop k) f = tryL (tk ss m) zs f ∧ Below sb w wr) (fun i _ => len - (intOf i).toNat)
  case atStart => exact ⟨0, by omega, rfl, HS.out, rfl, Below.refl _ _⟩
  case round =>
    obtain ⟨k, hk, rfl, hS, hT, hbel⟩ := hrel
    have HT := hid hT
    have HB := hid hbel
    have HSr := hid hS
    have c2 := hS.found
    clear hT hbel
    by_cases hlt : k < len
    · have hcell := HC.out wr HB.out k hlt
      have hz0 := HZ.out _ (getI_mem zs k (by rw [HL.out]; exact hlt))
      have hdr : zs.drop k = zs.getD k 0 :: zs.drop (k + 1) := by
        rw [List.drop_eq_getElem_cons (by rw [HL.out]; exact hlt)]; simp [HL.out, hlt]
      obtain ⟨z, hzz⟩ : ∃ z, z = zs.getD k 0 := ⟨_, rfl⟩
      rw [← hzz] at hcell hz0 hdr
      have HD : Hid (tryL (tk ss m) (z :: zs.drop (k + 1)) f = tryL (tk ss m) zs f) := by rw [← hdr]; exact HT.out
      clear hzz hdr HT
      obtain ⟨j, rfl⟩ : ∃ j : Nat, z = j := ⟨z.toNat, by omega⟩
      by_cases h1 : f ≤ (j : Int)
      · clear hS
        go_wp2_with fail
        (try simp only [Exit.inBlock, Exit.then])
        refine bodyPost_ret (results_none rfl _ _ _) rfl ?_
        refine ⟨rfl, ?_, HB.out⟩
        have := HD.out
        rw [tryL, if_pos h1] at this
        rw [← this]; exact HSr.out
      · have c0 := hS.rules
        have c1 := hS.call
        clear hS
        have b1 : (0 : Int) ≤ (j : Int) := by omega
        have b2 : (j : Int) < (n : Int) := by omega
        go_wp2_with fail
        have hm15 := match15 sb rb (j * 4) cb (ss.getD j ByteArray.empty) m wr.drew (Nat.le_of_lt HSr.out.lt) ((HSr.out.each j (by omega)).later ((Below.refl _ _).drew)) (HSr.out.callAt.later ((Below.refl _ _).drew))
        obtain ⟨t, ht⟩ : ∃ t, takesB (ss.getD j ByteArray.empty) m = t := ⟨_, rfl⟩
        rw [ht] at hm15
        have HM := hid hm15
        have HTT : Hid (tk ss m j = t) := ht
        clear hm15 ht
        go_region_held3 (fun w' => w'.cell? ⟨sb, 0, none⟩ = some (.slice (some ⟨rb, 0, none⟩) n n) ∧ w'.cell? ⟨sb, 1, none⟩ = some (.pointer (some ⟨cb, 0, none⟩))) (go_keep) (first | (go_at_call 15; refine HM.out.mono ?_; rintro e w1 ⟨rfl, hb1⟩; have d0 := cell_later (w := wr.drew) c0 hb1; have d1 := cell_later (w := wr.drew) c1 hb1; have HB1 := hid hb1; clear hb1))
        have hS1 := (HSr.out.later ((Below.refl wr.heap.size wr).drew)).later HB1.out
        have e2 := hS1.found
        have e3 := hS1.free
        have HS1 := hid hS1
        have HB2 := hid ((HB.out.drew).trans (HB1.out.mono (Nat.le_of_lt HSr.out.lt)))
        clear hS1 c0 c1 c2 d0 d1
        cases t
        · go_wp2_with fail
          go_roundw
          case rel =>
            refine ⟨k + 1, by omega, by go_num, HS1.out, ?_, HB2.out⟩
            have := HD.out
            rw [tryL, if_neg (by omega), if_neg (by rw [Int.toNat_natCast, HTT.out]; simp)] at this
            exact this
          case measure => simp [intOf]; omega
        · go_wp2_with fail
          (try simp only [Exit.inBlock, Exit.then])
          refine bodyPost_ret (results_none rfl _ _ _) rfl ?_
          refine ⟨rfl, ?_, HB2.out.setCell (Nat.le_refl _) _⟩
          have := HD.out
          rw [tryL, if_neg (by omega), if_pos (by rw [Int.toNat_natCast, HTT.out])] at this
          rw [← this]
          exact HS1.out.stored _
    · clear hS
      go_wp2_with fail
      go_end0
      refine ⟨rfl, ?_, HB.out⟩
      have := HT.out
      rw [show k = zs.length from by rw [HL.out]; omega, List.drop_length] at this
      rw [← this]; exact HSr.out

set_option maxHeartbeats 400000 in
theorem try_none (sb cap : Nat) (a : Option Addr) (w : World) :
    Calls Try.prog 14 #[.pointer (some ⟨sb, 0, none⟩), .slice a 0 cap] w fun e w' => e = .returned (.tuple #[]) ∧ w' = w := by
  go_enter Try.func14, Try.ntmps14
  go_wp2
  go_loop [8] (fun i => i = .int .i64 0) (fun _ => 0)
  case atStart => rfl
  case round =>
    subst hrel
    go_wp2
    go_end0
    exact ⟨rfl, rfl⟩

/-- A slice of ints that lies below block B. -/
structure IUnder (w : World) (B : Nat) (a : Option Addr) (n : Nat) (zs : List Int) : Prop where
  isl : ISl w a n zs
  lt : n = 0 ∨ ∃ b o, a = some ⟨b, o, none⟩ ∧ b < B

theorem try_any (sb rb cb n len cap : Nat) (a : Option Addr) (ss : List ByteArray) (m : ByteArray) (f : Int) (zs : List Int) (w : World) (h : SearchAt w sb rb cb n ss m f) (hfn : f ≤ n) (hm : len ≤ maxLen) (hz : ∀ z ∈ zs, 0 ≤ z) (hi : IUnder w sb a len zs) :
    Calls Try.prog 14 #[.pointer (some ⟨sb, 0, none⟩), .slice a len cap] w fun e w' => e = .returned (.tuple #[]) ∧ SearchAt w' sb rb cb n ss m (tryL (tk ss m) zs f) ∧ Below sb w w' := by
  rcases hi.isl.lies with rfl | ⟨b, o, rfl, hr⟩
  · have : zs = [] := List.length_eq_zero_iff.1 hi.isl.length
    subst this
    refine (try_none sb cap a w).mono ?_
    rintro e w' ⟨rfl, rfl⟩
    exact ⟨rfl, h, Below.refl _ _⟩
  · rcases hi.lt with rfl | ⟨b', o', e, hlt⟩
    · have : zs = [] := List.length_eq_zero_iff.1 hi.isl.length
      subst this
      refine (try_none sb cap _ w).mono ?_
      rintro e w' ⟨rfl, rfl⟩
      exact ⟨rfl, h, Below.refl _ _⟩
    · simp at e
      obtain ⟨rfl, rfl⟩ := e
      exact try_some sb rb cb n b o len cap ss m f zs w h hfn hi.isl.length hm hz hr hlt

set_option maxHeartbeats 400000 in
theorem searchTry (sb rb cb n len cap : Nat) (a : Option Addr) (ss : List ByteArray) (m : ByteArray) (f : Int) (zs : List Int) (w : World) (h : SearchAt w sb rb cb n ss m f) (hfn : f ≤ n) (hm : len ≤ maxLen) (hz : ∀ z ∈ zs, 0 ≤ z) (hi : IUnder w sb a len zs) :
    Calls Try.prog 11 #[.pointer (some ⟨sb, 0, none⟩), .slice a len cap] w fun e w' => e = .returned (.tuple #[]) ∧ SearchAt w' sb rb cb n ss m (tryL (tk ss m) zs f) ∧ Below sb w w' := by
  have C := hid (try_any sb rb cb n len cap a ss m f zs w h hfn hm hz hi)
  clear h hfn hm hz hi
  go_enter Try.func11, Try.ntmps11
  go_wp2_with fail
  refine C.out.mono ?_
  rintro e w1 ⟨rfl, h1, hb⟩
  have H1 := hid h1
  have HB := hid hb
  clear h1 hb
  go_wp2_with fail
  go_end0
  exact ⟨rfl, H1.out, HB.out⟩

set_option maxHeartbeats 400000 in
theorem searchFound (sb : Nat) (f : Int) (w : World) (h : w.cell? ⟨sb, 2, none⟩ = some (.int .i64 f)) :
    Calls Try.prog 12 #[.pointer (some ⟨sb, 0, none⟩)] w fun e w' => e = .returned (.int .i64 f) ∧ w' = w := by
  go_enter Try.func12, Try.ntmps12
  go_wp2
  go_ret
  exact ⟨rfl, rfl⟩
end Go.Proofs.Qxb6614085a

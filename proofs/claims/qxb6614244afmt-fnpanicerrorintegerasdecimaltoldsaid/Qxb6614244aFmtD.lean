import Derived.Test.Qxb6614244aFmtB
import Derived.Laws.BytesArg
namespace Go.Proofs.Qxb6614244aFmt
open Go.RowKit

/-- Bytes as cells. -/
def bc (l : List UInt8) : List Value := l.map fun b => Value.int .u8 b.toNat

/-- The digits gathered so far lie from place i on; those that are still to come are u's. -/
structure Dig (w : World) (base g i u u0 : Nat) : Prop where
  ex : ∃ (xs : List Value) (D : List UInt8), w.ownsRow base 34 1 (.slice (some ⟨g, 0, none⟩) 20 20) 20 xs ∧ xs.drop i = bc D ∧ Lib.decDigits u0 = Lib.decDigits u ++ D
  bound : u < 10 ^ i
  lo : 1 ≤ i
  hi : i ≤ 20

/-- The digits all lie from place j on. -/
def Done (w : World) (base g j u0 : Nat) : Prop :=
  ∃ xs : List Value, w.ownsRow base 34 1 (.slice (some ⟨g, 0, none⟩) 20 20) 20 xs ∧ xs.drop j = bc (Lib.decDigits u0)

theorem digit_nat (u : Nat) : ((UInt8.ofNat (48 + u % 10)).toNat : Int) = 48 + (u : Int) % 10 := by
  have : (UInt8.ofNat (48 + u % 10)).toNat = 48 + u % 10 := by
    rw [UInt8.toNat_ofNat']; omega
  rw [this]; omega

theorem drop_set (xs : List Value) (j : Nat) (v : Value) (h : j < xs.length) : (xs.set j v).drop j = v :: xs.drop (j + 1) := by
  rw [List.drop_eq_getElem_cons (by simpa using h)]
  simp [List.drop_set]

theorem dec_small (u : Nat) (h : u < 10) : Lib.decDigits u = [UInt8.ofNat (48 + u % 10)] := by
  rw [Lib.decDigits_one h, Nat.mod_eq_of_lt h]
theorem dec_big (u : Nat) (h : ¬ u < 10) : Lib.decDigits u = Lib.decDigits (u / 10) ++ [UInt8.ofNat (48 + u % 10)] := by
  rw [Lib.decDigits, dif_neg h]

theorem Dig.next {w : World} {base g j u u0 : Nat} (h : Dig w base g (j + 1) u u0) (hu : ¬ u < 10) : Dig (w.setCell ⟨g, j, none⟩ (.int .u8 (48 + (u : Int) % 10))) base g j (u / 10) u0 := by
  obtain ⟨xs, D, ho, hd, e⟩ := h.ex
  have hlen : xs.length = 20 := by simpa using ho.1
  have hhi := h.hi
  have hb := h.bound
  refine ⟨⟨xs.set j (.int .u8 (48 + (u : Int) % 10)), UInt8.ofNat (48 + u % 10) :: D, (ho.stored j _).1, ?_, ?_⟩, ?_, ?_, by omega⟩
  · rw [drop_set xs j _ (by omega), hd, ← digit_nat]; rfl
  · rw [e, dec_big u hu, List.append_assoc]; rfl
  · rw [Nat.pow_succ] at hb
    exact Nat.div_lt_of_lt_mul (by omega)
  · rcases Nat.eq_zero_or_pos j with rfl | hj
    · simp at hb; omega
    · exact hj

theorem Dig.last {w : World} {base g j u u0 : Nat} (h : Dig w base g (j + 1) u u0) (hu : u < 10) : Done (w.setCell ⟨g, j, none⟩ (.int .u8 (48 + (u : Int) % 10))) base g j u0 := by
  obtain ⟨xs, D, ho, hd, e⟩ := h.ex
  have hlen : xs.length = 20 := by simpa using ho.1
  have hhi := h.hi
  refine ⟨xs.set j (.int .u8 (48 + (u : Int) % 10)), (ho.stored j _).1, ?_⟩
  rw [drop_set xs j _ (by omega), hd, ← digit_nat, e, dec_small u hu]; rfl

theorem Dig.cell {w : World} {base g j u u0 : Nat} (h : Dig w base g (j + 1) u u0) : ∃ v, w.cell? ⟨g, j, none⟩ = some v ∧ w.frozen? ⟨g, j, none⟩ = false ∧ g < w.heap.size := by
  obtain ⟨xs, D, ho, _, _⟩ := h.ex
  have hlen : xs.length = 20 := by simpa using ho.1
  have hhi := h.hi
  exact ⟨xs[j]'(by omega), by rw [ho.cellAt j (by omega), List.getElem?_eq_getElem (by omega)], ho.frozenAt j, (ho.lt g rfl).2⟩

theorem nums_str (l : List UInt8) : strOfNums (l.map fun b => (b.toNat : Int)) = ⟨l.toArray⟩ := by
  apply ByteArray.ext
  apply Array.toList_inj.1
  simp only [strOfNums, List.map_map]
  rw [show ((fun n : Int => UInt8.ofNat n.toNat) ∘ fun b : UInt8 => (b.toNat : Int)) = id from funext fun b => by simp, List.map_id]

theorem Done.convert {w : World} {base g j u0 : Nat} (h : Done w base g j u0) (hj : j < 20) :
    (convert 22 9 (.slice (some ⟨g, j, none⟩) (20 - j) (20 - j))).run Tryf.prog w = .ok (.string ⟨(Lib.decDigits u0).toArray⟩) w := by
  obtain ⟨xs, ho, hd⟩ := h
  have hlen : xs.length = 20 := by simpa using ho.1
  have hdl : (Lib.decDigits u0).length = 20 - j := by
    have := congrArg List.length hd
    rw [List.length_drop, hlen] at this
    simpa [bc] using this.symm
  have := run_convert_bytes_arg (P := Tryf.prog) w 22 5 Tryf.underlying22 Tryf.underlying5 g j (20 - j) (20 - j) ((Lib.decDigits u0).map fun b => (b.toNat : Int)) (by simp [hdl]) (fun i hi => by
    rw [ho.cellAt (j + i) (by omega)]
    have e : xs[j + i]? = (xs.drop j)[i]? := by rw [List.getElem?_drop]
    rw [e, hd]
    have hi' : i < (Lib.decDigits u0).length := by omega
    simp [bc, hi']) 9 Tryf.underlying9
  rw [nums_str] at this
  exact this

theorem start_owns (w : World) (cur : Array Value) (hc : cur.size = 20) : (w.alloc (.cells cur 34)).ownsRow w.heap.size 34 1 (.slice (some ⟨w.heap.size, 0, none⟩) 20 20) 20 cur.toList :=
  ⟨by simpa using hc, .inr ⟨w.heap.size, 20, cur, rfl, Nat.le_refl _, heap_alloc_new w _, Nat.le_refl _, by unfold maxLen; omega, by simpa using hc, List.take_of_length_le (by simp [hc])⟩⟩

theorem Dig.start (w : World) (cur : Array Value) (hc : cur.size = 20) (u : Nat) (hu : u < 10 ^ 20) : Dig (w.alloc (.cells cur 34)) w.heap.size w.heap.size 20 u u :=
  ⟨⟨cur.toList, [], start_owns w cur hc, by rw [List.drop_eq_nil_of_le (by simp [hc])]; rfl, by simp⟩, hu, by omega, by omega⟩

theorem pow20 {u : Nat} (h : u ≤ 9223372036854775808) : u < 10 ^ 20 := by
  have : (10 : Nat) ^ 20 = 100000000000000000000 := rfl
  omega

theorem len34 : Tryf.prog.arrayLen 34 = 20 := by kernel_rfl
theorem arr34 : Tryf.prog.underlying 34 = some (.array (Tryf.prog.arrayLen 34) (Tryf.prog.elem 34)) := by kernel_rfl
theorem size34 (w : World) : (sizeOf (Tryf.prog.elem 34)).run Tryf.prog w = .ok 1 w := by kernel_rfl

theorem slice34 (g j : Nat) (hj : j < 20) (w : World) : (Instr.sliceAt 34 (.pointer (some ⟨g, 0, none⟩)) (some (.int .i64 (j : Int))) none none).run Tryf.prog w = .ok (.slice (some ⟨g, j, none⟩) (20 - j) (20 - j)) w := by
  rw [run_sliceAt_array_l w 34 ⟨g, 0, none⟩ arr34 .i64 (j : Int) (by omega) (by rw [len34]; omega), size34]
  show Result.ok (slicedAt _ _ _ _ _) w = _
  rw [len34, slicedAt, Int.toNat_natCast, if_neg (by omega), Nat.mul_one, Addr.add_lit, Nat.zero_add]

set_option maxHeartbeats 1000000 in
theorem itoa_pos (n : Int) (h0 : 0 ≤ n) (h1 : n ≤ 9223372036854775807) (w : World) :
    Calls Tryf.prog 9 #[.int .i64 n] w fun e w' => e = .returned (.string ⟨(Lib.itoa n).toArray⟩) ∧ Below w.heap.size w w' := by
  obtain ⟨u0, rfl⟩ : ∃ u0 : Nat, n = u0 := ⟨n.toNat, by omega⟩
  have HI : Hid (Lib.itoa (u0 : Int) = Lib.decDigits u0) := by
    show Lib.itoa _ = _
    rw [Lib.itoa, if_neg (by omega), Int.toNat_natCast]
  go_enter Tryf.func9, Tryf.ntmps9
  go_wp2
  go_loopw [4, 6] (fun t i wr => ∃ (j u : Nat), i = .int .i64 ((j + 1 : Nat) : Int) ∧ t = .int .u64 (u : Int) ∧ u ≤ 9223372036854775808 ∧ j < 20 ∧ Dig wr w.heap.size w.heap.size (j + 1) u u0 ∧ Below w.heap.size w wr)
    (fun _ i _ => (intOf i).toNat)
  case atStart => exact ⟨19, u0, rfl, rfl, by omega, by omega, Dig.start w _ rfl u0 (pow20 (by omega)), (Below.refl _ _).alloc (Nat.le_refl _) _⟩
  case round =>
    obtain ⟨j, u, rfl, rfl, hu, hj, hdig, hbel⟩ := hrel
    have HD := hid hdig
    have HB := hid hbel
    clear hdig hbel
    obtain ⟨v, hc, hfz, hg⟩ := HD.out.cell
    by_cases hu10 : u < 10
    · have hq : ((u : Int) / 10 == 0) = true := by simp; omega
      have hdone := HD.out.last hu10
      have hcv := hdone.convert hj
      have hsl := slice34 w.heap.size j hj
      clear hdone
      go_wp2
      go_ret
      exact ⟨congrArg (fun l : List UInt8 => Ending.returned (.string ⟨l.toArray⟩)) HI.out.symm, HB.out.setCell (Nat.le_refl _) _⟩
    · have hq : ((u : Int) / 10 == 0) = false := by simp; omega
      have HN := hid (HD.out.next hu10)
      have hlo := HN.out.lo
      obtain ⟨i, rfl⟩ : ∃ i, j = i + 1 := ⟨j - 1, by omega⟩
      go_wp2
      go_roundw
      case rel => exact ⟨i, u / 10, rfl, by go_num, by omega, by omega, HN.out, HB.out.setCell (Nat.le_refl _) _⟩
      case measure => simp [intOf]; omega

theorem Done.short {w : World} {base g j u0 : Nat} (h : Done w base g j u0) (hj : j < 20) : (Lib.decDigits u0).length ≤ 20 := by
  obtain ⟨xs, ho, hd⟩ := h
  have hlen : xs.length = 20 := by simpa using ho.1
  have := congrArg List.length hd
  rw [List.length_drop, hlen] at this
  simp [bc] at this
  omega

set_option maxHeartbeats 1000000 in
theorem itoa_neg (n : Int) (h0 : n < 0) (h1 : -9223372036854775808 ≤ n) (w : World) :
    Calls Tryf.prog 9 #[.int .i64 n] w fun e w' => e = .returned (.string ⟨(Lib.itoa n).toArray⟩) ∧ Below w.heap.size w w' := by
  obtain ⟨u0, hu0⟩ : ∃ u0 : Nat, u0 = n.natAbs := ⟨_, rfl⟩
  have hub : u0 ≤ 9223372036854775808 := by omega
  have HE : Hid (-(n + 1) + 1 = (u0 : Int)) := by show -(n + 1) + 1 = (u0 : Int); omega
  have HI : Hid (Lib.itoa n = 45 :: Lib.decDigits u0) := by
    show Lib.itoa _ = _
    rw [Lib.itoa, if_pos h0, hu0]
  clear hu0
  go_enter Tryf.func9, Tryf.ntmps9
  go_wp2
  go_loopw [4, 6] (fun t i wr => ∃ (j u : Nat), i = .int .i64 ((j + 1 : Nat) : Int) ∧ t = .int .u64 (u : Int) ∧ u ≤ 9223372036854775808 ∧ j < 20 ∧ Dig wr w.heap.size w.heap.size (j + 1) u u0 ∧ Below w.heap.size w wr)
    (fun _ i _ => (intOf i).toNat)
  case atStart => exact ⟨19, u0, rfl, congrArg (Value.int .u64) HE.out, hub, by omega, Dig.start w _ rfl u0 (pow20 hub), (Below.refl _ _).alloc (Nat.le_refl _) _⟩
  case round =>
    obtain ⟨j, u, rfl, rfl, hu, hj, hdig, hbel⟩ := hrel
    have HD := hid hdig
    have HB := hid hbel
    clear hdig hbel
    obtain ⟨v, hc, hfz, hg⟩ := HD.out.cell
    by_cases hu10 : u < 10
    · have hq : ((u : Int) / 10 == 0) = true := by simp; omega
      have hdone := HD.out.last hu10
      have hcv := hdone.convert hj
      have hsh := hdone.short hj
      have hsl := slice34 w.heap.size j hj
      obtain ⟨S, hS⟩ : ∃ S : ByteArray, S = ⟨(Lib.decDigits u0).toArray⟩ := ⟨_, rfl⟩
      rw [← hS] at hcv
      have hSs : S.size ≤ 20 := by rw [hS]; simpa [ByteArray.size] using hsh
      have HSS := hid hS
      clear hdone hsh hS
      go_wp2
      go_ret
      refine ⟨?_, HB.out.setCell (Nat.le_refl _) _⟩
      show Ending.returned (Value.string ((⟨#[45]⟩ : ByteArray) ++ S)) = _
      rw [HI.out, HSS.out]
      refine congrArg (fun t => Ending.returned (Value.string t)) ?_
      apply ByteArray.ext
      rw [ByteArray.data_append]
      apply Array.toList_inj.1
      simp
    · have hq : ((u : Int) / 10 == 0) = false := by simp; omega
      have HN := hid (HD.out.next hu10)
      have hlo := HN.out.lo
      obtain ⟨i, rfl⟩ : ∃ i, j = i + 1 := ⟨j - 1, by omega⟩
      go_wp2
      go_roundw
      case rel => exact ⟨i, u / 10, rfl, by go_num, by omega, by omega, HN.out, HB.out.setCell (Nat.le_refl _) _⟩
      case measure => simp [intOf]; omega

theorem itoa_any (n : Int) (hw : (Lit.int .i64 n).wf = true) (w : World) :
    Calls Tryf.prog 9 #[.int .i64 n] w fun e w' => ∃ S : ByteArray, e = .returned (.string S) ∧ S = ⟨(Lib.itoa n).toArray⟩ ∧ S.size ≤ 21 ∧ Below w.heap.size w w' := by
  have hb : -9223372036854775808 ≤ n ∧ n ≤ 9223372036854775807 := by
    simp [Lit.wf, IntKind.min, IntKind.max, IntKind.signed, IntKind.bits] at hw
    omega
  have hl := Go.Extern.FmtText.itoa_length_le hw
  have hsz : (⟨(Lib.itoa n).toArray⟩ : ByteArray).size ≤ 21 := hl
  by_cases h : n < 0
  · refine (itoa_neg n h hb.1 w).mono ?_
    rintro e w' ⟨rfl, hbe⟩
    exact ⟨_, rfl, rfl, hsz, hbe⟩
  · refine (itoa_pos n (by omega) hb.2 w).mono ?_
    rintro e w' ⟨rfl, hbe⟩
    exact ⟨_, rfl, rfl, hsz, hbe⟩
end Go.Proofs.Qxb6614244aFmt

import Derived.Test.Qxb6608715aFrame
import Derived.Test.Qxb6608715aE
namespace Go.Proofs.Qxb6608715a
open Go.ChangeShapes Go.WideShapes Go.ChangeAt Go.RowKit
open Go.ChangeMaps (open_string shut_string)

theorem more_walk (a : Option Addr) (len cap : Nat) (ss : List ByteArray) (x : ByteArray) (w : World) (hlc : len ≤ cap) (h : IsStrs w a len ss) (hx : x.size ≤ maxLen) :
    Calls Try.prog 5 #[.slice a len cap, .string x] w fun e w' => e = .returned (.bool true) ∧ Below w.heap.size w w' := by
  rcases h.lies with h0 | ⟨b, o, rfl, hr⟩
  · subst h0
    exact more_short a 0 cap _ x w (by omega) (hid (bytes14_none a cap x w hx)) (hid (strs_none a cap w))
  · have C1 := hid (bytes14_some b o len cap ss x w hx h.length h.most h.sizes hr)
    have C2 := hid (strs_some b o len cap ss w h.length h.most h.sizes hr)
    by_cases h2 : len < 2
    · exact more_short _ len cap _ x w h2 C1 C2
    · have hl := h.length
      obtain ⟨ss', s, rfl⟩ : ∃ ss' s, ss = ss' ++ [s] := by
        rcases List.eq_nil_or_concat ss with rfl | ⟨l, y, rfl⟩
        · simp at hl; omega
        · exact ⟨l, y, by simp⟩
      obtain ⟨m, rfl⟩ : ∃ m, len = m + 1 := ⟨len - 1, by omega⟩
      have hl' : ss'.length = m := by simpa using hl
      exact more_main b o m cap ss' s x w hx hl' (by omega) hr C1 C2

set_option maxRecDepth 100000 in
theorem more_lifted (os : Os) (started : os.Started) (H : Type) (enc : TypeId × Value → H) :
    ReturnsInHanded {} Try.checked os 5 .any (Rows.fnNamedOneSetMoreSpec.pre6 enc Try.prog Try.f5 Rows.fnNamedOneSetMoreRow.domain false) (Rows.fnNamedOneSetMoreSpec.post enc Try.prog Try.f5 false true false false) := by
  refine returnsInHanded_of_change (C := Try.checked) own started (by kernel_rfl) Try.func5
    (ChangeSpec.witness6 (enc := enc) (C := Try.checked) false ⟨#[], #[.slice none 0 0, .string ByteArray.empty], []⟩ 8 (by kernel_rfl) (by kernel_rfl) (by kernel_rfl) (by kernel_rfl)) ?_
  intro W base args ds gs before hval0 hW hcnd _
  have hval : ∀ (j : Nat) t v, Try.f5.params[j]? = some t → args[j]? = some v → Value.okWide Try.prog W .any base t v := hval0
  have hW' := hW
  obtain ⟨p, q, hA0, hV, rfl, hfz, hnd⟩ := hW
  have hA : DataW.TrodAll enc Try.prog W 0 (fun _ => true) true Try.f5.params.toList args.toList ds p := hA0
  rw [Try.params5] at hA hval
  obtain ⟨v0, vs0, d0, ds0, p0, q0, hargs, rfl, rfl, h0, r0⟩ := trodAll_cons hA
  obtain ⟨v1, vs1, d1, ds1, p1, q1, rfl, rfl, rfl, h1, r1⟩ := trodAll_cons r0
  obtain ⟨rfl, rfl, rfl⟩ := trodAll_nil r1
  obtain rfl : args = #[v0, v1] := by cases args; simp_all
  obtain ⟨rfl, rfl⟩ := trodVars_none hV
  obtain ⟨a0, len0, cap0, rfl⟩ := okWide_slice Try.underlying26 (hval 0 26 v0 rfl rfl)
  have k0 := h0
  have lt0 : ∀ x ∈ p0, x.block < W.heap.size := by obtain ⟨m, hm⟩ := k0; exact DataW.trod_lt m _ _ _ hm
  obtain ⟨hlc, ss, w0⟩ : len0 ≤ cap0 ∧ ∃ ss, IsStrs W a0 len0 ss := by
    obtain ⟨fuel, hf⟩ := h0
    exact isStrs_of (by simpa [Value.cells] using hf)
  obtain ⟨s1, rfl, rfl, rfl, ws1⟩ := open_string Try.underlying9 (hval 1 9 v1 rfl rfl) h1
  clear hA0 hval0
  refine (more_walk a0 len0 cap0 ss s1 W hlc w0 ws1).mono fun e W' ⟨he, bel⟩ => ?_
  subst he
  exact ⟨_, rfl, _, _, _, [], _, [], hW', trodAll_mk1 (shut_bool Try.underlying4 _), (trodAll_cons_mk (Below.trod laidOut (by kernel_rfl) (of_decide_eq_true (by kernel_rfl)) k0 bel lt0) (trodAll_cons_mk (shut_string Try.underlying9 ws1) trodAll_mk0)), rfl, bel.frame _, fun h => by cases h⟩

theorem more_over : Rows.fnNamedOneSetMoreRow.holds Try.pinned (OpenSpec.ofChange Rows.fnNamedOneSetMoreSpec) :=
  OpenClaim.holds_of_wide 5 Try.f5 rfl rfl rfl rfl rfl rfl rfl ⟨rfl, rfl, rfl, rfl, rfl⟩ rfl rfl rfl rfl rfl (by kernel_rfl) Try.func5 (by kernel_rfl)
    (of_decide_eq_true (by kernel_rfl)) (by unfold Func.isWrapper; first | (rw [if_pos (by decide +kernel)]; kernel_rfl) | (rw [if_neg (by decide +kernel)]; exact ⟨rfl, rfl⟩))
    (fun os started H enc _ => more_lifted os started H enc)

theorem named_one_set_more : Rows.FnNamedOneSetMoreSaid := more_over
end Go.Proofs.Qxb6608715a

import Derived.Test.Qxb6608715aFrame
import Derived.Test.Qxb6608715aH
namespace Go.Proofs.Qxb6608715a
open Go.ChangeShapes Go.WideShapes Go.ChangeAt Go.RowKit
open Go.ChangeMaps (open_string shut_string)

theorem cut_walk (a : Option Addr) (len cap : Nat) (ss : List ByteArray) (k : Int) (w : World) (h : IsStrs w a len ss) :
    Calls Try.prog 6 #[.slice a len cap, .int .i64 k] w fun e w' => e = .returned (.bool true) ∧ Below w.heap.size w w' := by
  have hmost : len ≤ 9223372036854775807 := by have := h.most; unfold maxLen at this; omega
  rcases h.lies with h0 | ⟨b, o, rfl, hr⟩
  · subst h0
    exact cut_short a 0 cap _ k w hmost (.inl (by omega)) (hid (bytes19_none a cap k w)) (hid (strs_none a cap w))
  · have C1 := hid (bytes19_some b o len cap ss k w h.length h.most h.sizes hr)
    have C2 := hid (strs_some b o len cap ss w h.length h.most h.sizes hr)
    by_cases h2 : len < 2 ∨ k < 1 ∨ (len : Int) - 2 < k
    · exact cut_short _ len cap _ k w hmost h2 C1 C2
    · have hl := h.length
      obtain ⟨ss', s, rfl⟩ : ∃ ss' s, ss = ss' ++ [s] := by
        rcases List.eq_nil_or_concat ss with rfl | ⟨l, y, rfl⟩
        · simp at hl; omega
        · exact ⟨l, y, by simp⟩
      obtain ⟨m, rfl⟩ : ∃ m, len = m + 1 := ⟨len - 1, by omega⟩
      obtain ⟨j, rfl⟩ : ∃ j : Nat, k = j := ⟨k.toNat, by omega⟩
      have hl' : ss'.length = m := by simpa using hl
      exact cut_main b o m j cap ss' s w hl' (by omega) (by omega) hr C1 C2

set_option maxRecDepth 100000 in
theorem cut_lifted (os : Os) (started : os.Started) (H : Type) (enc : TypeId × Value → H) :
    ReturnsInHanded {} Try.checked os 6 .any (Rows.fnNamedAtAnyCutSpec.pre6 enc Try.prog Try.f6 Rows.fnNamedAtAnyCutRow.domain false) (Rows.fnNamedAtAnyCutSpec.post enc Try.prog Try.f6 false true false false) := by
  refine returnsInHanded_of_change (C := Try.checked) own started (by kernel_rfl) Try.func6
    (ChangeSpec.witness6 (enc := enc) (C := Try.checked) false ⟨#[], #[.slice none 0 0, .int .i64 0], []⟩ 8 (by kernel_rfl) (by kernel_rfl) (by kernel_rfl) (by kernel_rfl)) ?_
  intro W base args ds gs before hval0 hW hcnd _
  have hval : ∀ (j : Nat) t v, Try.f6.params[j]? = some t → args[j]? = some v → Value.okWide Try.prog W .any base t v := hval0
  have hW' := hW
  obtain ⟨p, q, hA0, hV, rfl, hfz, hnd⟩ := hW
  have hA : DataW.TrodAll enc Try.prog W 0 (fun _ => true) true Try.f6.params.toList args.toList ds p := hA0
  rw [Try.params6] at hA hval
  obtain ⟨v0, vs0, d0, ds0, p0, q0, hargs, rfl, rfl, h0, r0⟩ := trodAll_cons hA
  obtain ⟨v1, vs1, d1, ds1, p1, q1, rfl, rfl, rfl, h1, r1⟩ := trodAll_cons r0
  obtain ⟨rfl, rfl, rfl⟩ := trodAll_nil r1
  obtain rfl : args = #[v0, v1] := by cases args; simp_all
  obtain ⟨rfl, rfl⟩ := trodVars_none hV
  obtain ⟨a0, len0, cap0, rfl⟩ := okWide_slice Try.underlying26 (hval 0 26 v0 rfl rfl)
  have k0 := h0
  have lt0 : ∀ x ∈ p0, x.block < W.heap.size := by obtain ⟨m, hm⟩ := k0; exact DataW.trod_lt m _ _ _ hm
  obtain ⟨_, ss, w0⟩ : len0 ≤ cap0 ∧ ∃ ss, IsStrs W a0 len0 ss := by
    obtain ⟨fuel, hf⟩ := h0
    exact isStrs_of (by simpa [Value.cells] using hf)
  obtain ⟨a1, rfl, rfl, rfl, w1⟩ := open_int Try.underlying3 (hval 1 3 v1 rfl rfl) h1
  clear hA0 hval0
  refine (cut_walk a0 len0 cap0 ss a1 W w0).mono fun e W' ⟨he, bel⟩ => ?_
  subst he
  exact ⟨_, rfl, _, _, _, [], _, [], hW', trodAll_mk1 (shut_bool Try.underlying4 _), (trodAll_cons_mk (Below.trod laidOut (by kernel_rfl) (of_decide_eq_true (by kernel_rfl)) k0 bel lt0) (trodAll_cons_mk (shut_int Try.underlying3 w1) trodAll_mk0)), rfl, bel.frame _, fun h => by cases h⟩

theorem cut_over : Rows.fnNamedAtAnyCutRow.holds Try.pinned (OpenSpec.ofChange Rows.fnNamedAtAnyCutSpec) :=
  OpenClaim.holds_of_wide 6 Try.f6 rfl rfl rfl rfl rfl rfl rfl ⟨rfl, rfl, rfl, rfl, rfl⟩ rfl rfl rfl rfl rfl (by kernel_rfl) Try.func6 (by kernel_rfl)
    (of_decide_eq_true (by kernel_rfl)) (by unfold Func.isWrapper; first | (rw [if_pos (by decide +kernel)]; kernel_rfl) | (rw [if_neg (by decide +kernel)]; exact ⟨rfl, rfl⟩))
    (fun os started H enc _ => cut_lifted os started H enc)

theorem named_at_any_cut : Rows.FnNamedAtAnyCutSaid := cut_over
end Go.Proofs.Qxb6608715a

/-
  The plain mathematics of the seat b6614085a: what the search and the law's own reckoning compute, over lists.
-/
namespace Go.Proofs.Qxb6614085a

/-- The least of 'cur' and of every place of the list whose rule takes the call. 'n': how many rules there are. -/
def least (t : Nat → Bool) (n : Int) : List Int → Int → Int
  | [], cur => cur
  | c :: r, cur => least t n r (if c < cur ∧ c < n ∧ t c.toNat = true then c else cur)

/-- What one 'try' leaves in 'found'. -/
def tryL (t : Nat → Bool) : List Int → Int → Int
  | [], f => f
  | c :: r, f => if f ≤ c then f else if t c.toNat = true then c else tryL t r f

/-- No element is negative and none is less than the one before. -/
def Asc : List Int → Prop
  | [] => True
  | c :: r => 0 ≤ c ∧ (∀ d ∈ r, c ≤ d) ∧ Asc r

theorem Asc.tail {c : Int} {r : List Int} (h : Asc (c :: r)) : Asc r := h.2.2
theorem Asc.nonneg : ∀ {l : List Int}, Asc l → ∀ c ∈ l, 0 ≤ c
  | c :: r, h, d, hd => by
    rcases List.mem_cons.1 hd with rfl | hd
    · exact h.1
    · exact h.tail.nonneg d hd

theorem Asc.take : ∀ {l : List Int} (k : Nat), Asc l → Asc (l.take k)
  | [], k, h => by simp [Asc]
  | c :: r, 0, h => by simp [Asc]
  | c :: r, k + 1, h => ⟨h.1, fun d hd => h.2.1 d (List.mem_of_mem_take hd), h.tail.take k⟩

theorem Asc.drop : ∀ {l : List Int} (k : Nat), Asc l → Asc (l.drop k)
  | [], k, h => by simp [Asc]
  | c :: r, 0, h => h
  | c :: r, k + 1, h => h.tail.drop k

theorem Asc.snoc : ∀ {l : List Int} {x : Int}, Asc l → 0 ≤ x → (∀ d ∈ l, d ≤ x) → Asc (l ++ [x])
  | [], x, _, hx, _ => ⟨hx, by simp, trivial⟩
  | c :: r, x, h, hx, hl => ⟨h.1, fun d hd => by
      rcases List.mem_append.1 hd with hd | hd
      · exact h.2.1 d hd
      · rw [List.mem_singleton.1 hd]; exact hl c (List.mem_cons_self ..), h.tail.snoc hx (fun d hd => hl d (List.mem_cons_of_mem _ hd))⟩

theorem least_append (t : Nat → Bool) (n : Int) : ∀ (a b : List Int) (cur : Int), least t n (a ++ b) cur = least t n b (least t n a cur)
  | [], b, cur => rfl
  | c :: a, b, cur => by simp only [List.cons_append, least]; exact least_append t n a b _

theorem least_le (t : Nat → Bool) (n : Int) : ∀ (a : List Int) (cur : Int), least t n a cur ≤ cur
  | [], cur => Int.le_refl _
  | c :: a, cur => by
    simp only [least]
    have h := least_le t n a (if c < cur ∧ c < n ∧ t c.toNat = true then c else cur)
    split at h
    · rw [if_pos (by assumption)]; omega
    · rw [if_neg (by assumption)]; exact h

theorem least_low (t : Nat → Bool) (n : Int) : ∀ (a : List Int) (cur : Int), ∀ c ∈ a, c < n → t c.toNat = true → least t n a cur ≤ c
  | [], cur, c, hc, _, _ => by cases hc
  | d :: a, cur, c, hc, hn, ht => by
    simp only [least]
    rcases List.mem_cons.1 hc with rfl | hc
    · have h := least_le t n a (if c < cur ∧ c < n ∧ t c.toNat = true then c else cur)
      refine Int.le_trans h ?_
      split
      · exact Int.le_refl _
      · rename_i hne
        have : ¬ c < cur := fun h => hne ⟨h, hn, ht⟩
        omega
    · exact least_low t n a _ c hc hn ht

theorem least_mem (t : Nat → Bool) (n : Int) : ∀ (a : List Int) (cur : Int), least t n a cur = cur ∨ (least t n a cur ∈ a ∧ least t n a cur < n ∧ t (least t n a cur).toNat = true)
  | [], cur => .inl rfl
  | c :: a, cur => by
    simp only [least]
    by_cases h : c < cur ∧ c < n ∧ t c.toNat = true
    · rw [if_pos h]
      rcases least_mem t n a c with e | ⟨h1, h2, h3⟩
      · rw [e]; exact .inr ⟨List.mem_cons_self .., h.2.1, h.2.2⟩
      · exact .inr ⟨List.mem_cons_of_mem _ h1, h2, h3⟩
    · rw [if_neg h]
      rcases least_mem t n a cur with e | ⟨h1, h2, h3⟩
      · exact .inl e
      · exact .inr ⟨List.mem_cons_of_mem _ h1, h2, h3⟩

/-- It hangs on the elements alone, not on their order or number. -/
theorem least_congr (t : Nat → Bool) (n : Int) (a b : List Int) (cur : Int) (h : ∀ c, c ∈ a ↔ c ∈ b) : least t n a cur = least t n b cur := by
  have key : ∀ a b : List Int, (∀ c, c ∈ a → c ∈ b) → least t n b cur ≤ least t n a cur := by
    intro a b h
    rcases least_mem t n a cur with e | ⟨h1, h2, h3⟩
    · rw [e]; exact least_le t n b cur
    · exact least_low t n b cur _ (h _ h1) h2 h3
  exact Int.le_antisymm (key b a fun c => (h c).2) (key a b fun c => (h c).1)

theorem least_stays (t : Nat → Bool) (n : Int) : ∀ (a : List Int) (cur : Int), (∀ c ∈ a, cur ≤ c) → least t n a cur = cur
  | [], cur, _ => rfl
  | c :: a, cur, h => by
    have hc := h c (List.mem_cons_self ..)
    simp only [least]
    rw [if_neg (fun k => by omega)]
    exact least_stays t n a cur fun d hd => h d (List.mem_cons_of_mem _ hd)

/-- One 'try' over an ascending list leaves the least. -/
theorem tryL_least (t : Nat → Bool) (n : Int) : ∀ (a : List Int) (f : Int), Asc a → f ≤ n → tryL t a f = least t n a f
  | [], f, _, _ => rfl
  | c :: a, f, h, hf => by
    simp only [tryL, least]
    by_cases h1 : f ≤ c
    · rw [if_pos h1, if_neg (fun k => by omega)]
      exact (least_stays t n a f fun d hd => Int.le_trans h1 (h.2.1 d hd)).symm
    · rw [if_neg h1]
      by_cases h2 : t c.toNat = true
      · rw [if_pos h2, if_pos ⟨by omega, by omega, h2⟩]
        exact (least_stays t n a c h.2.1).symm
      · rw [if_neg h2, if_neg (fun k => h2 k.2.2)]
        exact tryL_least t n a f h.tail hf

theorem tryL_bounds (t : Nat → Bool) : ∀ (a : List Int) (f : Int), (∀ c ∈ a, 0 ≤ c) → 0 ≤ f → 0 ≤ tryL t a f ∧ tryL t a f ≤ f
  | [], f, _, h => ⟨h, Int.le_refl _⟩
  | c :: a, f, h, hf => by
    have hc := h c (List.mem_cons_self ..)
    simp only [tryL]
    split
    · exact ⟨hf, Int.le_refl _⟩
    · split
      · exact ⟨hc, by omega⟩
      · exact tryL_bounds t a f (fun d hd => h d (List.mem_cons_of_mem _ hd)) hf

/-- Twice is once. -/
theorem try_twice (t : Nat → Bool) (n : Int) (a : List Int) (f : Int) (h : Asc a) (hf : f ≤ n) (h0 : 0 ≤ f) : tryL t a (tryL t a f) = least t n a f := by
  have hb := tryL_bounds t a f h.nonneg h0
  rw [tryL_least t n a _ h (by omega), tryL_least t n a f h hf, ← least_append]
  exact least_congr t n _ _ f fun c => by simp

/-- Cut anywhere. -/
theorem try_cut (t : Nat → Bool) (n : Int) (a : List Int) (k : Nat) (f : Int) (h : Asc a) (hf : f ≤ n) (h0 : 0 ≤ f) : tryL t (a.drop k) (tryL t (a.take k) f) = least t n a f := by
  have hb := tryL_bounds t (a.take k) f (h.take k).nonneg h0
  rw [tryL_least t n _ _ (h.drop k) (by omega), tryL_least t n _ f (h.take k) hf, ← least_append, List.take_append_drop]

/-- Either order. -/
theorem try_two (t : Nat → Bool) (n : Int) (a b : List Int) (f : Int) (ha : Asc a) (hb : Asc b) (hf : f ≤ n) (h0 : 0 ≤ f) : tryL t b (tryL t a f) = least t n b (least t n a f) := by
  have hba := tryL_bounds t a f ha.nonneg h0
  rw [tryL_least t n b _ hb (by omega), tryL_least t n a f ha hf]

theorem try_swap (t : Nat → Bool) (n : Int) (a b : List Int) (f : Int) (ha : Asc a) (hb : Asc b) (hf : f ≤ n) (h0 : 0 ≤ f) : tryL t a (tryL t b f) = least t n b (least t n a f) := by
  rw [try_two t n b a f hb ha hf h0, ← least_append, ← least_append]
  exact least_congr t n _ _ f fun c => by simp [or_comm]
end Go.Proofs.Qxb6614085a

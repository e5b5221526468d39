namespace Go.Proofs.Qxb6616377a
set_option linter.unusedSimpArgs false

/-- How many of the numbers lie below x. -/
def lbd (l : List Int) (x : Int) : Nat := l.countP (fun y => decide (y < x))
/-- Is x among them? -/
def fnd (l : List Int) (x : Int) : Bool := decide (x ∈ l)
/-- Strictly increasing. -/
def Inc (l : List Int) : Prop := ∀ a b, a < b → b < l.length → l.getD a 0 < l.getD b 0

theorem getD_lt {l : List Int} {i : Nat} (h : i < l.length) : l.getD i 0 = l[i] := by simp [List.getD, h]

theorem countP_at (p : Int → Bool) : ∀ (l : List Int) (i : Nat), i ≤ l.length → (∀ t, t < i → p (l.getD t 0) = true) → (∀ t, i ≤ t → t < l.length → p (l.getD t 0) = false) → l.countP p = i
  | [], i, hi, _, _ => by simp at hi; simp [hi]
  | a :: r, 0, _, _, h2 => by
    rw [List.countP_eq_zero]
    intro x hx
    obtain ⟨t, ht, rfl⟩ := List.getElem_of_mem hx
    have := h2 t (Nat.zero_le _) ht
    rw [getD_lt ht] at this
    simp [this]
  | a :: r, i + 1, hi, h1, h2 => by
    have ha : p a = true := by simpa using h1 0 (Nat.succ_pos _)
    rw [List.countP_cons_of_pos ha, countP_at p r i (by simpa using hi) (fun t ht => by simpa using h1 (t + 1) (by omega)) (fun t h3 h4 => by simpa using h2 (t + 1) (by omega) (by simpa using h4))]

/-- What the search leaves: below i all are smaller, from i on none is. -/
theorem lbd_eq {l : List Int} {x : Int} {i : Nat} (hi : i ≤ l.length) (h1 : ∀ t, t < i → l.getD t 0 < x) (h2 : ∀ t, i ≤ t → t < l.length → x ≤ l.getD t 0) : lbd l x = i :=
  countP_at _ l i hi (fun t ht => decide_eq_true (h1 t ht)) (fun t h3 h4 => decide_eq_false (by have := h2 t h3 h4; omega))

/-- Each strictly increasing list has such an i. -/
theorem lbd_spec {l : List Int} (x : Int) (hs : Inc l) : lbd l x ≤ l.length ∧ (∀ t, t < lbd l x → l.getD t 0 < x) ∧ (∀ t, lbd l x ≤ t → t < l.length → x ≤ l.getD t 0) := by
  -- the first place that is not smaller
  have key : ∀ k, k ≤ l.length → (∀ t, t < k → l.getD t 0 < x) ∨ ∃ i, i < k ∧ (∀ t, t < i → l.getD t 0 < x) ∧ x ≤ l.getD i 0 := by
    intro k
    induction k with
    | zero => intro _; exact .inl (fun t ht => absurd ht (Nat.not_lt_zero _))
    | succ k ih =>
      intro hk
      rcases ih (by omega) with h | ⟨i, h1, h2, h3⟩
      · by_cases hx : l.getD k 0 < x
        · exact .inl (fun t ht => by rcases Nat.lt_succ_iff_lt_or_eq.1 ht with h' | rfl <;> first | exact h t h' | exact hx)
        · exact .inr ⟨k, by omega, h, by omega⟩
      · exact .inr ⟨i, by omega, h2, h3⟩
  rcases key l.length (Nat.le_refl _) with h | ⟨i, h1, h2, h3⟩
  · have e : lbd l x = l.length := lbd_eq (Nat.le_refl _) h (fun t h3 h4 => by omega)
    rw [e]
    exact ⟨Nat.le_refl _, h, fun t h3 h4 => by omega⟩
  · have hge : ∀ t, i ≤ t → t < l.length → x ≤ l.getD t 0 := by
      intro t ht htl
      rcases Nat.lt_or_eq_of_le ht with h' | rfl
      · have := hs i t h' htl; omega
      · exact h3
    have e : lbd l x = i := lbd_eq (by omega) h2 hge
    rw [e]
    exact ⟨by omega, h2, hge⟩

theorem fnd_iff {l : List Int} {x : Int} (hs : Inc l) : fnd l x = true ↔ (lbd l x < l.length ∧ l.getD (lbd l x) 0 = x) := by
  obtain ⟨h0, h1, h2⟩ := lbd_spec x hs
  simp only [fnd, decide_eq_true_eq]
  constructor
  · intro hm
    obtain ⟨t, ht, e⟩ := List.getElem_of_mem hm
    rw [← getD_lt ht] at e
    have hge : lbd l x ≤ t := by
      rcases Nat.lt_or_ge t (lbd l x) with h | h
      · have := h1 t h; omega
      · exact h
    refine ⟨by omega, ?_⟩
    have a1 := h2 (lbd l x) (Nat.le_refl _) (by omega)
    rcases Nat.lt_or_eq_of_le hge with h | h
    · have := hs _ _ h ht; omega
    · rw [h]; exact e
  · rintro ⟨h3, h4⟩
    rw [getD_lt h3] at h4
    rw [← h4]
    exact List.getElem_mem h3

theorem fnd_eq {l : List Int} {x : Int} (hs : Inc l) : fnd l x = (decide (lbd l x < l.length) && decide (l.getD (lbd l x) 0 = x)) := by
  rw [Bool.eq_iff_iff, fnd_iff hs]; simp
theorem take_snoc_getD (l : List Int) (k : Nat) (h : k < l.length) : l.take (k + 1) = l.take k ++ [l.getD k 0] := by
  rw [List.take_succ_eq_append_getElem h, getD_lt h]

theorem lbd_snoc (l : List Int) (k : Nat) (x : Int) (h : k < l.length) : lbd (l.take (k + 1)) x = lbd (l.take k) x + if l.getD k 0 < x then 1 else 0 := by
  rw [take_snoc_getD l k h, lbd, List.countP_append, List.countP_singleton]
  by_cases h1 : l.getD k 0 < x
  · simp only [h1, decide_true, if_true, lbd]
  · simp only [h1, decide_false, if_false, lbd, Bool.false_eq_true]

theorem fnd_snoc (l : List Int) (k : Nat) (x : Int) (h : k < l.length) : fnd (l.take (k + 1)) x = (fnd (l.take k) x || (l.getD k 0 == x)) := by
  rw [take_snoc_getD l k h, Bool.eq_iff_iff]
  simp only [fnd, List.mem_append, List.mem_singleton, Bool.or_eq_true, decide_eq_true_eq, beq_iff_eq]
  constructor
  · rintro (h | h)
    · exact .inl h
    · exact .inr h.symm
  · rintro (h | h)
    · exact .inl h
    · exact .inr h.symm
end Go.Proofs.Qxb6616377a

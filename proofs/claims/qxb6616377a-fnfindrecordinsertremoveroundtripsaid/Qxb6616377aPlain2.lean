import Derived.Test.Qxb6616377aPlain
namespace Go.Proofs.Qxb6616377a
set_option linter.unusedSimpArgs false

/-- Of the first k numbers all but the one at place i. -/
def rst (l : List Int) (i k : Nat) : List Int := (l.take k).take i ++ (l.take k).drop (i + 1)
theorem rst_zero (l : List Int) (i : Nat) : rst l i 0 = [] := by simp [rst]
theorem rst_hit (l : List Int) (i : Nat) (h : i < l.length) : rst l i (i + 1) = rst l i i := by
  unfold rst
  rw [take_snoc_getD l i h]
  have hl : (l.take i).length = i := by simp; omega
  generalize l.take i = p at hl
  rw [List.take_append_of_le_length (by omega), List.drop_of_length_le (l := p ++ _) (by simp; omega), List.drop_of_length_le (l := p) (by omega)]
theorem rst_miss (l : List Int) (i k : Nat) (h : k < l.length) (hne : k ≠ i) : rst l i (k + 1) = rst l i k ++ [l.getD k 0] := by
  unfold rst
  rw [take_snoc_getD l k h]
  have hl : (l.take k).length = k := by simp; omega
  generalize l.take k = p at hl
  rcases Nat.lt_or_ge k i with h1 | h1
  · rw [List.take_of_length_le (l := p ++ _) (by simp; omega), List.drop_of_length_le (l := p ++ _) (by simp; omega), List.take_of_length_le (l := p) (by omega), List.drop_of_length_le (l := p) (by omega)]
    simp
  · rw [List.take_append_of_le_length (by omega), List.drop_append_of_le_length (by omega)]
    simp
theorem rst_len (l : List Int) (i k : Nat) : (rst l i k).length ≤ k := by
  simp [rst]; omega
theorem rst_len_eq (l : List Int) (i : Nat) (h : i < l.length) : (rst l i l.length).length = l.length - 1 := by
  simp [rst]; omega
theorem rst_getD (l : List Int) (i t : Nat) (h : i < l.length) : (rst l i l.length).getD t 0 = if t < i then l.getD t 0 else l.getD (t + 1) 0 := by
  unfold rst
  rw [List.take_of_length_le (Nat.le_refl _)]
  simp only [List.getD_eq_getElem?_getD, List.getElem?_append, List.length_take, Nat.min_eq_left (Nat.le_of_lt h)]
  by_cases ht : t < i
  · simp [ht]
  · simp only [ht, if_false, List.getElem?_drop]
    rw [show i + 1 + (t - i) = t + 1 by omega]

/-- The first k numbers with x put in at place i (i ≤ k). -/
def insTo (l : List Int) (i : Nat) (x : Int) (k : Nat) : List Int := l.take i ++ [x] ++ (l.take k).drop i
theorem insTo_start (l : List Int) (i : Nat) (x : Int) : insTo l i x i = l.take i ++ [x] := by
  simp [insTo]
theorem insTo_step (l : List Int) (i k : Nat) (x : Int) (h : k < l.length) (hik : i ≤ k) : insTo l i x (k + 1) = insTo l i x k ++ [l.getD k 0] := by
  unfold insTo
  rw [take_snoc_getD l k h, List.drop_append_of_le_length (by simp; omega)]
  simp
theorem insTo_len (l : List Int) (i k : Nat) (x : Int) (h : k ≤ l.length) (hik : i ≤ k) : (insTo l i x k).length = k + 1 := by
  simp [insTo]; omega
theorem insTo_getD (l : List Int) (i t : Nat) (x : Int) (h : i ≤ l.length) : (insTo l i x l.length).getD t 0 = if t < i then l.getD t 0 else if t = i then x else l.getD (t - 1) 0 := by
  unfold insTo
  rw [List.take_of_length_le (Nat.le_refl l.length), List.append_assoc]
  simp only [List.getD_eq_getElem?_getD, List.getElem?_append, List.length_take, Nat.min_eq_left h]
  by_cases ht : t < i
  · simp [ht]
  · simp only [ht, if_false, List.length_singleton]
    by_cases he : t = i
    · subst he; simp
    · simp only [he, if_false]
      rw [if_neg (by omega), List.getElem?_drop, show i + (t - i - 1) = t - 1 by omega]

theorem rst_law {l : List Int} {x : Int} {i : Nat} (hs : Inc l) (hf : fnd l x = true) (hi : lbd l x = i) :
    i < l.length ∧ l.getD i 0 = x ∧ Inc (rst l i l.length) ∧ lbd (rst l i l.length) x = i ∧ fnd (rst l i l.length) x = false := by
  obtain ⟨h1, h2⟩ := (fnd_iff hs).1 hf
  obtain ⟨_, h3, h4⟩ := lbd_spec x hs
  rw [hi] at h1 h2 h3 h4
  have hlen := rst_len_eq l i h1
  have inc : Inc (rst l i l.length) := by
    intro a b hab hb
    rw [hlen] at hb
    rw [rst_getD l i a h1, rst_getD l i b h1]
    split <;> split
    · exact hs a b hab (by omega)
    · exact hs a (b + 1) (by omega) (by omega)
    · omega
    · exact hs (a + 1) (b + 1) (by omega) (by omega)
  have hl : lbd (rst l i l.length) x = i := by
    refine lbd_eq (by rw [hlen]; omega) (fun t ht => ?_) (fun t h5 h6 => ?_)
    · rw [rst_getD l i t h1, if_pos ht]; exact h3 t ht
    · rw [rst_getD l i t h1, if_neg (by omega)]; rw [hlen] at h6; exact h4 (t + 1) (by omega) (by omega)
  refine ⟨h1, h2, inc, hl, ?_⟩
  rw [fnd_eq inc, hl, hlen]
  by_cases h7 : i < l.length - 1
  · have h8 := hs i (i + 1) (by omega) (by omega)
    rw [rst_getD l i i h1, if_neg (by omega)]
    have : ¬ l.getD (i + 1) 0 = x := by omega
    simp only [this, decide_false, Bool.and_false]
  · simp only [h7, decide_false, Bool.false_and]

theorem ins_law {l : List Int} {x : Int} {i : Nat} (hs : Inc l) (hf : fnd l x = false) (hi : lbd l x = i) :
    i ≤ l.length ∧ Inc (insTo l i x l.length) ∧ lbd (insTo l i x l.length) x = i ∧ fnd (insTo l i x l.length) x = true := by
  obtain ⟨h0, h3, h4⟩ := lbd_spec x hs
  have hne := fnd_eq (x := x) hs
  rw [hf, hi] at hne
  rw [hi] at h0 h3 h4
  have hgt : ∀ t, i ≤ t → t < l.length → x < l.getD t 0 := by
    intro t h5 h6
    have h7 := h4 i (Nat.le_refl _) (by omega)
    have h8 : ¬ l.getD i 0 = x := by
      intro e
      rw [decide_eq_true (show i < l.length by omega), decide_eq_true e] at hne
      cases hne
    rcases Nat.lt_or_eq_of_le h5 with h | h
    · have := hs i t h h6; omega
    · rw [← h]; omega
  have hlen : (insTo l i x l.length).length = l.length + 1 := insTo_len l i l.length x (Nat.le_refl _) h0
  have inc : Inc (insTo l i x l.length) := by
    intro a b hab hb
    rw [hlen] at hb
    rw [insTo_getD l i a x h0, insTo_getD l i b x h0]
    by_cases ha : a < i
    · rw [if_pos ha]
      by_cases hb1 : b < i
      · rw [if_pos hb1]; exact hs a b hab (by omega)
      · rw [if_neg hb1]
        by_cases hb2 : b = i
        · rw [if_pos hb2]; exact h3 a ha
        · rw [if_neg hb2]; exact hs a (b - 1) (by omega) (by omega)
    · rw [if_neg ha, if_neg (by omega : ¬ b < i), if_neg (by omega : ¬ b = i)]
      by_cases ha2 : a = i
      · rw [if_pos ha2]; exact hgt (b - 1) (by omega) (by omega)
      · rw [if_neg ha2]; exact hs (a - 1) (b - 1) (by omega) (by omega)
  have hl : lbd (insTo l i x l.length) x = i := by
    refine lbd_eq (by rw [hlen]; omega) (fun t ht => ?_) (fun t h5 h6 => ?_)
    · rw [insTo_getD l i t x h0, if_pos ht]; exact h3 t ht
    · rw [insTo_getD l i t x h0, if_neg (by omega)]
      split
      · omega
      · rw [hlen] at h6; have := hgt (t - 1) (by omega) (by omega); omega
  refine ⟨h0, inc, hl, ?_⟩
  rw [fnd_iff inc, hl, hlen, insTo_getD l i i x h0]
  exact ⟨by omega, by simp⟩
end Go.Proofs.Qxb6616377a

/- THE PLAIN MODEL: counts, sums, levels of bits. No Go in sight. -/
namespace Go.Proofs.Qxb6616080a

/-! THE PLAIN MODEL: the search's state as functions; no Go in sight. -/

def upd {α : Type} (f : Nat → α) (i : Nat) (x : α) : Nat → α := fun j => if j = i then x else f j
theorem upd_self {α : Type} (f : Nat → α) (i : Nat) (x : α) : upd f i x i = x := by simp [upd]
theorem upd_ne {α : Type} (f : Nat → α) {i j : Nat} (x : α) (h : j ≠ i) : upd f i x j = f j := by simp [upd, h]

/-- How many of the first n fit. -/
def cnt : Nat → (Nat → Bool) → Nat
  | 0, _ => 0
  | n + 1, p => cnt n p + if p n then 1 else 0
def sumIf : Nat → (Nat → Bool) → Nat
  | 0, _ => 0
  | n + 1, p => sumIf n p + if p n then n else 0
def tot : Nat → (Nat → Int) → Int
  | 0, _ => 0
  | n + 1, f => tot n f + f n
def xorOf : Nat → (Nat → Nat) → Nat
  | 0, _ => 0
  | n + 1, f => xorOf n f ^^^ f n

theorem cnt_le (n : Nat) (p : Nat → Bool) : cnt n p ≤ n := by
  induction n with
  | zero => exact Nat.le_refl _
  | succ n ih => simp only [cnt]; split <;> omega
theorem cnt_congr {n : Nat} {p q : Nat → Bool} (h : ∀ j, j < n → p j = q j) : cnt n p = cnt n q := by
  induction n with
  | zero => rfl
  | succ n ih => simp only [cnt]; rw [ih (fun j hj => h j (by omega)), h n (by omega)]
theorem sumIf_congr {n : Nat} {p q : Nat → Bool} (h : ∀ j, j < n → p j = q j) : sumIf n p = sumIf n q := by
  induction n with
  | zero => rfl
  | succ n ih => simp only [sumIf]; rw [ih (fun j hj => h j (by omega)), h n (by omega)]
theorem sumIf_le (n : Nat) (p : Nat → Bool) : sumIf n p ≤ n * n := by
  induction n with
  | zero => simp [sumIf]
  | succ n ih =>
    simp only [sumIf]
    have : (n + 1) * (n + 1) = n * n + n + n + 1 := by rw [Nat.add_mul, Nat.mul_add]; omega
    split <;> omega
theorem tot_congr {n : Nat} {p q : Nat → Int} (h : ∀ j, j < n → p j = q j) : tot n p = tot n q := by
  induction n with
  | zero => rfl
  | succ n ih => simp only [tot]; rw [ih (fun j hj => h j (by omega)), h n (by omega)]
theorem xorOf_congr {n : Nat} {p q : Nat → Nat} (h : ∀ j, j < n → p j = q j) : xorOf n p = xorOf n q := by
  induction n with
  | zero => rfl
  | succ n ih => simp only [xorOf]; rw [ih (fun j hj => h j (by omega)), h n (by omega)]

/-- One more fits. -/
theorem cnt_one {n i : Nat} {p q : Nat → Bool} (hi : i < n) (hp : p i = false) (hq : q i = true) (h : ∀ j, j < n → j ≠ i → q j = p j) : cnt n q = cnt n p + 1 := by
  induction n with
  | zero => omega
  | succ n ih =>
    simp only [cnt]
    by_cases e : i = n
    · subst e
      rw [hp, hq, cnt_congr (fun j hj => h j (by omega) (by omega))]
      simp
    · rw [ih (by omega) (fun j hj hne => h j (by omega) hne), h n (by omega) (by omega)]
      omega
theorem sumIf_one {n i : Nat} {p q : Nat → Bool} (hi : i < n) (hp : p i = false) (hq : q i = true) (h : ∀ j, j < n → j ≠ i → q j = p j) : sumIf n q = sumIf n p + i := by
  induction n with
  | zero => omega
  | succ n ih =>
    simp only [sumIf]
    by_cases e : i = n
    · subst e
      rw [hp, hq, sumIf_congr (fun j hj => h j (by omega) (by omega))]
      simp
    · rw [ih (by omega) (fun j hj hne => h j (by omega) hne), h n (by omega) (by omega)]
      omega
theorem tot_one {n i : Nat} {p q : Nat → Int} (hi : i < n) (h : ∀ j, j < n → j ≠ i → q j = p j) : tot n q = tot n p + (q i - p i) := by
  induction n with
  | zero => omega
  | succ n ih =>
    simp only [tot]
    by_cases e : i = n
    · subst e
      rw [tot_congr (fun j hj => h j (by omega) (by omega))]
      omega
    · rw [ih (by omega) (fun j hj hne => h j (by omega) hne), h n (by omega) (by omega)]
      omega
theorem xorOf_one {n i : Nat} {p q : Nat → Nat} (hi : i < n) (h : ∀ j, j < n → j ≠ i → q j = p j) : xorOf n q = xorOf n p ^^^ (p i ^^^ q i) := by
  induction n with
  | zero => omega
  | succ n ih =>
    simp only [xorOf]
    by_cases e : i = n
    · subst e
      rw [xorOf_congr (fun j hj => h j (by omega) (by omega))]
      rw [Nat.xor_assoc, ← Nat.xor_assoc (p i), Nat.xor_self, Nat.zero_xor]
    · rw [ih (by omega) (fun j hj hne => h j (by omega) hne), h n (by omega) (by omega)]
      simp only [Nat.xor_assoc]
      congr 1
      rw [← Nat.xor_assoc (p i), Nat.xor_comm (p i ^^^ q i) (p n)]
theorem xorOf_zero {n : Nat} {f : Nat → Nat} (h : ∀ j, j < n → f j = 0) : xorOf n f = 0 := by
  induction n with
  | zero => rfl
  | succ n ih => simp only [xorOf]; rw [ih (fun j hj => h j (by omega)), h n (by omega)]; rfl
theorem xorOf_lt {n : Nat} {f : Nat → Nat} (h : ∀ j, j < n → f j < 2 ^ 64) : xorOf n f < 2 ^ 64 := by
  induction n with
  | zero => simp [xorOf]
  | succ n ih => simp only [xorOf]; exact Nat.xor_lt_two_pow (ih (fun j hj => h j (by omega))) (h n (by omega))

/-! The levels of bits. -/
def clr (w k : Nat) : Nat := w ^^^ (w &&& 2 ^ k)
theorem testBit_clr (w k j : Nat) : (clr w k).testBit j = (w.testBit j && decide (j ≠ k)) := by
  unfold clr
  rw [Nat.testBit_xor, Nat.testBit_and]
  by_cases h : j = k
  · subst h; simp
  · rw [Nat.testBit_two_pow_of_ne (fun e => h e.symm)]; simp [h]
theorem testBit_set (w k j : Nat) : (w ||| 2 ^ k).testBit j = (w.testBit j || decide (j = k)) := by
  rw [Nat.testBit_or]
  by_cases h : j = k
  · subst h; simp
  · rw [Nat.testBit_two_pow_of_ne (fun e => h e.symm)]; simp [h]

def newWord (b : Bool) (w k : Nat) : Nat := if b then w ||| 2 ^ k else clr w k
theorem testBit_newWord (b : Bool) (w k j : Nat) : (newWord b w k).testBit j = if j = k then b else w.testBit j := by
  unfold newWord
  cases b
  · simp only [Bool.false_eq_true, if_false]; rw [testBit_clr]; by_cases h : j = k <;> simp [h]
  · simp only [if_true]; rw [testBit_set]; by_cases h : j = k <;> simp [h]
theorem clr_lt {w k : Nat} (h : w < 2 ^ 64) : clr w k < 2 ^ 64 := by
  unfold clr
  exact Nat.xor_lt_two_pow h (Nat.lt_of_le_of_lt Nat.and_le_left h)
theorem newWord_lt {b : Bool} {w k : Nat} (h : w < 2 ^ 64) (hk : k < 64) : newWord b w k < 2 ^ 64 := by
  unfold newWord
  split
  · exact Nat.or_lt_two_pow h (Nat.pow_lt_pow_right (by omega) hk)
  · exact clr_lt h

def upd2 (f : Nat → Nat → Nat) (l i x : Nat) : Nat → Nat → Nat := fun a b => if a = l ∧ b = i then x else f a b

/-- 'chainSet.set' from level l on: fuel rounds. -/
def setLv (b : Bool) : Nat → Nat → Nat → (Nat → Nat → Nat) → Nat → Nat → Nat
  | 0, _, _, f => f
  | fuel + 1, l, c, f =>
    let w := f l (c / 64)
    let w' := newWord b w (c % 64)
    if (w' == 0) = (w == 0) then upd2 f l (c / 64) w' else setLv b fuel (l + 1) (c / 64) (upd2 f l (c / 64) w')

/-- The levels l, l + 1, .. (fuel of them) fit the first m of p. -/
def LevOk (ll : Nat → Nat) : Nat → Nat → Nat → (Nat → Bool) → (Nat → Nat → Nat) → Prop
  | 0, _, _, _, _ => True
  | fuel + 1, l, m, p, f => m ≤ 64 * ll l ∧ (∀ j, j < 64 * ll l → (f l (j / 64)).testBit (j % 64) = (decide (j < m) && p j)) ∧ LevOk ll fuel (l + 1) (ll l) (fun j => !(f l j == 0)) f

theorem LevOk.congr {ll : Nat → Nat} : ∀ {fuel l m : Nat} {p q : Nat → Bool} {f g : Nat → Nat → Nat}, LevOk ll fuel l m p f → (∀ j, j < m → p j = q j) → (∀ a, l ≤ a → ∀ i, i < ll a → f a i = g a i) → LevOk ll fuel l m q g
  | 0, _, _, _, _, _, _, _, _, _ => trivial
  | fuel + 1, l, m, p, q, f, g, ⟨h1, h2, h3⟩, hp, hf => by
    refine ⟨h1, fun j hj => ?_, ?_⟩
    · rw [← hf l (Nat.le_refl _) (j / 64) (by omega), h2 j hj]
      by_cases h : j < m
      · rw [hp j h]
      · simp [h]
    · exact LevOk.congr h3 (fun j hj => by rw [hf l (Nat.le_refl _) j hj]) (fun a ha i hi => hf a (by omega) i hi)

theorem setLv_below (b : Bool) : ∀ (fuel l c : Nat) (f : Nat → Nat → Nat) (a i : Nat), a < l → setLv b fuel l c f a i = f a i
  | 0, _, _, _, _, _, _ => rfl
  | fuel + 1, l, c, f, a, i, h => by
    simp only [setLv]
    split
    · simp [upd2]; omega
    · rw [setLv_below b fuel (l + 1) (c / 64) _ a i (by omega)]; simp [upd2]; omega

theorem word_ne_zero {w k : Nat} (h : w.testBit k = true) : w ≠ 0 := by
  intro e; subst e; simp at h

theorem LevOk.set {ll : Nat → Nat} (b : Bool) : ∀ (fuel l m : Nat) (p : Nat → Bool) (f : Nat → Nat → Nat) (c : Nat), LevOk ll fuel l m p f → c < m →
    LevOk ll fuel l m (upd p c b) (setLv b fuel l c f)
  | 0, _, _, _, _, _, _, _ => trivial
  | fuel + 1, l, m, p, f, c, ⟨h1, h2, h3⟩, hc => by
    have hcl : c / 64 < ll l := by omega
    have key : ∀ j, j < 64 * ll l → (upd2 f l (c / 64) (newWord b (f l (c / 64)) (c % 64)) l (j / 64)).testBit (j % 64) = (decide (j < m) && upd p c b j) := by
      intro j hj
      simp only [upd2, true_and]
      by_cases e : j / 64 = c / 64
      · rw [if_pos e, testBit_newWord]
        by_cases e2 : j % 64 = c % 64
        · have : j = c := by omega
          subst this
          rw [if_pos e2, upd_self]; simp [hc]
        · rw [if_neg e2, ← e, h2 j hj, upd_ne _ _ (by intro h; subst h; exact e2 rfl)]
      · rw [if_neg e, h2 j hj, upd_ne _ _ (by intro h; subst h; exact e rfl)]
    simp only [setLv]
    split
    next hz =>
      refine ⟨h1, key, LevOk.congr h3 (fun j hj => ?_) (fun a ha i hi => ?_)⟩
      · simp only [upd2, true_and]
        by_cases e : j = c / 64
        · rw [if_pos e, e]; rw [hz]
        · rw [if_neg e]
      · simp only [upd2]; rw [if_neg (by omega)]
    next hz =>
      refine ⟨h1, fun j hj => ?_, ?_⟩
      · rw [setLv_below b fuel (l + 1) _ _ l _ (by omega)]; exact key j hj
      · have hb : (!(newWord b (f l (c / 64)) (c % 64) == 0)) = b := by
          cases b
          · -- the word went to zero
            have hw0 : f l (c / 64) ≠ 0 := by
              intro e
              apply hz
              rw [e]
              have : newWord false 0 (c % 64) = 0 := by simp [newWord, clr]
              rw [this]
            have : (f l (c / 64) == 0) = false := by simpa using hw0
            rw [this] at hz
            simpa using hz
          · have : newWord true (f l (c / 64)) (c % 64) ≠ 0 := word_ne_zero (k := c % 64) (by rw [testBit_newWord, if_pos rfl])
            simpa using this
        have h3' : LevOk ll fuel (l + 1) (ll l) (fun j => !(f l j == 0)) (upd2 f l (c / 64) (newWord b (f l (c / 64)) (c % 64))) :=
          LevOk.congr h3 (fun _ _ => rfl) (fun a ha i hi => by simp only [upd2]; rw [if_neg (by omega)])
        refine LevOk.congr (LevOk.set b fuel (l + 1) (ll l) _ _ (c / 64) h3' hcl) (fun j hj => ?_) (fun a ha i hi => rfl)
        · rw [setLv_below b fuel (l + 1) _ _ l _ (by omega)]
          simp only [upd, upd2, true_and]
          by_cases e : j = c / 64
          · rw [if_pos e, if_pos e, hb]
          · rw [if_neg e, if_neg e]
end Go.Proofs.Qxb6616080a

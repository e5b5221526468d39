import Derived.Lib.ItoaLen
namespace Go.Proofs.Qxb6616377aDoor
open Go.Lib
set_option linter.unusedSimpArgs false

/-- The first k digits of u (of L) as a number. -/
def pre (u L k : Nat) : Nat := u / 10 ^ (L - k)

theorem pre_zero {u L : Nat} (h : u < 10 ^ L) : pre u L 0 = 0 := by
  unfold pre; rw [Nat.sub_zero, Nat.div_eq_of_lt h]
theorem pre_full (u L : Nat) : pre u L L = u := by
  unfold pre; rw [Nat.sub_self, Nat.pow_zero, Nat.div_one]
theorem pre_le (u L k : Nat) : pre u L k ≤ u := Nat.div_le_self _ _
/-- The digit at place k. -/
def dig (u L k : Nat) : Nat := u / 10 ^ (L - 1 - k) % 10
theorem dig_le (u L k : Nat) : dig u L k ≤ 9 := by unfold dig; omega
theorem pre_step (u L k : Nat) (h : k < L) : pre u L (k + 1) = 10 * pre u L k + dig u L k := by
  unfold pre dig
  rw [show L - k = (L - 1 - k) + 1 by omega, show L - (k + 1) = L - 1 - k by omega, Nat.pow_succ, ← Nat.div_div_eq_div_mul]
  omega

/-- A numeral of more than one digit begins with no 0. -/
theorem pow_le_nDigits (u : Nat) : 1 < nDigits u → 10 ^ (nDigits u - 1) ≤ u := by
  induction u using Nat.strongRecOn with
  | _ u ih =>
    intro h
    by_cases h10 : u < 10
    · rw [nDigits_small h10] at h; omega
    · rw [nDigits_big h10] at h ⊢
      rw [Nat.add_sub_cancel]
      by_cases h1 : 1 < nDigits (u / 10)
      · have := ih (u / 10) (by omega) h1
        have e : nDigits (u / 10) = nDigits (u / 10) - 1 + 1 := by omega
        rw [e, Nat.pow_succ]
        omega
      · have := nDigits_pos (u / 10)
        rw [show nDigits (u / 10) = 1 by omega]
        omega

theorem dig_head (u : Nat) (h : 1 < nDigits u) : 1 ≤ dig u (nDigits u) 0 := by
  have h1 := pow_le_nDigits u h
  have h2 := lt_pow_nDigits u
  unfold dig
  rw [Nat.sub_zero]
  have e : nDigits u = nDigits u - 1 + 1 := by omega
  rw [e, Nat.pow_succ] at h2
  generalize nDigits u - 1 = q at *
  have hp : 0 < 10 ^ q := Nat.pos_of_ne_zero (by intro h; rw [h] at h2; omega)
  have h3 : 1 ≤ u / 10 ^ q := (Nat.one_le_div_iff hp).2 h1
  have h4 : u / 10 ^ q < 10 := Nat.div_lt_of_lt_mul h2
  omega

theorem decDigits_getD (u k : Nat) (h : k < nDigits u) : (decDigits u).getD k 0 = UInt8.ofNat (48 + dig u (nDigits u) k) := by
  rw [decDigits_eq]
  simp [List.getD, h, dg, dig]

/-! ### The sign and the digit -/
theorem itoa_sign (a : Int) (h : 1 ≤ a) : itoa (-a) = 45 :: itoa a := by
  unfold itoa
  rw [if_pos (by omega), if_neg (by omega)]
  congr 2
  omega
theorem itoa_digit (a d : Int) (ha : 1 ≤ a) (h0 : 0 ≤ d) (h9 : d ≤ 9) : itoa (10 * a + d) = itoa a ++ [UInt8.ofNat (48 + d.toNat)] := by
  unfold itoa
  rw [if_neg (by omega), if_neg (by omega), decDigits, dif_neg (by omega)]
  rw [show (10 * a + d).toNat / 10 = a.toNat by omega, show (10 * a + d).toNat % 10 = d.toNat by omega]

/-! ### Two numbers with one numeral are one -/
theorem decDigits_inj : ∀ (u v : Nat), decDigits u = decDigits v → u = v := by
  intro u
  induction u using Nat.strongRecOn with
  | _ u ih =>
    intro v h
    have hl := congrArg List.length h
    rw [decDigits_length, decDigits_length] at hl
    have inj : ∀ x y : Nat, x < 10 → y < 10 → UInt8.ofNat (48 + x) = UInt8.ofNat (48 + y) → x = y := by
      intro x y hx hy e
      have := congrArg UInt8.toNat e
      simp at this
      omega
    by_cases hu : u < 10
    · have hv : v < 10 := by
        by_cases hv : v < 10
        · exact hv
        · rw [nDigits_small hu, nDigits_big hv] at hl
          have := nDigits_pos (v / 10); omega
      rw [decDigits_one hu, decDigits_one hv] at h
      exact inj u v hu hv (by simpa using h)
    · have hv : ¬ v < 10 := by
        intro hv
        rw [nDigits_small hv, nDigits_big hu] at hl
        have := nDigits_pos (u / 10); omega
      rw [decDigits, dif_neg hu, decDigits.eq_def v, dif_neg hv] at h
      have h2 := List.append_inj' h rfl
      have h3 := ih (u / 10) (by omega) (v / 10) h2.1
      have h4 := inj (u % 10) (v % 10) (by omega) (by omega) (by simpa using h2.2)
      omega

theorem decDigits_head (u : Nat) : ∃ c r, decDigits u = c :: r ∧ 48 ≤ c.toNat ∧ c.toNat ≤ 57 := by
  have hp := nDigits_pos u
  have hg := decDigits_getD u 0 (by omega)
  have hl := decDigits_length u
  match h : decDigits u with
  | [] => rw [h] at hl; simp at hl; omega
  | c :: r =>
    rw [h] at hg
    have hd := dig_le u (nDigits u) 0
    refine ⟨c, r, rfl, ?_⟩
    simp at hg
    rw [hg]
    simp
    omega

theorem itoa_inj (a b : Int) (h : itoa a = itoa b) : a = b := by
  unfold itoa at h
  by_cases ha : a < 0
  · by_cases hb : b < 0
    · rw [if_pos ha, if_pos hb] at h
      have := decDigits_inj _ _ (List.cons.inj h).2
      omega
    · rw [if_pos ha, if_neg hb] at h
      obtain ⟨c, r, e, h1, h2⟩ := decDigits_head b.toNat
      rw [e] at h
      have := congrArg UInt8.toNat (List.cons.inj h).1
      simp at this
      omega
  · by_cases hb : b < 0
    · rw [if_neg ha, if_pos hb] at h
      obtain ⟨c, r, e, h1, h2⟩ := decDigits_head a.toNat
      rw [e] at h
      have := congrArg UInt8.toNat (List.cons.inj h).1
      simp at this
      omega
    · rw [if_neg ha, if_neg hb] at h
      have := decDigits_inj _ _ h
      omega
end Go.Proofs.Qxb6616377aDoor

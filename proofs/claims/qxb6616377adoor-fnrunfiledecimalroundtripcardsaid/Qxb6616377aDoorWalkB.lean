import Derived.Test.Qxb6616377aDoorWalkA
namespace Go.Proofs.Qxb6616377aDoor
open Go.RowKit
set_option linter.unusedVariables false
set_option linter.unusedSimpArgs false

set_option maxHeartbeats 1000000 in
set_option maxRecDepth 100000 in
theorem f6_pos (s : ByteArray) (f : Nat → Nat) (u L : Nat) (w : World) (hs : s.size = L + 5) (hL : 1 ≤ L) (hL2 : L ≤ 20) (hu : u ≤ 9223372036854775807)
    (hb : ∀ k (hk : k < s.size), s[k].toNat = f k) (j0 : f L = 46) (j1 : f (L + 1) = 106) (j2 : f (L + 2) = 115) (j3 : f (L + 3) = 111) (j4 : f (L + 4) = 110)
    (hd : ∀ k, k < L → f k = 48 + dig u L k) (hpow : u < 10 ^ L) (hlead : 1 < L → 1 ≤ dig u L 0) :
    Calls Tryd.prog 6 #[.string s, .int .i64 (u : Int)] w fun e w' => e = .returned (.bool true) ∧ w' = w := by
  have hd0 := hd 0 (by omega)
  have hdl := dig_le u L 0
  have h45 : ((f 0 : Int) == 45) = false := by simp; omega
  have hcase : ((f 0 : Int) == 48) = false ∨ (((f 0 : Int) == 48) = true ∧ L ≤ 1) := by
    by_cases h : f 0 = 48
    · refine .inr ⟨by simp; omega, ?_⟩
      by_cases h1 : 1 < L
      · have := hlead h1; omega
      · omega
    · exact .inl (by simp; omega)
  have HD : Hid (∀ k, k < L → f k = 48 + dig u L k) := hd
  have HP : Hid (u < 10 ^ L) := hpow
  clear hd hpow hlead hd0 hdl
  have t1 : decide ((L : Int) < 1) = false := decide_eq_false (by omega)
  have t2 : decide ((20 : Int) < (L : Int)) = false := decide_eq_false (by omega)
  have t3 : decide ((L : Int) + 5 < 6) = false := decide_eq_false (by omega)
  have h4 : ∃ b : Bool, ((f 0 : Int) == 48) = b ∧ (b && decide ((1 : Int) < (L : Int))) = false := by
    rcases hcase with h48 | ⟨h48, hL1⟩
    · exact ⟨false, h48, rfl⟩
    · exact ⟨true, h48, by simp; omega⟩
  obtain ⟨b4, h48, t4⟩ := h4
  have step : ∀ k : Nat, k < L → ∃ y m m' : Nat, f k = y ∧ 48 ≤ y ∧ y ≤ 57 ∧ Hid (pre u L k = m) ∧ Hid (pre u L (k + 1) = m') ∧ Hid (m' = 10 * m + (y - 48)) ∧ 10 * m + y ≤ 9223372036854775807 + 48 := by
    intro k hk
    have e1 := HD.out k hk
    have e2 := dig_le u L k
    have e3 := pre_step u L k hk
    have e4 := pre_le u L (k + 1)
    exact ⟨_, _, _, rfl, by omega, by omega, rfl, rfl, (show pre u L (k + 1) = 10 * pre u L k + (f k - 48) by omega), by omega⟩
  have H0 : Hid (pre u L 0 = 0) := pre_zero HP.out
  have HF : Hid (pre u L L = u) := pre_full u L
  have STEP : Hid _ := step
  clear step HP hcase
  have tu : decide ((u : Int) < 0) = false := decide_eq_false (by omega)
  cases b4
  all_goals
    first | (have t4' : decide ((1 : Int) < (L : Int)) = false := by simpa using t4) | skip
    clear t4
    go_enter Tryd.func6, Tryd.ntmps6
    go_wp2
    go_loop [9, 10] (fun s9 s10 => ∃ k : Nat, k ≤ L ∧ s10 = .int .i64 k ∧ s9 = .int .u64 (pre u L k : Nat)) (fun s9 s10 => L - (intOf s10).toNat)
    case atStart => exact ⟨0, Nat.zero_le _, rfl, by rw [H0.out]; rfl⟩
    case round =>
      obtain ⟨k, hk, rfl, rfl⟩ := hrel
      by_cases hkl : k < L
      · obtain ⟨y, m, m', hy, hy1, hy2, HM, HM', HMM, hbd⟩ := STEP.out k hkl
        rw [HM.out]
        go_wp2
        exact ⟨⟨_, _, _, ⟨k + 1, by omega, by go_num, by rw [HM'.out, HMM.out]; exact congrArg _ (by omega)⟩, rfl, rfl, rfl⟩, by simp [intOf]; omega⟩
      · obtain rfl : k = L := by omega
        rw [HF.out]
        go_wp2
        go_ret
        exact ⟨by simp, rfl⟩

set_option maxHeartbeats 1000000 in
set_option maxRecDepth 100000 in
theorem f6_neg (s : ByteArray) (f : Nat → Nat) (u L M : Nat) (w : World) (hLM : M - 1 = L) (hs : s.size = M + 5) (hL : 2 ≤ M) (hL2 : M ≤ 21) (hu1 : 0 < u) (hu : u ≤ 9223372036854775808)
    (hb : ∀ k (hk : k < s.size), s[k].toNat = f k) (hm : f 0 = 45) (j0 : f M = 46) (j1 : f (M + 1) = 106) (j2 : f (M + 2) = 115) (j3 : f (M + 3) = 111) (j4 : f (M + 4) = 110)
    (hd : ∀ k, k < L → f (k + 1) = 48 + dig u L k) (hpow : u < 10 ^ L) (hlead : 1 < L → 1 ≤ dig u L 0) :
    Calls Tryd.prog 6 #[.string s, .int .i64 (-(u : Int))] w fun e w' => e = .returned (.bool true) ∧ w' = w := by
  have hd0 := hd 0 (by omega)
  have hdl := dig_le u L 0
  have h4 : ∃ b : Bool, ((f 1 : Int) == 48) = b ∧ (b && decide ((1 : Int) < (M : Int) - 1)) = false := by
    by_cases h : f 1 = 48
    · refine ⟨true, by simp; omega, ?_⟩
      by_cases h1 : 1 < L
      · have := hlead h1; simp at hd0; omega
      · simp; omega
    · exact ⟨false, by simp; omega, rfl⟩
  have HD : Hid (∀ k, k < L → f (k + 1) = 48 + dig u L k) := hd
  have HP : Hid (u < 10 ^ L) := hpow
  have HLM : Hid (M - 1 = L) := hLM
  have hml : L < M := by omega
  have hml2 : M ≤ L + 1 := by omega
  clear hd hpow hlead hd0 hdl hLM
  have t1 : decide ((M : Int) - 1 < 1) = false := decide_eq_false (by omega)
  have t2 : decide ((20 : Int) < (M : Int) - 1) = false := decide_eq_false (by omega)
  have t3 : decide ((M : Int) + 5 < 6) = false := decide_eq_false (by omega)
  obtain ⟨b4, h48, t4⟩ := h4
  have step : ∀ k : Nat, k < L → ∃ y m m' : Nat, f (k + 1) = y ∧ 48 ≤ y ∧ y ≤ 57 ∧ Hid (pre u L k = m) ∧ Hid (pre u L (k + 1) = m') ∧ Hid (m' = 10 * m + (y - 48)) ∧ 10 * m + y ≤ 9223372036854775808 + 48 := by
    intro k hk
    have e1 := HD.out k hk
    have e2 := dig_le u L k
    have e3 := pre_step u L k hk
    have e4 := pre_le u L (k + 1)
    exact ⟨_, _, _, rfl, by omega, by omega, rfl, rfl, (show pre u L (k + 1) = 10 * pre u L k + (f (k + 1) - 48) by omega), by omega⟩
  have H0 : Hid (pre u L 0 = 0) := pre_zero HP.out
  have HF : Hid (pre u L L = u) := pre_full u L
  have STEP : Hid _ := step
  clear step HP
  have tu : decide (-(u : Int) < 0) = true := decide_eq_true (by omega)
  have fin : ∀ e : Value, e = .bool ((u : Int) == -(-(u : Int) + 1) + 1) → Ending.returned e = .returned (.bool true) := by
    intro e he
    rw [he, show -(-(u : Int) + 1) + 1 = u by omega]
    simp
  have FIN : Hid _ := fin
  clear fin
  cases b4
  all_goals
    first | (have t4' : decide ((1 : Int) < (M : Int) - 1) = false := by simpa using t4) | skip
    clear t4
    go_enter Tryd.func6, Tryd.ntmps6
    go_wp2
    go_loop [9, 10] (fun s9 s10 => ∃ k : Nat, k ≤ L ∧ s10 = .int .i64 ((k : Int) + 1) ∧ s9 = .int .u64 (pre u L k : Nat)) (fun s9 s10 => L + 1 - (intOf s10).toNat)
    case atStart => exact ⟨0, Nat.zero_le _, rfl, by rw [H0.out]; rfl⟩
    case round =>
      obtain ⟨k, hk, rfl, rfl⟩ := hrel
      by_cases hkl : k < L
      · obtain ⟨y, m, m', hy, hy1, hy2, HM, HM', HMM, hbd⟩ := STEP.out k hkl
        rw [HM.out]
        go_wp2
        exact ⟨⟨_, _, _, ⟨k + 1, by omega, by go_num, by rw [HM'.out, HMM.out]; exact congrArg _ (by omega)⟩, rfl, rfl, rfl⟩, by simp [intOf]; omega⟩
      · obtain rfl : k = L := by omega
        rw [HF.out]
        go_wp2
        go_ret
        exact ⟨FIN.out _ rfl, rfl⟩
end Go.Proofs.Qxb6616377aDoor

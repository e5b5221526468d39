import Derived.Test.Qxb6616377aWalkA
import Derived.Test.Qxb6616377aPlain
namespace Go.Proofs.Qxb6616377a
set_option linter.unusedSimpArgs false
open Go.RowKit
set_option linter.unusedVariables false

set_option maxHeartbeats 400000 in
theorem f10_any (g n cap : Nat) (rb : Nat → Nat) (ids : List Int) (x : Int) (w : World) (hn : ids.length = n) (hsz : n ≤ 1048576)
    (hR : ∀ i, i < n → w.cell? ⟨g, i, none⟩ = some (.pointer (some ⟨rb i, 0, none⟩)))
    (hI : ∀ i, i < n → w.cell? ⟨rb i, 0, none⟩ = some (.int .i64 (ids.getD i 0)))
    (hs : Inc ids) :
    Calls Try.prog 10 #[.slice (some ⟨g, 0, none⟩) n cap, .int .i64 x, .func (.func 11) #[] #[]] w fun e w' =>
      e = .returned (.tuple #[.int .i64 (lbd ids x : Nat), .bool (fnd ids x)]) ∧ w' = w := by
  have HN : Hid (ids.length = n) := hn
  have HS : Hid (Inc ids) := hs
  have HR : Hid (∀ i, i < n → w.cell? ⟨g, i, none⟩ = some (.pointer (some ⟨rb i, 0, none⟩))) := hR
  have HI : Hid (∀ i, i < n → w.cell? ⟨rb i, 0, none⟩ = some (.int .i64 (ids.getD i 0))) := hI
  clear hn hs hR hI
  generalize hc : lbd ids x = cnt
  generalize hf : fnd ids x = fin
  have HC : Hid (lbd ids x = cnt) := hc
  have HF : Hid (fnd ids x = fin) := hf
  clear hc hf
  go_enter Try.func10, Try.ntmps10
  go_wp2
  go_loopg [9, 10] n (fun kx s9 s10 wr => ∃ lo hi : Nat, s9 = .int .i64 lo ∧ s10 = .int .i64 hi ∧ lo ≤ hi ∧ hi ≤ n ∧ hi - lo ≤ kx ∧ wr = w ∧
    Hid ((∀ t, t < lo → ids.getD t 0 < x) ∧ (∀ t, hi ≤ t → t < n → x ≤ ids.getD t 0)))
  case atStart => exact ⟨0, n, rfl, rfl, Nat.zero_le _, Nat.le_refl _, by omega, rfl, (⟨fun t ht => absurd ht (Nat.not_lt_zero _), fun t h1 h2 => by omega⟩ : (∀ t, t < 0 → ids.getD t 0 < x) ∧ (∀ t, n ≤ t → t < n → x ≤ ids.getD t 0))⟩
  case round =>
    obtain ⟨lo, hi, rfl, rfl, hlh, hin, hg, rfl, I⟩ := hrel
    by_cases hlt : lo < hi
    · have c1 := HR.out ((lo + hi) / 2) (by omega)
      have c2 := HI.out ((lo + hi) / 2) (by omega)
      generalize hy : ids.getD ((lo + hi) / 2) 0 = y at c2
      have Y : Hid (ids.getD ((lo + hi) / 2) 0 = y) := hy
      clear hy
      have hc := f11_any (rb ((lo + hi) / 2)) y x _ c2
      by_cases hyx : cmpInt y x < 0
      · have hlt' : y < x := by unfold cmpInt at hyx; split at hyx; assumption; split at hyx <;> omega
        go_wp2_with (go_at_call 11; refine hc.mono ?_; rintro e w' ⟨rfl, rfl⟩)
        go_roundg (hi - ((lo + hi) / 2 + 1))
        case measure => omega
        case rel =>
          have I2 : Hid ((∀ t, t < (lo + hi) / 2 + 1 → ids.getD t 0 < x) ∧ (∀ t, hi ≤ t → t < n → x ≤ ids.getD t 0)) := by
            refine (⟨fun t ht => ?_, I.out.2⟩ : _ ∧ _)
            rcases Nat.lt_or_eq_of_le (Nat.le_of_lt_succ ht) with h | h
            · have := HS.out t ((lo + hi) / 2) h (by rw [HN.out]; omega)
              rw [Y.out] at this; omega
            · rw [h, Y.out]; exact hlt'
          exact ⟨(lo + hi) / 2 + 1, hi, by rw [show ((lo : Int) + (hi : Int)) / 2 + 1 = (((lo + hi) / 2 + 1 : Nat) : Int) by omega], rfl, by omega, hin, Nat.le_refl _, rfl, I2⟩
      · have hge' : x ≤ y := by
          by_cases hh : y < x
          · exfalso; apply hyx; unfold cmpInt; rw [if_pos hh]; omega
          · omega
        go_wp2_with (go_at_call 11; refine hc.mono ?_; rintro e w' ⟨rfl, rfl⟩)
        go_roundg ((lo + hi) / 2 - lo)
        case measure => omega
        case rel =>
          have I2 : Hid ((∀ t, t < lo → ids.getD t 0 < x) ∧ (∀ t, (lo + hi) / 2 ≤ t → t < n → x ≤ ids.getD t 0)) := by
            refine (⟨I.out.1, fun t ht htn => ?_⟩ : _ ∧ _)
            rcases Nat.lt_or_eq_of_le ht with h | h
            · have := HS.out ((lo + hi) / 2) t h (by rw [HN.out]; omega)
              rw [Y.out] at this; omega
            · rw [← h, Y.out]; exact hge'
          exact ⟨lo, (lo + hi) / 2, rfl, by rw [show ((lo : Int) + (hi : Int)) / 2 = (((lo + hi) / 2 : Nat) : Int) by omega], by omega, by omega, Nat.le_refl _, rfl, I2⟩
    · obtain rfl : hi = lo := by omega
      have ecnt : cnt = hi := by
        rw [← HC.out]
        exact lbd_eq (by rw [HN.out]; omega) I.out.1 (by rw [HN.out]; exact I.out.2)
      subst ecnt
      have FE : Hid (fin = (decide (cnt < n) && decide (ids.getD cnt 0 = x))) := by
        have h1 := fnd_eq (x := x) HS.out
        rw [HC.out, HF.out, HN.out] at h1
        exact h1
      by_cases hn : cnt < n
      · have c1 := HR.out cnt hn
        have c2 := HI.out cnt hn
        generalize hy : ids.getD cnt 0 = y at c2
        have Y : Hid (ids.getD cnt 0 = y) := hy
        clear hy
        have hc := f11_any (rb cnt) y x _ c2
        go_wp2_with (go_at_call 11; refine hc.mono ?_; rintro e w' ⟨rfl, rfl⟩)
        go_ret2
        refine ⟨?_, rfl⟩
        rw [FE.out, Y.out]
        have e : (cmpInt y x == 0) = decide (y = x) := by
          unfold cmpInt
          by_cases h1 : y < x
          · simp [h1]; omega
          · by_cases h2 : x < y
            · simp [h1, h2]; omega
            · have : y = x := by omega
              simp [this]
        simp [hn, e]
      · go_wp2
        go_ret2
        exact ⟨by rw [FE.out]; simp [hn], rfl⟩
end Go.Proofs.Qxb6616377a

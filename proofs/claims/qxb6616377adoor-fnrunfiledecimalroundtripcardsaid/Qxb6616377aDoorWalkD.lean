import Derived.Test.Qxb6616377aDoorWalkB
namespace Go.Proofs.Qxb6616377aDoor
open Go.RowKit
set_option linter.unusedVariables false
set_option linter.unusedSimpArgs false

/-- The name's bytes. -/
def runL (a : Int) : List UInt8 := Lib.itoa a ++ [46, 106, 115, 111, 110]
theorem runB_list (a : Int) : (runB a).data.toList = runL a := by
  unfold runB itoaB runL
  rw [ByteArray.data_append, Array.toList_append]
  rfl
theorem runB_len (a : Int) : (runB a).size = (runL a).length := by rw [← runB_list]; rfl
theorem runB_at (a : Int) (k : Nat) (hk : k < (runB a).size) : (runB a)[k].toNat = ((runL a).getD k 0).toNat := by
  have e : (runB a)[k] = (runB a).data.toList[k]'(by exact hk) := rfl
  rw [e]
  simp only [runB_list]
  congr 1
  simp [List.getD, show k < (runL a).length by rw [← runB_len]; exact hk]

theorem ofNat_toNat (n : Nat) (h : n ≤ 9) : (UInt8.ofNat (48 + n)).toNat = 48 + n := by
  simp; omega

theorem f6_any (a : Int) (w : World) (h0 : -9223372036854775808 ≤ a) (h1 : a ≤ 9223372036854775807) :
    Calls Tryd.prog 6 #[.string (runB a), .int .i64 a] w fun e w' => e = .returned (.bool true) ∧ w' = w := by
  by_cases hn : a < 0
  · obtain ⟨u, rfl⟩ : ∃ u : Nat, a = -(u : Int) := ⟨a.natAbs, by omega⟩
    have hl : runL (-(u : Int)) = 45 :: (Lib.decDigits u ++ [46, 106, 115, 111, 110]) := by
      unfold runL Lib.itoa
      rw [if_pos hn]
      simp
    have hdl := Lib.decDigits_length u
    have hp := Lib.nDigits_pos u
    have h20 := Lib.nDigits_le20 u (by omega)
    have suf : ∀ i, i < 5 → (runL (-(u : Int))).getD (Lib.nDigits u + 1 + i) 0 = ([46, 106, 115, 111, 110] : List UInt8).getD i 0 := by
      intro i hi
      rw [hl, show Lib.nDigits u + 1 + i = (Lib.nDigits u + i) + 1 by omega, List.getD_cons_succ]
      simp [List.getD, List.getElem?_append, hdl]
      rw [if_neg (by omega)]
    refine f6_neg (runB (-(u : Int))) (fun k => ((runL (-(u : Int))).getD k 0).toNat) u (Lib.nDigits u) (Lib.nDigits u + 1) w (by omega) ?_ (by omega) (by omega) (by omega) (by omega) (fun k hk => runB_at _ k hk) ?_ ?_ ?_ ?_ ?_ ?_ ?_ (Lib.lt_pow_nDigits u) (dig_head u)
    · rw [runB_len, hl]; simp [hdl]
    · show ((runL (-(u : Int))).getD 0 0).toNat = 45
      rw [hl]; rfl
    · exact congrArg UInt8.toNat (suf 0 (by omega))
    · exact congrArg UInt8.toNat (suf 1 (by omega))
    · exact congrArg UInt8.toNat (suf 2 (by omega))
    · exact congrArg UInt8.toNat (suf 3 (by omega))
    · exact congrArg UInt8.toNat (suf 4 (by omega))
    · intro k hk
      show ((runL (-(u : Int))).getD (k + 1) 0).toNat = _
      rw [hl, List.getD_cons_succ]
      have e : (Lib.decDigits u ++ [46, 106, 115, 111, 110]).getD k 0 = (Lib.decDigits u).getD k 0 := by
        simp [List.getD, List.getElem?_append, hdl, hk]
      rw [e, decDigits_getD u k hk]
      exact ofNat_toNat _ (dig_le u _ k)
  · obtain ⟨u, rfl⟩ : ∃ u : Nat, a = (u : Int) := ⟨a.toNat, by omega⟩
    have hl : runL (u : Int) = Lib.decDigits u ++ [46, 106, 115, 111, 110] := by
      unfold runL Lib.itoa
      rw [if_neg hn]
      simp
    have hdl := Lib.decDigits_length u
    have hp := Lib.nDigits_pos u
    have h20 := Lib.nDigits_le20 u (by omega)
    have suf : ∀ i, i < 5 → (runL (u : Int)).getD (Lib.nDigits u + i) 0 = ([46, 106, 115, 111, 110] : List UInt8).getD i 0 := by
      intro i hi
      rw [hl]
      simp [List.getD, List.getElem?_append, hdl]
      rw [if_neg (by omega)]
    refine f6_pos (runB (u : Int)) (fun k => ((runL (u : Int)).getD k 0).toNat) u (Lib.nDigits u) w ?_ (by omega) (by omega) (by omega) (fun k hk => runB_at _ k hk) ?_ ?_ ?_ ?_ ?_ ?_ (Lib.lt_pow_nDigits u) (dig_head u)
    · rw [runB_len, hl]; simp [hdl]
    · exact congrArg UInt8.toNat (suf 0 (by omega))
    · exact congrArg UInt8.toNat (suf 1 (by omega))
    · exact congrArg UInt8.toNat (suf 2 (by omega))
    · exact congrArg UInt8.toNat (suf 3 (by omega))
    · exact congrArg UInt8.toNat (suf 4 (by omega))
    · intro k hk
      show ((runL (u : Int)).getD k 0).toNat = _
      rw [hl]
      have e : (Lib.decDigits u ++ [46, 106, 115, 111, 110]).getD k 0 = (Lib.decDigits u).getD k 0 := by
        simp [List.getD, List.getElem?_append, hdl, hk]
      rw [e, decDigits_getD u k hk]
      exact ofNat_toNat _ (dig_le u _ k)

theorem runB_inj (a b : Int) (h : (runB a).toList = (runB b).toList) : a = b := by
  rw [ByteArray.toList_eq, ByteArray.toList_eq, runB_list, runB_list, runL, runL] at h
  exact itoa_inj a b (List.append_cancel_right h)

set_option maxHeartbeats 400000 in
theorem f3_any (a b : Int) (w : World) (wa : (Lit.int .i64 a).wf = true) (wb : (Lit.int .i64 b).wf = true) (ht : Tab w) (hw : 0 < w.heap.size) :
    Calls Tryd.prog 3 #[.int .i64 a, .int .i64 b] w fun e w' => e = .returned (.bool true) ∧ Below w.heap.size w w' := by
  have ba : -9223372036854775808 ≤ a ∧ a ≤ 9223372036854775807 := bounds_i64 wa
  have bb : -9223372036854775808 ≤ b ∧ b ≤ 9223372036854775807 := bounds_i64 wb
  have hc1 := f5_any a w ba.1 ba.2 ht
  have hc2 : ∀ w1, Tab w1 → Calls Tryd.prog 5 #[.int .i64 b] w1 fun e w' => e = .returned (.string (runB b)) ∧ Below w1.heap.size w1 w' := fun w1 h1 => f5_any b w1 bb.1 bb.2 h1
  have hc3 := fun w1 => f6_any a w1 ba.1 ba.2
  have hq : ((runB a).toList == (runB b).toList) = (a == b) := by
    rw [Bool.eq_iff_iff]
    simp only [beq_iff_eq]
    exact ⟨runB_inj a b, fun e => by rw [e]⟩
  generalize runB a = P at hc1 hc3 hq
  generalize runB b = G at hc2 hq
  have HT : Hid (Tab w) := ht
  have HC2 : Hid _ := hc2
  have HC3 : Hid _ := hc3
  clear ht hc2 hc3 wa wb
  go_enter Tryd.func3, Tryd.ntmps3
  go_wp2_with fail
  refine hc1.mono ?_
  rintro e w1 ⟨rfl, hb1⟩
  clear hc1
  have HT1 : Hid (Tab w1) := HT.out.below hb1 hw
  have hs1 := hb1.size
  go_wp2_with fail
  refine (HC2.out _ HT1.out).mono ?_
  rintro e w2 ⟨rfl, hb2⟩
  go_wp2_with fail
  refine (HC3.out _).mono ?_
  rintro e w2 ⟨rfl, rfl⟩
  go_wp2
  go_ret
  exact ⟨rfl, hb1.trans (hb2.mono hs1)⟩
end Go.Proofs.Qxb6616377aDoor

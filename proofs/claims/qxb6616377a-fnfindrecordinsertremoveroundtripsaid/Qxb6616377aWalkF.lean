import Derived.Test.Qxb6616377aWalkE
namespace Go.Proofs.Qxb6616377a
set_option linter.unusedSimpArgs false
open Go.RowKit
set_option linter.unusedVariables false

set_option maxHeartbeats 400000 in
theorem f5_any (a : Option Addr) (n cap : Nat) (id : Int) (w : World) (hn : n ≤ 1048576) :
    Calls Try.prog 5 #[.slice a n cap, .int .i64 id] w fun e w' => e = .returned (.bool true) ∧ w' = w := by
  go_enter Try.func5, Try.ntmps5
  go_wp2
  go_ret
  exact ⟨rfl, rfl⟩

/-- The first j + 1 numbers are strictly increasing. -/
def IncTo (l : List Int) (j : Nat) : Prop := ∀ i, i < j → l.getD i 0 < l.getD (i + 1) 0

theorem IncTo.inc {l : List Int} {j : Nat} (h : IncTo l j) (hl : l.length ≤ j + 1) : Inc l := by
  intro a b hab hb
  induction b with
  | zero => omega
  | succ b ih =>
    have h1 := h b (by omega)
    rcases Nat.lt_or_eq_of_le (Nat.le_of_lt_succ hab) with h2 | h2
    · have := ih h2 (by omega); omega
    · rw [h2]; exact h1

set_option maxHeartbeats 400000 in
theorem f3_some (x : Addr) (n cap : Nat) (l : List Int) (id : Int) (w : World) (hl : l.length = n) (hn : n ≤ 65536)
    (hx : ∀ i, i < n → w.cell? (x.add i) = some (.int .i64 (l.getD i 0))) :
    Calls Try.prog 3 #[.slice (some x) n cap, .int .i64 id] w fun e w' => e = .returned (.bool true) ∧ Below w.heap.size w w' := by
  have hne := fun w => run_neq_slice_nil_any (P := Try.prog) w 22 3 (some x) n cap 0 0 Try.underlying22
  have hmk := mk3 n (by omega)
  have hcp := cp3 x n cap l hl w hx
  have h18 : decide ((65536 : Int) < (n : Int)) = false := decide_eq_false (by omega)
  have HL : Hid (l.length = n) := hl
  have HC : Hid (∀ i, i < n → (w.alloc (.cells (cellsOfInts l) 3)).cell? ⟨w.heap.size, i, none⟩ = some (.int .i64 (l.getD i 0))) := by
    intro i hi
    rw [World.cell?_alloc_new, cellsOfInts_get (by omega)]
  have HB : Hid (Below w.heap.size w (w.alloc (.cells (cellsOfInts l) 3))) := (Below.refl _ _).alloc (Nat.le_refl _) _
  have hgs : w.heap.size < (w.alloc (.cells (cellsOfInts l) 3)).heap.size := by simp
  clear hl hx
  go_enter Try.func3, Try.ntmps3
  go_wp2_with (go_at_call 5; refine (f5_any _ _ _ _ _ (by omega)).mono ?_; rintro e w ⟨rfl, rfl⟩)
  clear hne hmk hcp
  generalize w.alloc (.cells (cellsOfInts l) 3) = W at HC HB hgs ⊢
  generalize hgg : w.heap.size = g at HC HB hgs ⊢
  have HG : Hid (w.heap.size = g) := hgg
  clear hgg
  go_loopw [6] (fun s6 wr => ∃ j : Nat, s6 = .int .i64 ((j : Int) + 1) ∧ (j + 1 ≤ n ∨ j = 0) ∧ Hid (IncTo l j) ∧ ∃ q, wr = W.drewN q) (fun s6 wr => n + 1 - (intOf s6).toNat)
  case atStart => exact ⟨0, rfl, .inr rfl, fun i h => absurd h (Nat.not_lt_zero _), 0, rfl⟩
  case round =>
    obtain ⟨j, rfl, hj, HI, q, rfl⟩ := hrel
    by_cases hlt : j + 1 < n
    · have c1 := HC.out j (by omega)
      have c2 := HC.out (j + 1) (by omega)
      generalize ha : l.getD j 0 = a at c1
      generalize hb : l.getD (j + 1) 0 = b at c2
      have HA : Hid (l.getD j 0 = a) := ha
      have HB2 : Hid (l.getD (j + 1) 0 = b) := hb
      clear ha hb
      by_cases hab : b ≤ a
      · go_wp2
        go_quiet (fail)
        go_wp2
        go_ret
        exact ⟨rfl, by rw [HG.out]; exact HB.out.trans (b := W) ⟨rfl, rfl, rfl, Nat.le_refl _, fun _ _ => rfl⟩⟩
      · go_wp2
        go_quiet (fail)
        go_wp2
        go_roundw
        case rel =>
          refine ⟨j + 1, by go_num, .inl (by omega), ?_, _, rfl⟩
          intro i hi
          rcases Nat.lt_or_eq_of_le (Nat.le_of_lt_succ hi) with h | h
          · exact HI.out i h
          · rw [h, HA.out, HB2.out]; omega
        case measure => simp [intOf]; omega
    · have hinc : Inc l := IncTo.inc HI.out (by rw [HL.out]; omega)
      have HINC : Hid (Inc l) := hinc
      clear hinc
      go_wp2_with fail
      refine (f7_some g n n l _ (by omega) (fun _ => by exact hgs) (by exact HC.out)).mono ?_
      rintro e w1 ⟨v, rfl, sb, g2, cap2, rb, rfl, hS, hR, hI2, hbel⟩
      have h6 := f6_any sb g2 n cap2 rb l id w1 HL.out (by omega) hS hR hI2 HINC.out
      have HC1 : Hid (∀ i, i < n → w1.cell? ⟨g, i, none⟩ = some (.int .i64 (l.getD i 0))) := fun i hi => (hbel.cell (by exact hgs)).trans (HC.out i hi)
      have HB1 : Hid (Below g w w1) := (HB.out.trans ⟨rfl, rfl, rfl, Nat.le_refl _, fun _ _ => rfl⟩ : Below g w (W.drewN q)).trans (hbel.mono (by exact Nat.le_of_lt hgs))
      clear hS hR hI2 hbel HC HB
      generalize hcn : lbd l id = cnt at h6
      generalize hfn : fnd l id = fin at h6
      have HCN : Hid (lbd l id = cnt) := hcn
      have HFN : Hid (fnd l id = fin) := hfn
      clear hcn hfn
      go_wp2_with (go_at_call 6; refine h6.mono ?_; rintro e w1 ⟨rfl, rfl⟩)
      clear h6
      go_loop [9, 10, 11] (fun s9 s10 s11 => ∃ k : Nat, k ≤ n ∧ s11 = .int .i64 k ∧ s9 = .int .i64 (lbd (l.take k) id : Nat) ∧ s10 = .bool (fnd (l.take k) id)) (fun s9 s10 s11 => n - (intOf s11).toNat)
      case atStart => exact ⟨0, Nat.zero_le _, rfl, rfl, rfl⟩
      case round =>
        obtain ⟨k, hk, rfl, rfl, rfl⟩ := hrel
        by_cases hkn : k < n
        · have c1 := HC1.out k hkn
          have L1 : Hid (lbd (l.take (k + 1)) id = lbd (l.take k) id + if l.getD k 0 < id then 1 else 0) := lbd_snoc l k id (by rw [HL.out]; exact hkn)
          have F1 : Hid (fnd (l.take (k + 1)) id = (fnd (l.take k) id || (l.getD k 0 == id))) := fnd_snoc l k id (by rw [HL.out]; exact hkn)
          have hle : lbd (l.take k) id ≤ n := Nat.le_trans (List.countP_le_length) (by simp; omega)
          generalize hy : l.getD k 0 = y at c1
          have HY : Hid (l.getD k 0 = y) := hy
          clear hy
          generalize hlb : lbd (l.take k) id = lb at hle
          have HLB : Hid (lbd (l.take k) id = lb) := hlb
          clear hlb
          generalize hfb : fnd (l.take k) id = fb
          have HFB : Hid (fnd (l.take k) id = fb) := hfb
          clear hfb
          by_cases h1 : y < id
          · have h2 : (y == id) = false := by simp; omega
            go_wp2
            go_roundw
            case rel => exact ⟨k + 1, by omega, by go_num, by rw [L1.out, HY.out, HLB.out, if_pos h1]; go_num, by rw [F1.out, HY.out, HFB.out, h2, Bool.or_false]⟩
            case measure => simp [intOf]; omega
          · by_cases h2 : (y == id) = true
            · go_wp2
              go_roundw
              case rel => exact ⟨k + 1, by omega, by go_num, by rw [L1.out, HY.out, HLB.out, if_neg h1]; go_num, by rw [F1.out, HY.out, HFB.out, h2, Bool.or_true]⟩
              case measure => simp [intOf]; omega
            · have h2' : (y == id) = false := by simpa using h2
              clear h2
              go_wp2
              go_roundw
              case rel => exact ⟨k + 1, by omega, by go_num, by rw [L1.out, HY.out, HLB.out, if_neg h1]; go_num, by rw [F1.out, HY.out, HFB.out, h2', Bool.or_false]⟩
              case measure => simp [intOf]; omega
        · obtain rfl : k = n := by omega
          have e1 : l.take k = l := List.take_of_length_le (by rw [HL.out]; exact Nat.le_refl _)
          rw [e1, HCN.out, HFN.out]
          go_wp2
          go_ret
          exact ⟨by simp, by rw [HG.out]; exact HB1.out⟩

set_option maxHeartbeats 400000 in
theorem f3_nil (id : Int) (w : World) :
    Calls Try.prog 3 #[.slice none 0 0, .int .i64 id] w fun e w' => e = .returned (.bool true) ∧ Below w.heap.size w w' := by
  have hne := fun w => run_neq_slice_nil_any (P := Try.prog) w 22 3 none 0 0 0 0 Try.underlying22
  go_enter Try.func3, Try.ntmps3
  go_wp2_with (go_at_call 5; refine (f5_any _ _ _ _ _ (by omega)).mono ?_; rintro e w ⟨rfl, rfl⟩)
  clear hne
  refine wp_loop_rounds 1 ?_
  rw [rounds_succ]
  go_wp2_with fail
  refine (f7_nil _).mono ?_
  rintro e w1 ⟨v, rfl, sb, g2, cap2, rb, rfl, hS, hR, hI2, hbel⟩
  have h6 := f6_any sb g2 0 cap2 rb [] id w1 rfl (by omega) hS hR hI2 (fun a b _ hb => absurd hb (Nat.not_lt_zero _))
  have HB1 : Hid (Below w.heap.size w w1) := hbel
  clear hS hR hI2 hbel
  go_wp2_with (go_at_call 6; refine h6.mono ?_; rintro e w1 ⟨rfl, rfl⟩)
  clear h6
  refine wp_loop_rounds 1 ?_
  rw [rounds_succ]
  go_wp2
  go_ret
  exact ⟨by simp [lbd, fnd], HB1.out⟩

set_option maxHeartbeats 400000 in
theorem f3_long (a : Option Addr) (n cap : Nat) (id : Int) (w : World) (hn : 65536 < n) (hm : n ≤ maxLen) :
    Calls Try.prog 3 #[.slice a n cap, .int .i64 id] w fun e w' => e = .returned (.bool true) ∧ Below w.heap.size w w' := by
  unfold maxLen at hm
  by_cases h : n ≤ 1048576
  · go_enter Try.func3, Try.ntmps3
    go_wp2
    go_ret
    exact ⟨rfl, Below.refl _ _⟩
  · go_enter Try.func3, Try.ntmps3
    go_wp2
    go_ret
    exact ⟨rfl, Below.refl _ _⟩
end Go.Proofs.Qxb6616377a

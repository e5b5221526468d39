import Derived.Test.Qxb6616080aEn
namespace Go.Proofs.Qxb6616080a
open Go.RowKit
set_option linter.unusedVariables false
set_option linter.unusedSimpArgs false
set_option maxRecDepth 100000

theorem w64' {x : Int} (h : i64 x) : IntKind.i64.wrap x = x := by
  unfold i64 at h
  simp [IntKind.wrap, IntKind.bits, IntKind.signed]
  omega
theorem w32' {x : Int} (h : i32 x) : IntKind.i32.wrap x = x := by
  unfold i32 at h
  simp [IntKind.wrap, IntKind.bits, IntKind.signed]
  omega

set_option maxHeartbeats 1000000 in
theorem f18_to (a4 a5 : Option Addr) (b4 o4 c4 b5 o5 c5 n nv seed : Nat) (placed : Nat → Bool) (current : Nat → Int) (w : World) (hn : n ≤ 4096) (hv : nv ≤ 4096) (hs : seed < 2 ^ 64)
    (n4 : 0 < n → a4 = some ⟨b4, o4, none⟩) (d4 : ∀ j, j < n → w.cell? ⟨b4, o4 + j, none⟩ = some (.bool (placed j))) (n5 : 0 < nv → a5 = some ⟨b5, o5, none⟩) (d5 : ∀ j, j < nv → w.cell? ⟨b5, o5 + j, none⟩ = some (.int .i32 (current j)))
    (hc : ∀ v, v < nv → -1 ≤ current v ∧ current v < 4096) :
    Calls Try.prog 18 #[.slice a4 n c4, .slice a5 nv c5, .int .u64 (seed : Nat)] w fun e w' => e = .returned (.int .u64 (hashOf zmix n nv seed placed current : Nat)) ∧ w' = w := by
  refine enter_f Try.func18 rfl Try.ntmps18 (by simp) fun a hD hV => ?_
  have hfs := fset_at
  have N4 := hide n4
  have D4 := hide d4
  have N5 := hide n5
  have D5 := hide d5
  have HC := hide hc
  clear n4 d4 n5 d5 hc
  obtain ⟨f, hf⟩ : ∃ f : Nat → Value, f = fun j => (#[.slice a4 n c4, .slice a5 nv c5, .int .u64 (seed : Nat)] : Array Value).getD j undef := ⟨_, rfl⟩
  have h0 : f 0 = .slice a4 n c4 := by rw [hf]; rfl
  have h1 : f 1 = .slice a5 nv c5 := by rw [hf]; rfl
  have h2 : f 2 = .int .u64 (seed : Nat) := by rw [hf]; rfl
  have hV : ∀ j, j < 59 → a.tmps[j]? = some (f j) := fun j hj => by rw [hV j hj, hf]
  clear hf
  repeat (first
    | (refine wpList_put hD hV ?hd ?_; (case hd => decide); clear hD hV; (try clear a); intro a hD hV)
    | ((first | refine wpList_plain rfl (fun K hK => ?_) | refine wpList_step (fun K hK => ?_)); go_simp; refine hK _ _ ?_; clear hK K)
    | (refine wp_cond_true ?hc ?_; (case hc => simp [Act.eval, hV, hfs]; done))
    | (refine wp_cond_false ?hc ?_; (case hc => simp [Act.eval, hV, hfs]; done))
    | go_step)
  refine wp_loop_f (N := 59) (fun m f w' => ∃ k, k ≤ n ∧ m = n - k ∧ w' = w ∧ f 8 = .int .i64 (k : Nat) ∧ f 0 = .slice a4 n c4 ∧ f 1 = .slice a5 nv c5 ∧ f 2 = .int .u64 (seed : Nat) ∧ f 7 = .int .u64 (xorOf k (hPlaced zmix seed placed) : Nat)) n hD hV
    ⟨0, by omega, by omega, rfl, by simp [hfs], by simp [hfs, h0], by simp [hfs, h1], by simp [hfs, h2], by simp [hfs, xorOf]⟩ ?_
  clear h0 h1 h2 hD hV a f
  intro m f w' a hD hV ⟨k, hk, hm', hw, h8, h0, h1, h2, h7⟩ K hK
  obtain rfl : w = w' := hw.symm
  clear hw
  have HK := hide hK
  clear hK
  have hx1 : xorOf k (hPlaced zmix seed placed) < 2 ^ 64 := xorOf_lt (fun j _ => by unfold hPlaced; split; exact zmix_lt _; decide)
  by_cases hkn : k < n
  · have n4 := N4.out (by omega)
    have d4 := D4.out k hkn
    have e2 : IntKind.i64.wrap ((k : Int) + 1) = (k : Int) + 1 := w64' (by unfold i64; omega)
    have hsucc : Hid (xorOf (k + 1) (hPlaced zmix seed placed) = xorOf k (hPlaced zmix seed placed) ^^^ hPlaced zmix seed placed k) := rfl
    generalize xorOf k (hPlaced zmix seed placed) = X at h7 hx1 hsucc
    cases q1 : placed k
    case false =>
      repeat (first
        | (refine wpList_put hD hV ?hd ?_; (case hd => decide); clear hD hV; (try clear a); intro a hD hV)
        | ((first | refine wpList_plain rfl (fun K hK => ?_) | refine wpList_step (fun K hK => ?_)); go_simp; refine hK _ _ ?_; clear hK K)
        | (refine wp_cond_true ?hc ?_; (case hc => simp [Act.eval, hV, hfs]; done))
        | (refine wp_cond_false ?hc ?_; (case hc => simp [Act.eval, hV, hfs]; done))
        | go_step)
      exact HK.out a _ _ (n - (k + 1)) hD hV (by omega) ⟨k + 1, by omega, rfl, rfl, by simp [hfs], by simp [hfs, h0], by simp [hfs, h1], by simp [hfs, h2], by rw [hsucc.out]; simp [hfs, h7, hPlaced, q1]⟩
    case true =>
      have t1 : IntKind.u64.wrap (k : Int) = (k : Int) := wrapu (by omega)
      have t2 : IntKind.u64.wrap ((k : Int) + 1) = (k : Int) + 1 := by have := wrapu (x := k + 1) (by omega); simpa using this
      have t3 : IntKind.u64.wrap ((k : Int) + 1 + (seed : Int)) = (((k + 1 + seed) % 2 ^ 64 : Nat) : Int) := by have := wrapu_mod (k + 1 + seed); simpa using this
      generalize hy : (k + 1 + seed) % 2 ^ 64 = y at t3
      have t4 := bits_xor hx1 (zmix_lt y)
      have HY := hide hy
      clear hy
      repeat (first
        | (refine wpList_put hD hV ?hd ?_; (case hd => decide); clear hD hV; (try clear a); intro a hD hV)
        | ((first | refine wpList_plain rfl (fun K hK => ?_) | refine wpList_step (fun K hK => ?_)); go_simp; refine hK _ _ ?_; clear hK K)
        | (refine wp_cond_true ?hc ?_; (case hc => simp [Act.eval, hV, hfs]; done))
        | (refine wp_cond_false ?hc ?_; (case hc => simp [Act.eval, hV, hfs]; done))
        | go_step)
      refine (f27_to y w).mono ?_
      rintro e w1 ⟨rfl, hw⟩
      obtain rfl : w = w1 := hw.symm
      clear hw
      dsimp only
      repeat (first
        | (refine wpList_put hD hV ?hd ?_; (case hd => decide); clear hD hV; (try clear a); intro a hD hV)
        | ((first | refine wpList_plain rfl (fun K hK => ?_) | refine wpList_step (fun K hK => ?_)); go_simp; refine hK _ _ ?_; clear hK K)
        | (refine wp_cond_true ?hc ?_; (case hc => simp [Act.eval, hV, hfs]; done))
        | (refine wp_cond_false ?hc ?_; (case hc => simp [Act.eval, hV, hfs]; done))
        | go_step)
      exact HK.out a _ _ (n - (k + 1)) hD hV (by omega) ⟨k + 1, by omega, rfl, rfl, by simp [hfs], by simp [hfs, h0], by simp [hfs, h1], by simp [hfs, h2], by rw [hsucc.out]; simp [hfs, hPlaced, q1, HY.out]⟩
  · repeat (first
      | (refine wpList_put hD hV ?hd ?_; (case hd => decide); clear hD hV; (try clear a); intro a hD hV)
      | ((first | refine wpList_plain rfl (fun K hK => ?_) | refine wpList_step (fun K hK => ?_)); go_simp; refine hK _ _ ?_; clear hK K)
      | (refine wp_cond_true ?hc ?_; (case hc => simp [Act.eval, hV, hfs]; done))
      | (refine wp_cond_false ?hc ?_; (case hc => simp [Act.eval, hV, hfs]; done))
      | go_step)
    obtain rfl : k = n := by omega
    refine wp_loop_f (N := 59) (fun m f w' => ∃ j, j ≤ nv ∧ m = nv - j ∧ w' = w ∧ f 9 = .int .i64 (j : Nat) ∧ f 1 = .slice a5 nv c5 ∧ f 2 = .int .u64 (seed : Nat) ∧ f 7 = .int .u64 (xorOf k (hPlaced zmix seed placed) ^^^ xorOf j (hCur zmix seed current) : Nat)) nv hD hV
      ⟨0, by omega, by omega, rfl, by simp [hfs], by simp [hfs, h1], by simp [hfs, h2], by simp [hfs, h7, xorOf]⟩ ?_
    clear h0 h1 h2 h7 h8 hD hV a f
    intro m2 f w2 a hD hV ⟨j, hj, hm2, hw, h9, h1, h2, h7⟩ K2 hK2
    obtain rfl : w = w2 := hw.symm
    clear hw
    have HK2 := hide hK2
    clear hK2
    have hx2 : xorOf j (hCur zmix seed current) < 2 ^ 64 := xorOf_lt (fun j _ => by rw [hCur_eq]; exact Nat.xor_lt_two_pow (zmix_lt _) (zmix_lt _))
    by_cases hjn : j < nv
    · have n5 := N5.out (by omega)
      have d5 := D5.out j hjn
      have hcj := HC.out j hjn
      have e2 : IntKind.i64.wrap ((j : Int) + 1) = (j : Int) + 1 := w64' (by unfold i64; omega)
      have hx3 : xorOf k (hPlaced zmix seed placed) ^^^ xorOf j (hCur zmix seed current) < 2 ^ 64 := Nat.xor_lt_two_pow hx1 hx2
      have hsucc : Hid (xorOf k (hPlaced zmix seed placed) ^^^ xorOf (j + 1) (hCur zmix seed current) = (xorOf k (hPlaced zmix seed placed) ^^^ xorOf j (hCur zmix seed current)) ^^^ hCur zmix seed current j) := by
        show _ = _
        rw [Nat.xor_assoc]; rfl
      generalize xorOf k (hPlaced zmix seed placed) ^^^ xorOf j (hCur zmix seed current) = X at h7 hx3 hsucc
      cases q1 : (current j != -1)
      case false =>
        have q2 : current j = -1 := by simpa using q1
        repeat (first
          | (refine wpList_put hD hV ?hd ?_; (case hd => decide); clear hD hV; (try clear a); intro a hD hV)
          | ((first | refine wpList_plain rfl (fun K hK => ?_) | refine wpList_step (fun K hK => ?_)); go_simp; refine hK _ _ ?_; clear hK K)
          | (refine wp_cond_true ?hc ?_; (case hc => simp [Act.eval, hV, hfs]; done))
          | (refine wp_cond_false ?hc ?_; (case hc => simp [Act.eval, hV, hfs]; done))
          | go_step)
        exact HK2.out a _ _ (nv - (j + 1)) hD hV (by omega) ⟨j + 1, by omega, rfl, rfl, by simp [hfs], by simp [hfs, h1], by simp [hfs, h2], by rw [hsucc.out]; simp [hfs, h7, hCur, q2]⟩
      case true =>
        have q2 := hide (show current j ≠ -1 by simpa using q1)
        have t0 : IntKind.i32.wrap (j : Int) = (j : Int) := w32' (by unfold i32; omega)
        have t3 : IntKind.u64.wrap ((holdNum j (current j) : Int) + (seed : Int)) = (((holdNum j (current j) + seed) % 2 ^ 64 : Nat) : Int) := by have := wrapu_mod (holdNum j (current j) + seed); simpa using this
        have t4 : IntKind.u64.wrap ((holdNum j (-1) : Int) + (seed : Int)) = (((holdNum j (-1) + seed) % 2 ^ 64 : Nat) : Int) := by have := wrapu_mod (holdNum j (-1) + seed); simpa using this
        generalize hy : (holdNum j (current j) + seed) % 2 ^ 64 = y at t3
        generalize hz : (holdNum j (-1) + seed) % 2 ^ 64 = z at t4
        have t5 := bits_xor (zmix_lt y) (zmix_lt z)
        have t6 := bits_xor hx3 (Nat.xor_lt_two_pow (zmix_lt y) (zmix_lt z))
        have HY := hide hy
        have HZ := hide hz
        have HCJ := hide hcj
        clear hy hz hcj
        repeat (first
          | (refine wpList_put hD hV ?hd ?_; (case hd => decide); clear hD hV; (try clear a); intro a hD hV)
          | ((first | refine wpList_plain rfl (fun K hK => ?_) | refine wpList_step (fun K hK => ?_)); go_simp; refine hK _ _ ?_; clear hK K)
          | (refine wp_cond_true ?hc ?_; (case hc => simp [Act.eval, hV, hfs]; done))
          | (refine wp_cond_false ?hc ?_; (case hc => simp [Act.eval, hV, hfs]; done))
          | go_step)
        refine (f28_to j (current j) w (by omega) HCJ.out.1 HCJ.out.2).mono ?_
        rintro e w1 ⟨rfl, hw⟩
        obtain rfl : w = w1 := hw.symm
        clear hw
        dsimp only
        repeat (first
          | (refine wpList_put hD hV ?hd ?_; (case hd => decide); clear hD hV; (try clear a); intro a hD hV)
          | ((first | refine wpList_plain rfl (fun K hK => ?_) | refine wpList_step (fun K hK => ?_)); go_simp; refine hK _ _ ?_; clear hK K)
          | (refine wp_cond_true ?hc ?_; (case hc => simp [Act.eval, hV, hfs]; done))
          | (refine wp_cond_false ?hc ?_; (case hc => simp [Act.eval, hV, hfs]; done))
          | go_step)
        refine (f27_to y w).mono ?_
        rintro e w1 ⟨rfl, hw⟩
        obtain rfl : w = w1 := hw.symm
        clear hw
        dsimp only
        repeat (first
          | (refine wpList_put hD hV ?hd ?_; (case hd => decide); clear hD hV; (try clear a); intro a hD hV)
          | ((first | refine wpList_plain rfl (fun K hK => ?_) | refine wpList_step (fun K hK => ?_)); go_simp; refine hK _ _ ?_; clear hK K)
          | (refine wp_cond_true ?hc ?_; (case hc => simp [Act.eval, hV, hfs]; done))
          | (refine wp_cond_false ?hc ?_; (case hc => simp [Act.eval, hV, hfs]; done))
          | go_step)
        refine (f28_to j (-1) w (by omega) (by omega) (by omega)).mono ?_
        rintro e w1 ⟨rfl, hw⟩
        obtain rfl : w = w1 := hw.symm
        clear hw
        dsimp only
        repeat (first
          | (refine wpList_put hD hV ?hd ?_; (case hd => decide); clear hD hV; (try clear a); intro a hD hV)
          | ((first | refine wpList_plain rfl (fun K hK => ?_) | refine wpList_step (fun K hK => ?_)); go_simp; refine hK _ _ ?_; clear hK K)
          | (refine wp_cond_true ?hc ?_; (case hc => simp [Act.eval, hV, hfs]; done))
          | (refine wp_cond_false ?hc ?_; (case hc => simp [Act.eval, hV, hfs]; done))
          | go_step)
        refine (f27_to z w).mono ?_
        rintro e w1 ⟨rfl, hw⟩
        obtain rfl : w = w1 := hw.symm
        clear hw
        dsimp only
        repeat (first
          | (refine wpList_put hD hV ?hd ?_; (case hd => decide); clear hD hV; (try clear a); intro a hD hV)
          | ((first | refine wpList_plain rfl (fun K hK => ?_) | refine wpList_step (fun K hK => ?_)); go_simp; refine hK _ _ ?_; clear hK K)
          | (refine wp_cond_true ?hc ?_; (case hc => simp [Act.eval, hV, hfs]; done))
          | (refine wp_cond_false ?hc ?_; (case hc => simp [Act.eval, hV, hfs]; done))
          | go_step)
        exact HK2.out a _ _ (nv - (j + 1)) hD hV (by omega) ⟨j + 1, by omega, rfl, rfl, by simp [hfs], by simp [hfs, h1], by simp [hfs, h2], by rw [hsucc.out, hCur_eq, HY.out, HZ.out]; simp [hfs]⟩
    · repeat (first
        | (refine wpList_put hD hV ?hd ?_; (case hd => decide); clear hD hV; (try clear a); intro a hD hV)
        | ((first | refine wpList_plain rfl (fun K hK => ?_) | refine wpList_step (fun K hK => ?_)); go_simp; refine hK _ _ ?_; clear hK K)
        | (refine wp_cond_true ?hc ?_; (case hc => simp [Act.eval, hV, hfs]; done))
        | (refine wp_cond_false ?hc ?_; (case hc => simp [Act.eval, hV, hfs]; done))
        | go_step)
      obtain rfl : j = nv := by omega
      refine ret_f (N := 59) (s := 6) rfl hD hV (by omega) ⟨?_, rfl⟩
      simp [hfs, h7, hashOf]
end Go.Proofs.Qxb6616080a

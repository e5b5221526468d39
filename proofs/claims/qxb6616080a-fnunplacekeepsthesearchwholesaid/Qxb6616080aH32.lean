import Derived.Test.Qxb6616080aH31
namespace Go.Proofs.Qxb6616080a
open Go.RowKit
set_option linter.unusedVariables false
set_option linter.unusedSimpArgs false
set_option maxRecDepth 100000
section
variable {τ : Nat → Nat} {w : World} {X H : Nat} {T : Ad} {E : Env} {D : Dyn} {tp : Int} {hh : Nat}

theorem datF_ht (D : Dyn) (x : Nat) (y : Int) : datF T E { D with hash := x, toPlace := y } = datF T E D := by
  funext i j
  unfold datF
  split <;> rfl
theorem Tn.ht (h : Tn τ w T E D) (x : Nat) (y : Int) : Tn τ w T E { D with hash := x, toPlace := y } := ⟨by rw [datF_ht]; exact h.row, h.chn, h.lvl⟩
theorem Tn.hash (h : Tn τ w T E D) (x : Nat) : Tn τ w T E { D with hash := x } := h.ht x D.toPlace

theorem Tn.c5 (h : Tn τ w T E D) {j : Nat} (hj : j < E.nv) {x : Int} (hx : D.current j = x) : w.cell? ⟨T.b 5, j, none⟩ = some (.int .i32 x) := hx ▸ (h.row 5 (show 0 < lenF E 5 from Nat.zero_lt_of_lt hj)).2.2.cell (show j < lenF E 5 from hj)

set_option maxHeartbeats 8000000 in
/-- 'setCurrent' -/
theorem f32_to (hT : Tn τ w T E D) (hS : Sx τ w X H T E D.toPlace D.hash) {v : Nat} {p : Int} (hv : v < E.nv) (hnv : E.nv ≤ 4096) (hcu : -1 ≤ D.current v ∧ D.current v < 4096) (hp : -1 ≤ p ∧ p < 4096) (hsd : E.seed < 2 ^ 64) (hhh : D.hash < 2 ^ 64) :
    Calls Try.prog 32 #[.pointer (some ⟨X, 0, none⟩), .int .i32 (v : Nat), .int .i32 p] w fun e w' => e = .returned (.tuple #[]) ∧ Tn τ w' T E (setCurrent E D zmix v p) ∧ Sx τ w' X H T E D.toPlace (setCurrent E D zmix v p).hash ∧ Fx (fun t => t = 50 ∨ t = 5) τ w w' ∧ (setCurrent E D zmix v p).hash < 2 ^ 64 := by
  have hnv0 : 0 < E.nv := Nat.zero_lt_of_lt hv
  have a5 := (hT.row 5 (show 0 < lenF E 5 from hnv0)).1
  have t5 := (hT.row 5 (show 0 < lenF E 5 from hnv0)).2.1
  have f5 := (hT.row 5 (show 0 < lenF E 5 from hnv0)).2.2.frozen v
  obtain ⟨z, hz⟩ : ∃ z, D.current v = z := ⟨_, rfl⟩
  have cc := hT.c5 hv hz
  rw [hz] at hcu
  have x8 := hS.x8
  have b5 : (v : Int) < (E.nv : Int) := by omega
  have h1 := f31_to hS true (v : Nat) z (holdNum v z) (holdNum_lt (by omega) hcu.2) hsd hhh (fun w => f37_hold v z w (by omega) hcu.1 hcu.2)
  obtain ⟨y1, hy1⟩ : ∃ y1, D.hash ^^^ zmix ((holdNum v z + E.seed) % 2 ^ 64) = y1 := ⟨_, rfl⟩
  obtain ⟨y2, hy2⟩ : ∃ y2, y1 ^^^ zmix ((holdNum v p + E.seed) % 2 ^ 64) = y2 := ⟨_, rfl⟩
  have hsc : setCurrent E D zmix v p = { D with current := upd D.current v p, hash := y2 } := by unfold setCurrent; rw [hz, hy1, hy2]
  rw [hsc]
  rw [hy1] at h1
  have HT := hide hT
  have HS := hide hS
  have HY := hide hy2
  have T5 := hide t5
  have HC := hide h1
  clear hT hS hy1 hy2 hsc hz t5 h1
  go_enter Try.func32, Try.ntmps32
  go_wp2_with fail
  refine HC.out.mono ?_
  rintro e w1 ⟨rfl, hS1, hF1, hl1⟩
  have hT1 := HT.out.fx hF1 (fun t ht => by omega)
  have x8' := hS1.x8
  have cc' := hT1.c5 hv rfl
  have f5' := (hT1.row 5 (show 0 < lenF E 5 from hnv0)).2.2.frozen v
  obtain ⟨W2, hW2⟩ : ∃ W2, w1.setCell ⟨T.b 5, v, none⟩ (.int .i32 p) = W2 := ⟨_, rfl⟩
  have hT2 : Tn τ W2 T E _ := hW2 ▸ hT1.setCurrent hv p
  have hF2 : Fx (fun t => t = 50 ∨ t = 5) τ w W2 := hW2 ▸ (hF1.mono (fun t ht => .inl ht)).setCell (show τ (T.b 5) = 50 ∨ τ (T.b 5) = 5 from .inr T5.out) _
  have hFs : Fx (fun t => t = 5) τ w1 W2 := hW2 ▸ (Fx.refl _ _ _).setCell (show τ (T.b 5) = 5 from T5.out) _
  have hS2 := hS1.fx hFs (by omega) (by omega) (by omega)
  have h2 := f31_to hS2 true (v : Nat) p (holdNum v p) (holdNum_lt (by omega) hp.2) hsd hl1 (fun w => f37_hold v p w (by omega) hp.1 hp.2)
  rw [HY.out] at h2
  have HT2 := hide hT2
  have HF2 := hide hF2
  have HC2 := hide h2
  clear hT1 hT2 hF1 hF2 hFs hS1 hS2 h2
  go_wp2_with fail
  refine HC2.out.mono ?_
  rintro e w3 ⟨rfl, hS3, hF3, hl3⟩
  have HS3 := hide hS3
  have HF3 := hide hF3
  have HL3 := hide hl3
  clear hS3 hF3 hl3
  go_wp2_with fail
  refine bodyPost_end (results_none rfl _ _ _) rfl ?_
  exact ⟨rfl, (HT2.out.fx HF3.out (fun t ht => by omega)).hash y2, HS3.out, HF2.out.trans (HF3.out.mono (fun t ht => .inl ht)), HL3.out⟩

set_option maxHeartbeats 8000000 in
/-- 'pending' -/
theorem f34_to (hS : Sx τ w X H T E tp hh) {v : Nat} {s : Int} (hv : v < E.nv) (hs : s = -1 ∨ 0 ≤ s ∧ s < E.n) (hA : T.A 11 = some ⟨T.b 11, 0, none⟩) (hB : s ≠ -1 → T.A 6 = some ⟨T.b 6, 0, none⟩) :
    Calls Try.prog 34 #[.pointer (some ⟨X, 0, none⟩), .int .i32 (v : Nat), .int .i32 s] w fun e w' => e = .returned (.pointer (some (if s = -1 then ⟨T.b 11, v, none⟩ else ⟨T.b 6, s.toNat, none⟩))) ∧ w' = w := by
  have x15 := hS.x15
  have x9 := hS.x9
  have b5 : (v : Int) < (E.nv : Int) := by omega
  rcases hs with rfl | ⟨h0, h1⟩
  · clear hB
    go_enter Try.func34, Try.ntmps34
    go_wp2_with fail
    go_ret
    simp
  · obtain ⟨m, rfl⟩ := Int.eq_ofNat_of_zero_le h0
    have hB' := hB (by omega)
    have q : ((m : Int) == -1) = false := by rw [beq_eq_false_iff_ne]; omega
    have q2 : ¬ ((m : Int) = -1) := by omega
    clear hB
    go_enter Try.func34, Try.ntmps34
    go_wp2_with fail
    go_ret
    simp [q2]

set_option maxHeartbeats 8000000 in
/-- 'checked' -/
theorem f33_to (hS : Sx τ w X H T E tp hh) {i : Nat} (hi : i < E.n) (hn : E.n ≤ 4096) :
    Calls Try.prog 33 #[.pointer (some ⟨X, 0, none⟩), .int .i32 (i : Nat)] w fun e w' => e = .returned (.bool (E.chk i)) ∧ ∃ k, w' = w.drewN k := by
  have x0 := hS.x0
  have x1 := hS.x1
  have hc := hS.hc
  have on := (hS.on (Nat.zero_lt_of_lt hi)).1
  have o0 := hS.o0 i hi
  have o2 := hS.o2 i hi
  have b5 : (i : Int) < (E.n : Int) := by omega
  have hchk : E.chk i = (!E.wr i && (decide (E.only < 0) || decide (E.proc i = E.only))) := rfl
  rw [hchk]
  generalize E.wr i = b at *
  generalize E.proc i = pr at *
  have HS := hide hS
  clear hS hchk
  cases b
  · by_cases q : E.only < 0
    · have q1 : decide (E.only < 0) = true := by simp [q]
      go_enter Try.func33, Try.ntmps33
      go_wp2_with fail
      go_quiet (fail)
      go_wp2_with fail
      go_ret
      refine ⟨?_, _, rfl⟩
      simp [q1]
    · have q1 : decide (E.only < 0) = false := by simp [q]
      by_cases q2 : pr = E.only
      · have q3 : (pr == E.only) = true := by simp [q2]
        go_enter Try.func33, Try.ntmps33
        go_wp2_with fail
        go_quiet (fail)
        go_wp2_with fail
        go_ret
        refine ⟨?_, _, rfl⟩
        simp [q1, q2]
      · have q3 : (pr == E.only) = false := by simp [q2]
        go_enter Try.func33, Try.ntmps33
        go_wp2_with fail
        go_quiet (fail)
        go_wp2_with fail
        go_ret
        refine ⟨?_, _, rfl⟩
        simp [q1, q2]
  · go_enter Try.func33, Try.ntmps33
    go_wp2_with fail
    go_quiet (fail)
    go_wp2_with fail
    go_ret
    refine ⟨?_, _, rfl⟩
    simp
end
end Go.Proofs.Qxb6616080a

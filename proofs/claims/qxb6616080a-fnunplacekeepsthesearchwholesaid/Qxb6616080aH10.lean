import Derived.Test.Qxb6616080aH26
namespace Go.Proofs.Qxb6616080a
open Go.RowKit
set_option linter.unusedVariables false
set_option linter.unusedSimpArgs false
set_option maxRecDepth 100000
section
variable {τ : Nat → Nat} {w : World} {X H : Nat} {T : Ad} {E : Env} {D : Dyn}

def Post10 (T : Ad) (E : Env) (H : Nat) (tp : Int) (hh : Nat) (w : World) (e : Ending) (w' : World) : Prop := ∃ v, e = .returned (.pointer (some ⟨w.heap.size, 0, none⟩)) ∧ Below w.heap.size w w' ∧ w'.heap.size = w.heap.size + 1 ∧ Arr w' w.heap.size 35 61 v ∧ XV T E H tp hh v

theorem wpList_buildTo {P : Program} {ops : Array Oper} {rest : List Oper} {o : Oper} {a : Act} {w : World} {Q : Exit → Act → World → Prop} (hg : o.guard = none) (t : TypeId) (parts : Array (Nat × Operand)) (ho : o.op = .build t parts) (cells : Array Value)
    (hc : P.built t (parts.map fun (i, x) => (i, a.eval x)).toList = some cells) (h : wpList P ops Q rest (a.put o.dst (.agg cells)) w) : wpList P ops Q (o :: rest) a w :=
  wpList_build hg t parts ho (by rw [hc]; rfl) (by rw [hc]; exact h)
def xvalA (T : Ad) (E : Env) (H : Nat) (tp : Int) (hh : Nat) : Array Value := #[.pointer (some ⟨H, 0, none⟩), .int .i32 E.only, .slice (T.A 1) E.nc (T.cap 1), .slice none 0 0, .slice (T.A 2) E.nc (T.cap 2), .int .i64 tp, .slice (T.A 4) E.n (T.cap 4), .slice none 0 0, .slice (T.A 5) E.nv (T.cap 5), .slice (T.A 6) E.n (T.cap 6), .slice (T.A 7) E.n (T.cap 7), .slice none 0 0, .slice none 0 0, .slice none 0 0, .slice none 0 0, .slice (T.A 11) E.nv (T.cap 11), .slice (T.A 8) E.nv (T.cap 8), .slice (T.A 9) E.nv (T.cap 9), .slice (T.A 10) E.n (T.cap 10), .slice none 0 0, .slice none 0 0, .slice (T.A 12) E.nv (T.cap 12), .slice (T.A 13) E.nc (T.cap 13), .slice (T.A 14) E.nc (T.cap 14), .slice (T.A 15) E.nc (T.cap 15), .slice (T.A 16) E.nl (T.cap 16), .slice none 0 0, .int .u64 (E.seed : Nat), .int .u64 (hh : Nat), .map none, .slice none 0 0, .slice none 0 0, .slice none 0 0, .int .i64 0, .int .i64 0]
theorem bld61 (T : Ad) (E : Env) (H : Nat) (tp : Int) (hh : Nat) (w : World) : (Instr.build 61 #[(0, .pointer (some ⟨H, 0, none⟩)), (1, .int .i32 E.only), (2, .slice (T.A 1) E.nc (T.cap 1)), (4, .slice (T.A 2) E.nc (T.cap 2)), (5, .int .i64 tp), (6, .slice (T.A 4) E.n (T.cap 4)), (8, .slice (T.A 5) E.nv (T.cap 5)), (9, .slice (T.A 6) E.n (T.cap 6)), (10, .slice (T.A 7) E.n (T.cap 7)), (16, .slice (T.A 8) E.nv (T.cap 8)), (17, .slice (T.A 9) E.nv (T.cap 9)), (18, .slice (T.A 10) E.n (T.cap 10)), (15, .slice (T.A 11) E.nv (T.cap 11)), (21, .agg #[.slice (T.A 12) E.nv (T.cap 12), .slice (T.A 13) E.nc (T.cap 13), .slice (T.A 14) E.nc (T.cap 14), .slice (T.A 15) E.nc (T.cap 15)]), (22, .agg #[.slice (T.A 16) E.nl (T.cap 16)]), (24, .int .u64 (E.seed : Nat)), (25, .int .u64 (hh : Nat))]).run Try.prog w = .ok (.agg (xvalA T E H tp hh)) w := run_build w 61 _ _ (by kernel_rfl)
theorem box61 (T : Ad) (E : Env) (H : Nat) (tp : Int) (hh : Nat) (w : World) : (Instr.box 61 (.agg (xvalA T E H tp hh))).run Try.prog w = .ok (.pointer (some ⟨w.heap.size, 0, none⟩)) (w.alloc (.cells (xvalA T E H tp hh) 61)) := by
  unfold xvalA
  simp [go_sem]
theorem xvalA_XV (T : Ad) (E : Env) (H : Nat) (tp : Int) (hh : Nat) : XV T E H tp hh (fun j => (xvalA T E H tp hh).getD j undef) := by constructor <;> rfl

set_option maxHeartbeats 8000000 in
/-- 'ZZnewSearch' -/
theorem f10_to (T : Ad) (E : Env) (H : Nat) (tp : Int) (hh : Nat) (w : World) :
    Calls Try.prog 10 #[.pointer (some ⟨H, 0, none⟩), .int .i32 E.only, .slice (T.A 1) E.nc (T.cap 1), .slice (T.A 2) E.nc (T.cap 2), .int .i64 tp, .slice (T.A 4) E.n (T.cap 4), .slice (T.A 5) E.nv (T.cap 5), .slice (T.A 6) E.n (T.cap 6), .slice (T.A 7) E.n (T.cap 7), .slice (T.A 8) E.nv (T.cap 8), .slice (T.A 9) E.nv (T.cap 9), .slice (T.A 10) E.n (T.cap 10), .slice (T.A 11) E.nv (T.cap 11), .slice (T.A 12) E.nv (T.cap 12), .slice (T.A 13) E.nc (T.cap 13), .slice (T.A 14) E.nc (T.cap 14), .slice (T.A 15) E.nc (T.cap 15), .slice (T.A 16) E.nl (T.cap 16), .int .u64 (E.seed : Nat), .int .u64 (hh : Nat)] w (Post10 T E H tp hh w) := by
  have h2 := box61 T E H tp hh w
  obtain ⟨V, hV⟩ : ∃ V, xvalA T E H tp hh = V := ⟨_, rfl⟩
  rw [hV] at h2
  have HV := hide hV
  clear hV
  go_enter Try.func10, Try.ntmps10
  go_wp2_with (refine wpList_buildTo rfl 61 _ rfl V (by rw [← HV.out]; kernel_rfl) ?_)
  go_ret
  refine ⟨fun j => (xvalA T E H tp hh).getD j undef, rfl, (Below.refl _ _).alloc (Nat.le_refl _) _, by simp, ⟨V, by show (w.heap.push _)[w.heap.size]? = _; simp, by rw [← HV.out]; rfl, fun j hj => ?_⟩, xvalA_XV T E H tp hh⟩
  rw [← HV.out]
  have : (xvalA T E H tp hh).size = 35 := rfl
  simp [this, hj]

set_option maxHeartbeats 8000000 in
/-- 'ZZunplace' -/
theorem f12_to (hT : Tn τ w T E D) (hS : Sx τ w X H T E D.toPlace D.hash) (hτ0 : ∀ b, w.heap.size ≤ b → τ b = 0) (hH : Holds E D zmix) (hz : Sz E D) {c : Nat} {p : Int} (hc : c < E.nc) (h1 : 1 ≤ D.next c) (hp : E.wr (E.op c (D.next c - 1).toNat) = true → -1 ≤ p ∧ p < 4096) :
    Calls Try.prog 12 #[.pointer (some ⟨X, 0, none⟩), .int .i64 (c : Nat), .int .i32 p] w fun e w' => e = .returned (.tuple #[]) ∧ Tn τ w' T E (unplace E D zmix c p) ∧ Sx τ w' X H T E (unplace E D zmix c p).toPlace (unplace E D zmix c p).hash ∧ Fx (fun t => t ≠ 0) τ w w' ∧ Sz E (unplace E D zmix c p) := by
  have h := f26_to hT hS hτ0 hH hz hc h1 hp
  generalize unplace E D zmix c p = D' at h ⊢
  have HC := hide h
  clear hT hS hH hz h hτ0
  go_enter Try.func12, Try.ntmps12
  go_wp2_with fail
  refine HC.out.mono ?_
  rintro e w1 ⟨rfl, h2⟩
  have H2 := hide h2
  clear h2
  go_wp2_with fail
  refine bodyPost_end (results_none rfl _ _ _) rfl ?_
  exact ⟨rfl, H2.out⟩

theorem f13_to {tp : Int} {hh : Nat} (hS : Sx τ w X H T E tp hh) : Calls Try.prog 13 #[.pointer (some ⟨X, 0, none⟩)] w fun e w' => e = .returned (.int .i64 tp) ∧ w' = w := by
  have x5 := hS.x5
  clear hS
  go_enter Try.func13, Try.ntmps13
  go_wp2_with fail
  go_ret
  simp
theorem f14_to {tp : Int} {hh : Nat} (hS : Sx τ w X H T E tp hh) : Calls Try.prog 14 #[.pointer (some ⟨X, 0, none⟩)] w fun e w' => e = .returned (.int .u64 (hh : Nat)) ∧ w' = w := by
  have x5 := hS.x28
  clear hS
  go_enter Try.func14, Try.ntmps14
  go_wp2_with fail
  go_ret
  simp

/-- 'sameInt32s' of two rows that hold the same. -/
theorem f15_to (a b : Option Addr) (ab ao bb bo c1 c2 n : Nat) (d : Nat → Int) (w : World) (hn : n ≤ 1048576) (ha : 0 < n → a = some ⟨ab, ao, none⟩) (hb : 0 < n → b = some ⟨bb, bo, none⟩) (hda : ∀ j, j < n → w.cell? ⟨ab, ao + j, none⟩ = some (.int .i32 (d j))) (hdb : ∀ j, j < n → w.cell? ⟨bb, bo + j, none⟩ = some (.int .i32 (d j))) :
    Calls Try.prog 15 #[.slice a n c1, .slice b n c2] w fun e w' => e = .returned (.bool true) ∧ ∃ k, w' = w.drewN k := by
  have HA := hide ha
  have HB := hide hb
  have HDA := hide hda
  have HDB := hide hdb
  clear ha hb hda hdb
  go_enter Try.func15, Try.ntmps15
  go_wp2_with fail
  go_loopg [5] n (fun kx s5 wr => ∃ k : Nat, k ≤ n ∧ kx = n - k ∧ s5 = .int .i64 (k : Nat) ∧ Hid (∃ m, wr = w.drewN m))
  case atStart => exact ⟨0, by omega, by omega, rfl, (⟨0, rfl⟩ : ∃ m, w = w.drewN m)⟩
  case round =>
    obtain ⟨k, hk, hgk, rfl, hw⟩ := hrel
    obtain ⟨m, rfl⟩ := hw.out
    by_cases hkn : k < n
    · have ha := HA.out (by omega)
      have hb := HB.out (by omega)
      have ca := HDA.out k hkn
      have cb := HDB.out k hkn
      have b1 : (k : Int) < (n : Int) := by omega
      have e4 : IntKind.i64.wrap ((k : Int) + 1) = (k : Int) + 1 := w64' (by unfold i64; omega)
      clear hw
      go_wp2_with fail
      go_quiet (fail)
      go_wp2_with fail
      go_roundg (n - (k + 1))
      case measure => omega
      case rel => exact ⟨k + 1, by omega, rfl, by go_num, hide ⟨_, rfl⟩⟩
    · have b1 : ¬ (k : Int) < (n : Int) := by omega
      go_wp2_with fail
      go_ret
      exact ⟨rfl, m, rfl⟩
end
end Go.Proofs.Qxb6616080a

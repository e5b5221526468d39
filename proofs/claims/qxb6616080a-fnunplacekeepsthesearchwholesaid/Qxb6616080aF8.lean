import Derived.Test.Qxb6616080aIn
namespace Go.Proofs.Qxb6616080a
open Go.RowKit
set_option linter.unusedVariables false
set_option linter.unusedSimpArgs false
set_option maxRecDepth 100000

/-- What 'unplacePremise' asks. -/
def Prem (E : Env) (D : Dyn) (cc p : Int) : Prop := ∃ c : Nat, cc = (c : Int) ∧ c < E.nc ∧ 1 ≤ D.next c ∧
  (E.wr (E.op c (D.next c - 1).toNat) = true → p = -1 ∨ ((0 ≤ p ∧ p < E.n) ∧ p ≠ (E.op c (D.next c - 1).toNat : Int) ∧ E.wr p.toNat = true ∧ E.vv p.toNat = E.vv (E.op c (D.next c - 1).toNat) ∧ D.placed p.toNat = true))

set_option maxHeartbeats 8000000 in
/-- 'unplacePremise' -/
theorem f8_to {T : Ad} {E : Env} {D : Dyn} {w : World} {cc p : Int} (hR : Rd w w.heap.size T E D) (hH : Holds E D zmix) (hcc : i64 cc) (hp : i32 p) :
    Calls Try.prog 8 #[.slice T.oA E.n T.oc, .agg (sval T E D), .int .i64 cc, .int .i32 p] w fun e w' => ∃ r : Bool, e = .returned (.bool r) ∧ Below w.heap.size w w' ∧ (r = true → Prem E D cc p) := by
  refine enter_f Try.func8 rfl Try.ntmps8 (by simp) fun a hD hV0 => ?_
  have hfs := fset_at
  obtain ⟨f, hf⟩ : ∃ f : Nat → Value, f = fun j => (#[.slice T.oA E.n T.oc, .agg (sval T E D), .int .i64 cc, .int .i32 p] : Array Value).getD j undef := ⟨_, rfl⟩
  have h0 : f 0 = .slice T.oA E.n T.oc := by rw [hf]; rfl
  have h1 : f 1 = .agg (sval T E D) := by rw [hf]; rfl
  have h2 : f 2 = .int .i64 cc := by rw [hf]; rfl
  have h3 : f 3 = .int .i32 p := by rw [hf]; rfl
  have hV : ∀ j, j < 89 → a.tmps[j]? = some (f j) := fun j hj => by rw [hV0 j hj, hf]
  have hbox : (Instr.box 30 (.agg (sval T E D))).run Try.prog w = .ok (.pointer (some ⟨w.heap.size, 0, none⟩)) (w.alloc (.cells (sval T E D) 30)) := box_r T.A (lenF E) T.cap E.only D.toPlace E.seed D.hash w
  obtain ⟨V, hVe⟩ : ∃ V, sval T E D = V := ⟨_, rfl⟩
  obtain ⟨W, hWe⟩ : ∃ W, w.alloc (.cells (sval T E D) 30) = W := ⟨_, rfl⟩
  obtain ⟨S, hSe⟩ : ∃ S, w.heap.size = S := ⟨_, rfl⟩
  have hcell : ∀ i, i < 19 → W.cell? ⟨S, i, none⟩ = some ((sval T E D).getD i undef) := fun i hi => by
    rw [← hWe, ← hSe, World.cell?_alloc_new]
    have : i < (sval T E D).size := hi
    simp [this]
  have HBel : Hid (Below w.heap.size w W) := hWe ▸ (Below.refl _ _).alloc (Nat.le_refl _) _
  have HR := hide (hR.below HBel.out)
  rw [hWe, hSe] at hbox
  have s1 : W.cell? ⟨S, 1, none⟩ = some (.slice (T.A 1) E.nc (T.cap 1)) := hcell 1 (by decide)
  have s2 : W.cell? ⟨S, 2, none⟩ = some (.slice (T.A 2) E.nc (T.cap 2)) := hcell 2 (by decide)
  have s4 : W.cell? ⟨S, 4, none⟩ = some (.slice (T.A 4) E.n (T.cap 4)) := hcell 4 (by decide)
  have fin : Hid (∀ (a : Act) (g : Nat → Value) (q : Nat) (r : Bool), a.defers = [] → (∀ j, j < 89 → a.tmps[j]? = some (g j)) → g 8 = .bool r → (r = true → Prem E D cc p) →
      bodyPost Try.prog Try.f8 (fun e w' => ∃ r : Bool, e = .returned (.bool r) ∧ Below w.heap.size w w' ∧ (r = true → Prem E D cc p)) .ret a (W.drewN q)) :=
    fun a g q r h1 h2 h3 h4 => ret_f (N := 89) (s := 8) rfl h1 h2 (by omega) ⟨r, by rw [h3], bdrewN HBel.out q, h4⟩
  have HH := hide hH
  rw [hVe] at hbox h1 hWe
  have mc := hR.m_c
  have mn := hR.m_n
  unfold i64 at hcc
  unfold i32 at hp
  clear hf hV0 hcell hR hH
  generalize bodyPost Try.prog Try.f8 (fun e w' => ∃ r : Bool, e = .returned (.bool r) ∧ Below w.heap.size w w' ∧ (r = true → Prem E D cc p)) = Q at fin ⊢
  clear HBel
  by_cases q1 : cc < 0
  · repeat (first
      | (refine wpList_put hD hV ?hd ?_; (case hd => decide); clear hD hV; (try clear a); intro a hD hV)
      | ((first | refine wpList_plain rfl (fun K hK => ?_) | refine wpList_step (fun K hK => ?_)); go_simp; refine hK _ _ ?_; clear hK K)
      | (refine wp_cond_true ?hc ?_; (case hc => simp [Act.eval, hV, hfs]; done))
      | (refine wp_cond_false ?hc ?_; (case hc => simp [Act.eval, hV, hfs]; done))
      | go_step)
    exact fin.out a _ 0 false hD hV (by simp [hfs]) (fun h => by cases h)
  obtain ⟨c, rfl⟩ : ∃ c : Nat, cc = (c : Int) := ⟨cc.toNat, by omega⟩
  have z0 : ¬ (c : Int) < 0 := q1
  clear q1
  by_cases q2 : (E.nc : Int) ≤ (c : Int)
  · repeat (first
      | (refine wpList_put hD hV ?hd ?_; (case hd => decide); clear hD hV; (try clear a); intro a hD hV)
      | ((first | refine wpList_plain rfl (fun K hK => ?_) | refine wpList_step (fun K hK => ?_)); go_simp; refine hK _ _ ?_; clear hK K)
      | (refine wp_cond_true ?hc ?_; (case hc => simp [Act.eval, hV, hfs]; done))
      | (refine wp_cond_false ?hc ?_; (case hc => simp [Act.eval, hV, hfs]; done))
      | go_step)
    exact fin.out a _ 0 false hD hV (by simp [hfs]) (fun h => by cases h)
  have hc : c < E.nc := by omega
  have n2 := HR.out.n2 (by omega)
  have d2 := HR.out.d2 c hc
  by_cases q3 : D.next c < 1
  · repeat (first
      | (refine wpList_put hD hV ?hd ?_; (case hd => decide); clear hD hV; (try clear a); intro a hD hV)
      | ((first | refine wpList_plain rfl (fun K hK => ?_) | refine wpList_step (fun K hK => ?_)); go_simp; refine hK _ _ ?_; clear hK K)
      | (refine wp_cond_true ?hc ?_; (case hc => simp [Act.eval, hV, hfs]; done))
      | (refine wp_cond_false ?hc ?_; (case hc => simp [Act.eval, hV, hfs]; done))
      | go_step)
    exact fin.out a _ 0 false hD hV (by simp [hfs]) (fun h => by cases h)
  have hnx := HH.out.nx c hc
  obtain ⟨m, hm⟩ := Int.eq_ofNat_of_zero_le hnx.1
  obtain ⟨k, hk⟩ : ∃ k : Nat, m = k + 1 := ⟨m - 1, by omega⟩
  have hkl : k < E.cl c := by omega
  have hcl := HR.out.m_cl c hc
  have hchr := HH.out.chr c hc k hkl
  obtain ⟨i, hi⟩ := Int.eq_ofNat_of_zero_le hchr.1
  have hin : i < E.n := by omega
  have hop : E.op c k = i := by unfold Env.op; omega
  have hop' : E.op c (D.next c - 1).toNat = i := by rw [show (D.next c - 1).toNat = k by omega]; exact hop
  have n1 := HR.out.n1 (by omega)
  have d1 := HR.out.d1 c hc
  have nch := HR.out.cn c hc (by omega)
  have dch := HR.out.cd c hc k hkl
  rw [hi] at dch
  have on := HR.out.on (by omega)
  have o2 := HR.out.o2 i hin
  have o3 := HR.out.o3 i hin
  have e1 : IntKind.i64.wrap ((D.next c) - 1) = (k : Int) := by rw [wrap64 (by unfold i64; omega)]; omega
  have b1 : (c : Int) < (E.nc : Int) := by omega
  have b2 : (k : Int) < (E.cl c : Int) := by omega
  have b3 : (i : Int) < (E.n : Int) := by omega
  have HP : Hid (D.next c = m ∧ m = k + 1) := ⟨hm, hk⟩
  clear hm hk hnx hchr hi hop
  have HOP := hide hop'
  clear hop'
  cases qw : E.wr i
  case false =>
    rw [qw] at o2
    repeat (first
      | (refine wpList_put hD hV ?hd ?_; (case hd => decide); clear hD hV; (try clear a); intro a hD hV)
      | ((first | refine wpList_plain rfl (fun K hK => ?_) | refine wpList_step (fun K hK => ?_)); go_simp; refine hK _ _ ?_; clear hK K)
      | (refine wp_cond_true ?hc ?_; (case hc => simp [Act.eval, hV, hfs]; done))
      | (refine wp_cond_false ?hc ?_; (case hc => simp [Act.eval, hV, hfs]; done))
      | go_step)
    refine wp_region_quiet_lit (by kernel_rfl) (by kernel_rfl) ?_
    repeat (first
      | (refine wpQuiet_put hD hV ?hd ?_; (case hd => decide); clear hD hV; (try clear a); intro a hD hV)
      | (refine wpQuiet_step (fun K hK => ?_); go_simp; refine hK _ ?_; clear hK K))
    refine wpQuiet_nil ?_
    intro w' hw'
    obtain ⟨nq, hw''⟩ := hw'
    subst hw''
    repeat (first
      | (refine wpList_put hD hV ?hd ?_; (case hd => decide); clear hD hV; (try clear a); intro a hD hV)
      | ((first | refine wpList_plain rfl (fun K hK => ?_) | refine wpList_step (fun K hK => ?_)); go_simp; refine hK _ _ ?_; clear hK K)
      | (refine wp_cond_true ?hc ?_; (case hc => simp [Act.eval, hV, hfs]; done))
      | (refine wp_cond_false ?hc ?_; (case hc => simp [Act.eval, hV, hfs]; done))
      | go_step)
    exact fin.out a _ _ true hD hV (by simp [hfs]) (fun _ => ⟨c, rfl, hc, by omega, fun h => by rw [HOP.out, qw] at h; cases h⟩)
  case true =>
    rw [qw] at o2
    by_cases q4 : p = -1
    · subst q4
      repeat (first
        | (refine wpList_put hD hV ?hd ?_; (case hd => decide); clear hD hV; (try clear a); intro a hD hV)
        | ((first | refine wpList_plain rfl (fun K hK => ?_) | refine wpList_step (fun K hK => ?_)); go_simp; refine hK _ _ ?_; clear hK K)
        | (refine wp_cond_true ?hc ?_; (case hc => simp [Act.eval, hV, hfs]; done))
        | (refine wp_cond_false ?hc ?_; (case hc => simp [Act.eval, hV, hfs]; done))
        | go_step)
      refine wp_region_quiet_lit (by kernel_rfl) (by kernel_rfl) ?_
      repeat (first
        | (refine wpQuiet_put hD hV ?hd ?_; (case hd => decide); clear hD hV; (try clear a); intro a hD hV)
        | (refine wpQuiet_step (fun K hK => ?_); go_simp; refine hK _ ?_; clear hK K))
      refine wpQuiet_nil ?_
      intro w' hw'
      obtain ⟨nq, hw''⟩ := hw'
      subst hw''
      repeat (first
        | (refine wpList_put hD hV ?hd ?_; (case hd => decide); clear hD hV; (try clear a); intro a hD hV)
        | ((first | refine wpList_plain rfl (fun K hK => ?_) | refine wpList_step (fun K hK => ?_)); go_simp; refine hK _ _ ?_; clear hK K)
        | (refine wp_cond_true ?hc ?_; (case hc => simp [Act.eval, hV, hfs]; done))
        | (refine wp_cond_false ?hc ?_; (case hc => simp [Act.eval, hV, hfs]; done))
        | go_step)
      exact fin.out a _ _ true hD hV (by simp [hfs]) (fun _ => ⟨c, rfl, hc, by omega, fun _ => .inl rfl⟩)
    have q4' : (p == -1) = false := by simp [q4]
    by_cases q5 : p < 0
    · repeat (first
        | (refine wpList_put hD hV ?hd ?_; (case hd => decide); clear hD hV; (try clear a); intro a hD hV)
        | ((first | refine wpList_plain rfl (fun K hK => ?_) | refine wpList_step (fun K hK => ?_)); go_simp; refine hK _ _ ?_; clear hK K)
        | (refine wp_cond_true ?hc ?_; (case hc => simp [Act.eval, hV, hfs]; done))
        | (refine wp_cond_false ?hc ?_; (case hc => simp [Act.eval, hV, hfs]; done))
        | go_step)
      refine wp_region_quiet_lit (by kernel_rfl) (by kernel_rfl) ?_
      repeat (first
        | (refine wpQuiet_put hD hV ?hd ?_; (case hd => decide); clear hD hV; (try clear a); intro a hD hV)
        | (refine wpQuiet_step (fun K hK => ?_); go_simp; refine hK _ ?_; clear hK K))
      refine wpQuiet_nil ?_
      intro w' hw'
      obtain ⟨nq, hw''⟩ := hw'
      subst hw''
      repeat (first
        | (refine wpList_put hD hV ?hd ?_; (case hd => decide); clear hD hV; (try clear a); intro a hD hV)
        | ((first | refine wpList_plain rfl (fun K hK => ?_) | refine wpList_step (fun K hK => ?_)); go_simp; refine hK _ _ ?_; clear hK K)
        | (refine wp_cond_true ?hc ?_; (case hc => simp [Act.eval, hV, hfs]; done))
        | (refine wp_cond_false ?hc ?_; (case hc => simp [Act.eval, hV, hfs]; done))
        | go_step)
      exact fin.out a _ _ false hD hV (by simp [hfs]) (fun h => by cases h)
    have e2 : IntKind.i64.wrap p = p := wrap64 (by unfold i64; omega)
    by_cases q6 : (E.n : Int) ≤ p
    · repeat (first
        | (refine wpList_put hD hV ?hd ?_; (case hd => decide); clear hD hV; (try clear a); intro a hD hV)
        | ((first | refine wpList_plain rfl (fun K hK => ?_) | refine wpList_step (fun K hK => ?_)); go_simp; refine hK _ _ ?_; clear hK K)
        | (refine wp_cond_true ?hc ?_; (case hc => simp [Act.eval, hV, hfs]; done))
        | (refine wp_cond_false ?hc ?_; (case hc => simp [Act.eval, hV, hfs]; done))
        | go_step)
      refine wp_region_quiet_lit (by kernel_rfl) (by kernel_rfl) ?_
      repeat (first
        | (refine wpQuiet_put hD hV ?hd ?_; (case hd => decide); clear hD hV; (try clear a); intro a hD hV)
        | (refine wpQuiet_step (fun K hK => ?_); go_simp; refine hK _ ?_; clear hK K))
      refine wpQuiet_nil ?_
      intro w' hw'
      obtain ⟨nq, hw''⟩ := hw'
      subst hw''
      repeat (first
        | (refine wpList_put hD hV ?hd ?_; (case hd => decide); clear hD hV; (try clear a); intro a hD hV)
        | ((first | refine wpList_plain rfl (fun K hK => ?_) | refine wpList_step (fun K hK => ?_)); go_simp; refine hK _ _ ?_; clear hK K)
        | (refine wp_cond_true ?hc ?_; (case hc => simp [Act.eval, hV, hfs]; done))
        | (refine wp_cond_false ?hc ?_; (case hc => simp [Act.eval, hV, hfs]; done))
        | go_step)
      exact fin.out a _ _ false hD hV (by simp [hfs]) (fun h => by cases h)
    by_cases q7 : p = (i : Int)
    · have q7' : (p == (i : Int)) = true := by simp [q7]
      repeat (first
        | (refine wpList_put hD hV ?hd ?_; (case hd => decide); clear hD hV; (try clear a); intro a hD hV)
        | ((first | refine wpList_plain rfl (fun K hK => ?_) | refine wpList_step (fun K hK => ?_)); go_simp; refine hK _ _ ?_; clear hK K)
        | (refine wp_cond_true ?hc ?_; (case hc => simp [Act.eval, hV, hfs]; done))
        | (refine wp_cond_false ?hc ?_; (case hc => simp [Act.eval, hV, hfs]; done))
        | go_step)
      refine wp_region_quiet_lit (by kernel_rfl) (by kernel_rfl) ?_
      repeat (first
        | (refine wpQuiet_put hD hV ?hd ?_; (case hd => decide); clear hD hV; (try clear a); intro a hD hV)
        | (refine wpQuiet_step (fun K hK => ?_); go_simp; refine hK _ ?_; clear hK K))
      refine wpQuiet_nil ?_
      intro w' hw'
      obtain ⟨nq, hw''⟩ := hw'
      subst hw''
      repeat (first
        | (refine wpList_put hD hV ?hd ?_; (case hd => decide); clear hD hV; (try clear a); intro a hD hV)
        | ((first | refine wpList_plain rfl (fun K hK => ?_) | refine wpList_step (fun K hK => ?_)); go_simp; refine hK _ _ ?_; clear hK K)
        | (refine wp_cond_true ?hc ?_; (case hc => simp [Act.eval, hV, hfs]; done))
        | (refine wp_cond_false ?hc ?_; (case hc => simp [Act.eval, hV, hfs]; done))
        | go_step)
      exact fin.out a _ _ false hD hV (by simp [hfs]) (fun h => by cases h)
    have q7' : (p == (i : Int)) = false := by simp [q7]
    obtain ⟨j, rfl⟩ : ∃ j : Nat, p = (j : Int) := ⟨p.toNat, by omega⟩
    have hj : j < E.n := by omega
    have b4 : (j : Int) < (E.n : Int) := by omega
    have p2 := HR.out.o2 j hj
    have p3 := HR.out.o3 j hj
    have n4 := HR.out.n4 (by omega)
    have d4 := HR.out.d4 j hj
    cases qj : E.wr j
    case false =>
      rw [qj] at p2
      repeat (first
        | (refine wpList_put hD hV ?hd ?_; (case hd => decide); clear hD hV; (try clear a); intro a hD hV)
        | ((first | refine wpList_plain rfl (fun K hK => ?_) | refine wpList_step (fun K hK => ?_)); go_simp; refine hK _ _ ?_; clear hK K)
        | (refine wp_cond_true ?hc ?_; (case hc => simp [Act.eval, hV, hfs]; done))
        | (refine wp_cond_false ?hc ?_; (case hc => simp [Act.eval, hV, hfs]; done))
        | go_step)
      refine wp_region_quiet_lit (by kernel_rfl) (by kernel_rfl) ?_
      repeat (first
        | (refine wpQuiet_put hD hV ?hd ?_; (case hd => decide); clear hD hV; (try clear a); intro a hD hV)
        | (refine wpQuiet_step (fun K hK => ?_); go_simp; refine hK _ ?_; clear hK K))
      refine wpQuiet_nil ?_
      intro w' hw'
      obtain ⟨nq, hw''⟩ := hw'
      subst hw''
      repeat (first
        | (refine wpList_put hD hV ?hd ?_; (case hd => decide); clear hD hV; (try clear a); intro a hD hV)
        | ((first | refine wpList_plain rfl (fun K hK => ?_) | refine wpList_step (fun K hK => ?_)); go_simp; refine hK _ _ ?_; clear hK K)
        | (refine wp_cond_true ?hc ?_; (case hc => simp [Act.eval, hV, hfs]; done))
        | (refine wp_cond_false ?hc ?_; (case hc => simp [Act.eval, hV, hfs]; done))
        | go_step)
      refine wp_region_quiet_lit (by kernel_rfl) (by kernel_rfl) ?_
      repeat (first
        | (refine wpQuiet_put hD hV ?hd ?_; (case hd => decide); clear hD hV; (try clear a); intro a hD hV)
        | (refine wpQuiet_step (fun K hK => ?_); go_simp; refine hK _ ?_; clear hK K))
      refine wpQuiet_nil ?_
      intro w' hw'
      obtain ⟨nq, hw''⟩ := hw'
      subst hw''
      repeat (first
        | (refine wpList_put hD hV ?hd ?_; (case hd => decide); clear hD hV; (try clear a); intro a hD hV)
        | ((first | refine wpList_plain rfl (fun K hK => ?_) | refine wpList_step (fun K hK => ?_)); go_simp; refine hK _ _ ?_; clear hK K)
        | (refine wp_cond_true ?hc ?_; (case hc => simp [Act.eval, hV, hfs]; done))
        | (refine wp_cond_false ?hc ?_; (case hc => simp [Act.eval, hV, hfs]; done))
        | go_step)
      rw [World.drewN_drewN]
      exact fin.out a _ _ false hD hV (by simp [hfs]) (fun h => by cases h)
    case true =>
      rw [qj] at p2
      cases qv : (E.vv j == E.vv i)
      case false =>
        repeat (first
          | (refine wpList_put hD hV ?hd ?_; (case hd => decide); clear hD hV; (try clear a); intro a hD hV)
          | ((first | refine wpList_plain rfl (fun K hK => ?_) | refine wpList_step (fun K hK => ?_)); go_simp; refine hK _ _ ?_; clear hK K)
          | (refine wp_cond_true ?hc ?_; (case hc => simp [Act.eval, hV, hfs]; done))
          | (refine wp_cond_false ?hc ?_; (case hc => simp [Act.eval, hV, hfs]; done))
          | go_step)
        refine wp_region_quiet_lit (by kernel_rfl) (by kernel_rfl) ?_
        repeat (first
          | (refine wpQuiet_put hD hV ?hd ?_; (case hd => decide); clear hD hV; (try clear a); intro a hD hV)
          | (refine wpQuiet_step (fun K hK => ?_); go_simp; refine hK _ ?_; clear hK K))
        refine wpQuiet_nil ?_
        intro w' hw'
        obtain ⟨nq, hw''⟩ := hw'
        subst hw''
        repeat (first
          | (refine wpList_put hD hV ?hd ?_; (case hd => decide); clear hD hV; (try clear a); intro a hD hV)
          | ((first | refine wpList_plain rfl (fun K hK => ?_) | refine wpList_step (fun K hK => ?_)); go_simp; refine hK _ _ ?_; clear hK K)
          | (refine wp_cond_true ?hc ?_; (case hc => simp [Act.eval, hV, hfs]; done))
          | (refine wp_cond_false ?hc ?_; (case hc => simp [Act.eval, hV, hfs]; done))
          | go_step)
        refine wp_region_quiet_lit (by kernel_rfl) (by kernel_rfl) ?_
        repeat (first
          | (refine wpQuiet_put hD hV ?hd ?_; (case hd => decide); clear hD hV; (try clear a); intro a hD hV)
          | (refine wpQuiet_step (fun K hK => ?_); go_simp; refine hK _ ?_; clear hK K))
        refine wpQuiet_nil ?_
        intro w' hw'
        obtain ⟨nq, hw''⟩ := hw'
        subst hw''
        repeat (first
          | (refine wpList_put hD hV ?hd ?_; (case hd => decide); clear hD hV; (try clear a); intro a hD hV)
          | ((first | refine wpList_plain rfl (fun K hK => ?_) | refine wpList_step (fun K hK => ?_)); go_simp; refine hK _ _ ?_; clear hK K)
          | (refine wp_cond_true ?hc ?_; (case hc => simp [Act.eval, hV, hfs]; done))
          | (refine wp_cond_false ?hc ?_; (case hc => simp [Act.eval, hV, hfs]; done))
          | go_step)
        rw [World.drewN_drewN]
        exact fin.out a _ _ false hD hV (by simp [hfs]) (fun h => by cases h)
      case true =>
        repeat (first
          | (refine wpList_put hD hV ?hd ?_; (case hd => decide); clear hD hV; (try clear a); intro a hD hV)
          | ((first | refine wpList_plain rfl (fun K hK => ?_) | refine wpList_step (fun K hK => ?_)); go_simp; refine hK _ _ ?_; clear hK K)
          | (refine wp_cond_true ?hc ?_; (case hc => simp [Act.eval, hV, hfs]; done))
          | (refine wp_cond_false ?hc ?_; (case hc => simp [Act.eval, hV, hfs]; done))
          | go_step)
        refine wp_region_quiet_lit (by kernel_rfl) (by kernel_rfl) ?_
        repeat (first
          | (refine wpQuiet_put hD hV ?hd ?_; (case hd => decide); clear hD hV; (try clear a); intro a hD hV)
          | (refine wpQuiet_step (fun K hK => ?_); go_simp; refine hK _ ?_; clear hK K))
        refine wpQuiet_nil ?_
        intro w' hw'
        obtain ⟨nq, hw''⟩ := hw'
        subst hw''
        repeat (first
          | (refine wpList_put hD hV ?hd ?_; (case hd => decide); clear hD hV; (try clear a); intro a hD hV)
          | ((first | refine wpList_plain rfl (fun K hK => ?_) | refine wpList_step (fun K hK => ?_)); go_simp; refine hK _ _ ?_; clear hK K)
          | (refine wp_cond_true ?hc ?_; (case hc => simp [Act.eval, hV, hfs]; done))
          | (refine wp_cond_false ?hc ?_; (case hc => simp [Act.eval, hV, hfs]; done))
          | go_step)
        refine wp_region_quiet_lit (by kernel_rfl) (by kernel_rfl) ?_
        repeat (first
          | (refine wpQuiet_put hD hV ?hd ?_; (case hd => decide); clear hD hV; (try clear a); intro a hD hV)
          | (refine wpQuiet_step (fun K hK => ?_); go_simp; refine hK _ ?_; clear hK K))
        refine wpQuiet_nil ?_
        intro w' hw'
        obtain ⟨nq, hw''⟩ := hw'
        subst hw''
        repeat (first
          | (refine wpList_put hD hV ?hd ?_; (case hd => decide); clear hD hV; (try clear a); intro a hD hV)
          | ((first | refine wpList_plain rfl (fun K hK => ?_) | refine wpList_step (fun K hK => ?_)); go_simp; refine hK _ _ ?_; clear hK K)
          | (refine wp_cond_true ?hc ?_; (case hc => simp [Act.eval, hV, hfs]; done))
          | (refine wp_cond_false ?hc ?_; (case hc => simp [Act.eval, hV, hfs]; done))
          | go_step)
        rw [World.drewN_drewN]
        refine fin.out a _ _ (D.placed j) hD hV (by simp [hfs]) (fun hpl => ⟨c, rfl, hc, by omega, fun _ => .inr ⟨by omega, ?_, ?_, ?_, ?_⟩⟩)
        · rw [HOP.out]; exact q7
        · exact qj
        · rw [HOP.out]; simpa using qv
        · exact hpl
end Go.Proofs.Qxb6616080a

import Derived.Test.Qxb6616080aC9
import Derived.Test.Qxb6616080aG6
namespace Go.Proofs.Qxb6616080a
open Go.RowKit
set_option linter.unusedVariables false
set_option linter.unusedSimpArgs false
set_option maxRecDepth 100000

def Post9 (E : Env) (D : Dyn) (w : World) (e : Ending) (w' : World) : Prop := ∃ τ T', e = .returned (.agg (sval T' E D)) ∧ Tn τ w' T' E D ∧ Below w.heap.size w w' ∧ (∀ b, b < w.heap.size → τ b = 0) ∧ (∀ b, w'.heap.size ≤ b → τ b = 0) ∧ (T'.o = (fun _ => 0) ∧ T'.co = (fun _ => 0) ∧ T'.lo = (fun _ => 0))

theorem Arr.of_alloc (w : World) (xs : Array Value) (ty : TypeId) (v : Nat → Value) (n : Nat) (hn : xs.size = n) (hv : ∀ j, j < n → xs[j]? = some (v j)) : Arr (w.alloc (.cells xs ty)) w.heap.size n ty v :=
  ⟨xs, by show (w.heap.push _)[w.heap.size]? = _; simp, hn, hv⟩
theorem C9.init (w : World) (T : Ad) (E : Env) (D : Dyn) (zs : Array Value) (hzs : zs.size = 19) :
    C9 w (((w.alloc (.cells (sval T E D) 30)).alloc (.cells zs 30)).alloc (.cells zs 30)) 0 (fun _ => 0) T { T with o := fun _ => 0, co := fun _ => 0, lo := fun _ => 0 } E D w.heap.size (w.heap.size + 1) (w.heap.size + 1 + 1) := by
  have h1 : Arr (w.alloc (.cells (sval T E D) 30)) w.heap.size 19 30 (sF T E D) := Arr.of_alloc w _ 30 _ 19 rfl (sval_at T E D)
  have h2 : Arr ((w.alloc (.cells (sval T E D) 30)).alloc (.cells zs 30)) (w.heap.size + 1) 19 30 (fun j => zs.getD j undef) := by
    have := Arr.of_alloc (w.alloc (.cells (sval T E D) 30)) zs 30 (fun j => zs.getD j undef) 19 hzs (fun j hj => by simp [hzs, hj])
    simpa using this
  have h3 : Arr (((w.alloc (.cells (sval T E D) 30)).alloc (.cells zs 30)).alloc (.cells zs 30)) (w.heap.size + 1 + 1) 19 30 (fun j => zs.getD j undef) := by
    have := Arr.of_alloc ((w.alloc (.cells (sval T E D) 30)).alloc (.cells zs 30)) zs 30 (fun j => zs.getD j undef) 19 hzs (fun j hj => by simp [hzs, hj])
    simpa using this
  exact ⟨Cpy.start ((((Below.refl _ _).alloc (Nat.le_refl _) _).alloc (by simp) _).alloc (by simp; omega) _) _ _ _, (h1.alloc _).alloc _, ⟨_, h2.alloc _⟩, ⟨_, h3, fun j hj => by omega⟩, Nat.le_refl _, by omega, by omega, rfl, rfl, rfl, by omega, by omega, ⟨rfl, rfl, rfl⟩⟩

theorem sval_one (T : Ad) (E : Env) (D : Dyn) : (sval T E D).all (·.oneCell') = true := by simp [sval, Value.oneCell']
theorem Try.info30' : (Try.prog.info? 30).map (·.size) = some 19 := by kernel_rfl

set_option maxHeartbeats 16000000 in
theorem f9_to {T : Ad} {E : Env} {D : Dyn} {w : World} (hR : Rd w w.heap.size T E D) (hz : ∀ i, 1 ≤ i → i ≤ 16 → i ≠ 3 → T.A i = none → lenF E i = 0 ∧ T.cap i = 0) (hcz : ∀ c, c < E.nc → T.cA c = none → E.cl c = 0 ∧ T.cc c = 0) (hlz : ∀ l, l < E.nl → T.lA l = none → E.ll l = 0 ∧ T.lc l = 0) :
    Calls Try.prog 9 #[.agg (sval T E D)] w (Post9 E D w) := by
  have HR := hide hR
  clear hR
  have hbox := box_r T.A (lenF E) T.cap E.only D.toPlace E.seed D.hash w
  have er : rval T.A (lenF E) T.cap E.only D.toPlace E.seed D.hash = sval T E D := rfl
  rw [er] at hbox
  have HC := C9.init w T E D #[.int .i32 0, .slice none 0 0, .slice none 0 0, .int .i64 0, .slice none 0 0, .slice none 0 0, .slice none 0 0, .slice none 0 0, .slice none 0 0, .slice none 0 0, .slice none 0 0, .slice none 0 0, .slice none 0 0, .slice none 0 0, .slice none 0 0, .slice none 0 0, .slice none 0 0, .int .u64 0, .int .u64 0] rfl
  obtain ⟨V, hV⟩ : ∃ V, sval T E D = V := ⟨_, rfl⟩
  rw [hV] at hbox HC ⊢
  obtain ⟨W, hW⟩ : ∃ W, ((w.alloc (.cells V 30)).alloc (.cells #[.int .i32 0, .slice none 0 0, .slice none 0 0, .int .i64 0, .slice none 0 0, .slice none 0 0, .slice none 0 0, .slice none 0 0, .slice none 0 0, .slice none 0 0, .slice none 0 0, .slice none 0 0, .slice none 0 0, .slice none 0 0, .slice none 0 0, .slice none 0 0, .slice none 0 0, .int .u64 0, .int .u64 0] 30)).alloc (.cells #[.int .i32 0, .slice none 0 0, .slice none 0 0, .int .i64 0, .slice none 0 0, .slice none 0 0, .slice none 0 0, .slice none 0 0, .slice none 0 0, .slice none 0 0, .slice none 0 0, .slice none 0 0, .slice none 0 0, .slice none 0 0, .slice none 0 0, .slice none 0 0, .slice none 0 0, .int .u64 0, .int .u64 0] 30) = W := ⟨_, rfl⟩
  obtain ⟨g, hg⟩ : ∃ g, w.heap.size = g := ⟨_, rfl⟩
  rw [hW, hg] at HC
  have H := hide HC
  have HG := hide hg
  have mn := hide HR.out.m_n
  have mc := hide HR.out.m_c
  have mv := hide HR.out.m_v
  clear HC er hV
  have HZ := hide hz
  have HCZ := hide hcz
  have HLZ := hide hlz
  clear hz hcz hlz
  have s0 : W.cell? ⟨g, 0, none⟩ = some (.int .i32 E.only) := H.out.x (by omega) rfl
  obtain ⟨tv0, tc0, tf0⟩ := H.out.tc (Below.refl _ _) 0 (by omega)
  obtain ⟨Wn0, hW0⟩ : ∃ W', W.setCell ⟨g + 1 + 1, 0, none⟩ (.int .i32 E.only) = W' := ⟨_, rfl⟩
  have H' := hide (hW0 ▸ H.out.scalar (by omega) rfl : C9 w Wn0 1 _ _ _ _ _ _ _ _)
  clear H
  have H := hide H'.out
  clear H'
  have s1 : Wn0.cell? ⟨g, 1, none⟩ = some (.slice (T.A 1) E.nc (T.cap 1)) := H.out.x (by omega) rfl
  go_enter Try.func9, Try.ntmps9
  go_wp2_with fail
  refine (f19_to (T.A 1) (T.b 1) (T.o 1) (T.cap 1) E.nc T.cA E.cl T.cc T.cb T.co E.ch Wn0 (by have := mc.out; omega) (HZ.out 1 (by omega) (by omega) (by omega)) HR.out.n1 (HR.out.below H.out.cp.bel).d1 HR.out.m_cl HCZ.out HR.out.cn (HR.out.below H.out.cp.bel).cd).mono ?_
  rintro e w1 ⟨a', c', A', B', C', rfl, hb, hor, hcls⟩
  obtain ⟨tv1, tc1, tf1⟩ := H.out.tc hb 1 (by omega)
  obtain ⟨τ', T', H'⟩ := H.out.chains hb hor hcls
  obtain ⟨Wn1, hW1⟩ : ∃ W', w1.setCell ⟨g + 1 + 1, 1, none⟩ (.slice a' E.nc c') = W' := ⟨_, rfl⟩
  have H' := hide (hW1 ▸ H' : C9 w Wn1 2 τ' T T' E D g (g + 1) (g + 1 + 1))
  clear H hb hor hcls s1
  have H := hide H'.out
  clear H'
  have s2 : Wn1.cell? ⟨g, 2, none⟩ = some (.slice (T.A 2) E.nc (T.cap 2)) := H.out.x (by omega) rfl
  go_wp2_with fail
  refine (f20_to (T.A 2) (T.b 2) (T.o 2) (T.cap 2) E.nc D.next Wn1 (by have := mc.out; omega) (HZ.out 2 (by omega) (by omega) (by omega)) HR.out.n2 (HR.out.below H.out.cp.bel).d2).mono ?_
  rintro e w2 ⟨a', c', rfl, hcl⟩
  obtain ⟨tv2, tc2, tf2⟩ := H.out.tc hcl.bel 2 (by omega)
  obtain ⟨τ', T', H'⟩ := H.out.field (by omega) (by omega) (by omega) hcl
  obtain ⟨Wn2, hW2⟩ : ∃ W', w2.setCell ⟨g + 1 + 1, 2, none⟩ (.slice a' E.nc c') = W' := ⟨_, rfl⟩
  have H' := hide (hW2 ▸ H' : C9 w Wn2 3 τ' T T' E D g (g + 1) (g + 1 + 1))
  clear H hcl s2
  have H := hide H'.out
  clear H'
  have s3 : Wn2.cell? ⟨g, 3, none⟩ = some (.int .i64 D.toPlace) := H.out.x (by omega) rfl
  obtain ⟨tv3, tc3, tf3⟩ := H.out.tc (Below.refl _ _) 3 (by omega)
  obtain ⟨Wn3, hW3⟩ : ∃ W', Wn2.setCell ⟨g + 1 + 1, 3, none⟩ (.int .i64 D.toPlace) = W' := ⟨_, rfl⟩
  have H' := hide (hW3 ▸ H.out.scalar (by omega) rfl : C9 w Wn3 4 _ _ _ _ _ _ _ _)
  clear H
  have H := hide H'.out
  clear H'
  have s4 : Wn3.cell? ⟨g, 4, none⟩ = some (.slice (T.A 4) E.n (T.cap 4)) := H.out.x (by omega) rfl
  go_wp2_with fail
  refine (f21_to (T.A 4) (T.b 4) (T.o 4) (T.cap 4) E.n D.placed Wn3 (by have := mn.out; omega) (HZ.out 4 (by omega) (by omega) (by omega)) HR.out.n4 (HR.out.below H.out.cp.bel).d4).mono ?_
  rintro e w4 ⟨a', c', rfl, hcl⟩
  obtain ⟨tv4, tc4, tf4⟩ := H.out.tc hcl.bel 4 (by omega)
  obtain ⟨τ', T', H'⟩ := H.out.field (by omega) (by omega) (by omega) hcl
  obtain ⟨Wn4, hW4⟩ : ∃ W', w4.setCell ⟨g + 1 + 1, 4, none⟩ (.slice a' E.n c') = W' := ⟨_, rfl⟩
  have H' := hide (hW4 ▸ H' : C9 w Wn4 5 τ' T T' E D g (g + 1) (g + 1 + 1))
  clear H hcl s4
  have H := hide H'.out
  clear H'
  have s5 : Wn4.cell? ⟨g, 5, none⟩ = some (.slice (T.A 5) E.nv (T.cap 5)) := H.out.x (by omega) rfl
  go_wp2_with fail
  refine (f22_to (T.A 5) (T.b 5) (T.o 5) (T.cap 5) E.nv D.current Wn4 (by have := mv.out; omega) (HZ.out 5 (by omega) (by omega) (by omega)) HR.out.n5 (HR.out.below H.out.cp.bel).d5).mono ?_
  rintro e w5 ⟨a', c', rfl, hcl⟩
  obtain ⟨tv5, tc5, tf5⟩ := H.out.tc hcl.bel 5 (by omega)
  obtain ⟨τ', T', H'⟩ := H.out.field (by omega) (by omega) (by omega) hcl
  obtain ⟨Wn5, hW5⟩ : ∃ W', w5.setCell ⟨g + 1 + 1, 5, none⟩ (.slice a' E.nv c') = W' := ⟨_, rfl⟩
  have H' := hide (hW5 ▸ H' : C9 w Wn5 6 τ' T T' E D g (g + 1) (g + 1 + 1))
  clear H hcl s5
  have H := hide H'.out
  clear H'
  have s6 : Wn5.cell? ⟨g, 6, none⟩ = some (.slice (T.A 6) E.n (T.cap 6)) := H.out.x (by omega) rfl
  go_wp2_with fail
  refine (f22_to (T.A 6) (T.b 6) (T.o 6) (T.cap 6) E.n D.awaiting Wn5 (by have := mn.out; omega) (HZ.out 6 (by omega) (by omega) (by omega)) HR.out.n6 (HR.out.below H.out.cp.bel).d6).mono ?_
  rintro e w6 ⟨a', c', rfl, hcl⟩
  obtain ⟨tv6, tc6, tf6⟩ := H.out.tc hcl.bel 6 (by omega)
  obtain ⟨τ', T', H'⟩ := H.out.field (by omega) (by omega) (by omega) hcl
  obtain ⟨Wn6, hW6⟩ : ∃ W', w6.setCell ⟨g + 1 + 1, 6, none⟩ (.slice a' E.n c') = W' := ⟨_, rfl⟩
  have H' := hide (hW6 ▸ H' : C9 w Wn6 7 τ' T T' E D g (g + 1) (g + 1 + 1))
  clear H hcl s6
  have H := hide H'.out
  clear H'
  have s7 : Wn6.cell? ⟨g, 7, none⟩ = some (.slice (T.A 7) E.n (T.cap 7)) := H.out.x (by omega) rfl
  go_wp2_with fail
  refine (f21_to (T.A 7) (T.b 7) (T.o 7) (T.cap 7) E.n E.awaited Wn6 (by have := mn.out; omega) (HZ.out 7 (by omega) (by omega) (by omega)) HR.out.n7 (HR.out.below H.out.cp.bel).d7).mono ?_
  rintro e w7 ⟨a', c', rfl, hcl⟩
  obtain ⟨tv7, tc7, tf7⟩ := H.out.tc hcl.bel 7 (by omega)
  obtain ⟨τ', T', H'⟩ := H.out.field (by omega) (by omega) (by omega) hcl
  obtain ⟨Wn7, hW7⟩ : ∃ W', w7.setCell ⟨g + 1 + 1, 7, none⟩ (.slice a' E.n c') = W' := ⟨_, rfl⟩
  have H' := hide (hW7 ▸ H' : C9 w Wn7 8 τ' T T' E D g (g + 1) (g + 1 + 1))
  clear H hcl s7
  have H := hide H'.out
  clear H'
  have s8 : Wn7.cell? ⟨g, 8, none⟩ = some (.slice (T.A 8) E.nv (T.cap 8)) := H.out.x (by omega) rfl
  go_wp2_with fail
  refine (f22_to (T.A 8) (T.b 8) (T.o 8) (T.cap 8) E.nv D.holders Wn7 (by have := mv.out; omega) (HZ.out 8 (by omega) (by omega) (by omega)) HR.out.n8 (HR.out.below H.out.cp.bel).d8).mono ?_
  rintro e w8 ⟨a', c', rfl, hcl⟩
  obtain ⟨tv8, tc8, tf8⟩ := H.out.tc hcl.bel 8 (by omega)
  obtain ⟨τ', T', H'⟩ := H.out.field (by omega) (by omega) (by omega) hcl
  obtain ⟨Wn8, hW8⟩ : ∃ W', w8.setCell ⟨g + 1 + 1, 8, none⟩ (.slice a' E.nv c') = W' := ⟨_, rfl⟩
  have H' := hide (hW8 ▸ H' : C9 w Wn8 9 τ' T T' E D g (g + 1) (g + 1 + 1))
  clear H hcl s8
  have H := hide H'.out
  clear H'
  have s9 : Wn8.cell? ⟨g, 9, none⟩ = some (.slice (T.A 9) E.nv (T.cap 9)) := H.out.x (by omega) rfl
  go_wp2_with fail
  refine (f20_to (T.A 9) (T.b 9) (T.o 9) (T.cap 9) E.nv D.holderSum Wn8 (by have := mv.out; omega) (HZ.out 9 (by omega) (by omega) (by omega)) HR.out.n9 (HR.out.below H.out.cp.bel).d9).mono ?_
  rintro e w9 ⟨a', c', rfl, hcl⟩
  obtain ⟨tv9, tc9, tf9⟩ := H.out.tc hcl.bel 9 (by omega)
  obtain ⟨τ', T', H'⟩ := H.out.field (by omega) (by omega) (by omega) hcl
  obtain ⟨Wn9, hW9⟩ : ∃ W', w9.setCell ⟨g + 1 + 1, 9, none⟩ (.slice a' E.nv c') = W' := ⟨_, rfl⟩
  have H' := hide (hW9 ▸ H' : C9 w Wn9 10 τ' T T' E D g (g + 1) (g + 1 + 1))
  clear H hcl s9
  have H := hide H'.out
  clear H'
  have s10 : Wn9.cell? ⟨g, 10, none⟩ = some (.slice (T.A 10) E.n (T.cap 10)) := H.out.x (by omega) rfl
  go_wp2_with fail
  refine (f21_to (T.A 10) (T.b 10) (T.o 10) (T.cap 10) E.n E.lastWrite Wn9 (by have := mn.out; omega) (HZ.out 10 (by omega) (by omega) (by omega)) HR.out.n10 (HR.out.below H.out.cp.bel).d10).mono ?_
  rintro e w10 ⟨a', c', rfl, hcl⟩
  obtain ⟨tv10, tc10, tf10⟩ := H.out.tc hcl.bel 10 (by omega)
  obtain ⟨τ', T', H'⟩ := H.out.field (by omega) (by omega) (by omega) hcl
  obtain ⟨Wn10, hW10⟩ : ∃ W', w10.setCell ⟨g + 1 + 1, 10, none⟩ (.slice a' E.n c') = W' := ⟨_, rfl⟩
  have H' := hide (hW10 ▸ H' : C9 w Wn10 11 τ' T T' E D g (g + 1) (g + 1 + 1))
  clear H hcl s10
  have H := hide H'.out
  clear H'
  have s11 : Wn10.cell? ⟨g, 11, none⟩ = some (.slice (T.A 11) E.nv (T.cap 11)) := H.out.x (by omega) rfl
  go_wp2_with fail
  refine (f22_to (T.A 11) (T.b 11) (T.o 11) (T.cap 11) E.nv D.initial Wn10 (by have := mv.out; omega) (HZ.out 11 (by omega) (by omega) (by omega)) HR.out.n11 (HR.out.below H.out.cp.bel).d11).mono ?_
  rintro e w11 ⟨a', c', rfl, hcl⟩
  obtain ⟨tv11, tc11, tf11⟩ := H.out.tc hcl.bel 11 (by omega)
  obtain ⟨τ', T', H'⟩ := H.out.field (by omega) (by omega) (by omega) hcl
  obtain ⟨Wn11, hW11⟩ : ∃ W', w11.setCell ⟨g + 1 + 1, 11, none⟩ (.slice a' E.nv c') = W' := ⟨_, rfl⟩
  have H' := hide (hW11 ▸ H' : C9 w Wn11 12 τ' T T' E D g (g + 1) (g + 1 + 1))
  clear H hcl s11
  have H := hide H'.out
  clear H'
  have s12 : Wn11.cell? ⟨g, 12, none⟩ = some (.slice (T.A 12) E.nv (T.cap 12)) := H.out.x (by omega) rfl
  go_wp2_with fail
  refine (f22_to (T.A 12) (T.b 12) (T.o 12) (T.cap 12) E.nv D.K.first Wn11 (by have := mv.out; omega) (HZ.out 12 (by omega) (by omega) (by omega)) HR.out.n12 (HR.out.below H.out.cp.bel).d12).mono ?_
  rintro e w12 ⟨a', c', rfl, hcl⟩
  obtain ⟨tv12, tc12, tf12⟩ := H.out.tc hcl.bel 12 (by omega)
  obtain ⟨τ', T', H'⟩ := H.out.field (by omega) (by omega) (by omega) hcl
  obtain ⟨Wn12, hW12⟩ : ∃ W', w12.setCell ⟨g + 1 + 1, 12, none⟩ (.slice a' E.nv c') = W' := ⟨_, rfl⟩
  have H' := hide (hW12 ▸ H' : C9 w Wn12 13 τ' T T' E D g (g + 1) (g + 1 + 1))
  clear H hcl s12
  have H := hide H'.out
  clear H'
  have s13 : Wn12.cell? ⟨g, 13, none⟩ = some (.slice (T.A 13) E.nc (T.cap 13)) := H.out.x (by omega) rfl
  go_wp2_with fail
  refine (f22_to (T.A 13) (T.b 13) (T.o 13) (T.cap 13) E.nc D.K.nx Wn12 (by have := mc.out; omega) (HZ.out 13 (by omega) (by omega) (by omega)) HR.out.n13 (HR.out.below H.out.cp.bel).d13).mono ?_
  rintro e w13 ⟨a', c', rfl, hcl⟩
  obtain ⟨tv13, tc13, tf13⟩ := H.out.tc hcl.bel 13 (by omega)
  obtain ⟨τ', T', H'⟩ := H.out.field (by omega) (by omega) (by omega) hcl
  obtain ⟨Wn13, hW13⟩ : ∃ W', w13.setCell ⟨g + 1 + 1, 13, none⟩ (.slice a' E.nc c') = W' := ⟨_, rfl⟩
  have H' := hide (hW13 ▸ H' : C9 w Wn13 14 τ' T T' E D g (g + 1) (g + 1 + 1))
  clear H hcl s13
  have H := hide H'.out
  clear H'
  have s14 : Wn13.cell? ⟨g, 14, none⟩ = some (.slice (T.A 14) E.nc (T.cap 14)) := H.out.x (by omega) rfl
  go_wp2_with fail
  refine (f22_to (T.A 14) (T.b 14) (T.o 14) (T.cap 14) E.nc D.K.pv Wn13 (by have := mc.out; omega) (HZ.out 14 (by omega) (by omega) (by omega)) HR.out.n14 (HR.out.below H.out.cp.bel).d14).mono ?_
  rintro e w14 ⟨a', c', rfl, hcl⟩
  obtain ⟨tv14, tc14, tf14⟩ := H.out.tc hcl.bel 14 (by omega)
  obtain ⟨τ', T', H'⟩ := H.out.field (by omega) (by omega) (by omega) hcl
  obtain ⟨Wn14, hW14⟩ : ∃ W', w14.setCell ⟨g + 1 + 1, 14, none⟩ (.slice a' E.nc c') = W' := ⟨_, rfl⟩
  have H' := hide (hW14 ▸ H' : C9 w Wn14 15 τ' T T' E D g (g + 1) (g + 1 + 1))
  clear H hcl s14
  have H := hide H'.out
  clear H'
  have s15 : Wn14.cell? ⟨g, 15, none⟩ = some (.slice (T.A 15) E.nc (T.cap 15)) := H.out.x (by omega) rfl
  go_wp2_with fail
  refine (f22_to (T.A 15) (T.b 15) (T.o 15) (T.cap 15) E.nc D.K.of Wn14 (by have := mc.out; omega) (HZ.out 15 (by omega) (by omega) (by omega)) HR.out.n15 (HR.out.below H.out.cp.bel).d15).mono ?_
  rintro e w15 ⟨a', c', rfl, hcl⟩
  obtain ⟨tv15, tc15, tf15⟩ := H.out.tc hcl.bel 15 (by omega)
  obtain ⟨τ', T', H'⟩ := H.out.field (by omega) (by omega) (by omega) hcl
  obtain ⟨Wn15, hW15⟩ : ∃ W', w15.setCell ⟨g + 1 + 1, 15, none⟩ (.slice a' E.nc c') = W' := ⟨_, rfl⟩
  have H' := hide (hW15 ▸ H' : C9 w Wn15 16 τ' T T' E D g (g + 1) (g + 1 + 1))
  clear H hcl s15
  have H := hide H'.out
  clear H'
  have s16 : Wn15.cell? ⟨g, 16, none⟩ = some (.slice (T.A 16) E.nl (T.cap 16)) := H.out.x (by omega) rfl
  go_wp2_with fail
  refine (f23_to (T.A 16) (T.b 16) (T.o 16) (T.cap 16) E.nl T.lA E.ll T.lc T.lb T.lo D.lw Wn15 HR.out.m_nl (HZ.out 16 (by omega) (by omega) (by omega)) HR.out.n16 (HR.out.below H.out.cp.bel).d16 HR.out.m_ll HLZ.out HR.out.ln (HR.out.below H.out.cp.bel).ld).mono ?_
  rintro e w16 ⟨a', c', A', B', C', rfl, hb, hor, hcls⟩
  obtain ⟨tv16, tc16, tf16⟩ := H.out.tc hb 16 (by omega)
  obtain ⟨ττ, TT, H'⟩ := H.out.levels hb hor hcls
  obtain ⟨Wn16, hW16⟩ : ∃ W', w16.setCell ⟨g + 1 + 1, 16, none⟩ (.slice a' E.nl c') = W' := ⟨_, rfl⟩
  have H' := hide (hW16 ▸ H' : C9 w Wn16 17 ττ T TT E D g (g + 1) (g + 1 + 1))
  clear H hb hor hcls s16
  have H := hide H'.out
  clear H'
  have s17 : Wn16.cell? ⟨g, 17, none⟩ = some (.int .u64 (E.seed : Nat)) := H.out.x (by omega) rfl
  obtain ⟨tv17, tc17, tf17⟩ := H.out.tc (Below.refl _ _) 17 (by omega)
  obtain ⟨Wn17, hW17⟩ : ∃ W', Wn16.setCell ⟨g + 1 + 1, 17, none⟩ (.int .u64 (E.seed : Nat)) = W' := ⟨_, rfl⟩
  have H' := hide (hW17 ▸ H.out.scalar (by omega) rfl : C9 w Wn17 18 _ _ _ _ _ _ _ _)
  clear H
  have H := hide H'.out
  clear H'
  have s18 : Wn17.cell? ⟨g, 18, none⟩ = some (.int .u64 (D.hash : Nat)) := H.out.x (by omega) rfl
  obtain ⟨tv18, tc18, tf18⟩ := H.out.tc (Below.refl _ _) 18 (by omega)
  obtain ⟨Wn18, hW18⟩ : ∃ W', Wn17.setCell ⟨g + 1 + 1, 18, none⟩ (.int .u64 (D.hash : Nat)) = W' := ⟨_, rfl⟩
  have H' := hide (hW18 ▸ H.out.scalar (by omega) rfl : C9 w Wn18 19 _ _ _ _ _ _ _ _)
  clear H
  have H := hide H'.out
  clear H'
  have hw3 := H.out.whole
  obtain ⟨u, xs, hr, hxs, _⟩ := H.out.r
  have HP : Hid (Tn ττ (Wn18.setRow (g + 1) (sval TT E D)) TT E D ∧ Below w.heap.size w (Wn18.setRow (g + 1) (sval TT E D)) ∧ (∀ b, b < w.heap.size → ττ b = 0) ∧ (∀ b, (Wn18.setRow (g + 1) (sval TT E D)).heap.size ≤ b → ττ b = 0) ∧ (TT.o = (fun _ => 0) ∧ TT.co = (fun _ => 0) ∧ TT.lo = (fun _ => 0))) := by
    have hb := H.out.cp.bel
    have hc := H.out.cp.other (w1 := Wn18.setRow (g + 1) (sval TT E D)) ⟨hb.os, hb.tape, hb.output, by simpa using hb.size, fun k hk => by rw [setRow_other _ _ _ _ (by have := H.out.l2; omega)]; exact hb.block k hk⟩ (by simp) (fun b hb ht => by rw [setRow_other _ _ _ _ (fun e => by subst e; exact ht H.out.t2)])
    exact ⟨hc.tn (by omega), hc.bel, hc.z0, hc.z1, H.out.o⟩
  have hone : (sval TT E D).all (·.oneCell') = true := sval_one TT E D
  have hsz : (sval TT E D).size = 19 := rfl
  have hi : (Try.prog.info? 30).map (·.size) = some (sval TT E D).size := Try.info30'
  obtain ⟨V', hV'⟩ : ∃ V', sval TT E D = V' := ⟨_, rfl⟩
  rw [hV'] at hw3 HP hone hi hsz
  have HV' := hide hV'
  have hg2 : Hid ((Wn18.setRow (g + 1) V').heap[g + 1]? = some (.cells V' 30 (0, 0))) := setRow_heap _ _ _ _ _ _ hr
  have hold : xs.size = V'.size := by omega
  clear hV' hsz
  have Hw3 := hide hw3
  have Hr := hide hr
  have Hi := hide hi
  have Ho := hide hold
  have Hone := hide hone
  clear hw3 hr hi hold hone
  go_wp2_with (first
    | refine wpList_load_row rfl 30 _ rfl (g + 1 + 1) rfl 30 V' (0, 0) _ Hw3.out Try.underlying30 rfl Hi.out ?_
    | refine wpList_store_row rfl 30 _ _ rfl (g + 1) V' rfl rfl 30 xs Hr.out Hi.out Ho.out Hone.out ?_)
  refine bodyPost_end (results_cell_row rfl _ _ (g + 1) 30 V' (0, 0) _ rfl hg2.out Try.underlying30 rfl Hi.out) rfl ?_
  exact ⟨ττ, TT, by rw [HV'.out], HP.out⟩
end Go.Proofs.Qxb6616080a

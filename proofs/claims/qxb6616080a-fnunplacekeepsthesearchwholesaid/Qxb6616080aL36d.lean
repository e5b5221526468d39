import Derived.Test.Qxb6616080aLk
namespace Go.Proofs.Qxb6616080a
open Go.RowKit
set_option linter.unusedVariables false
set_option linter.unusedSimpArgs false
set_option maxRecDepth 100000

set_option maxHeartbeats 8000000 in
theorem f36_xq_none {τ : Nat → Nat} {w : World} {T : Ad} {E : Env} {D : Dyn} {X c : Nat} {v : Int} (hK : Lk τ w X T E D w D.K) (hτ : τ X = 50) (hc : c < E.nc) (hnc : E.nc ≤ 4096) (hnv : E.nv ≤ 4096) (hv : v = -1) {on : Nat} (ho : D.K.of c = (on : Int)) (hon : on < E.nv) (hp : D.K.pv c = -1) {qn : Nat} (hq : D.K.nx c = (qn : Int)) (hqn : qn < E.nc) (hov : D.K.of c ≠ v) :
    Calls Try.prog 36 #[.pointer (some ⟨X, 21, none⟩), .int .i64 (c : Nat), .int .i32 v] w fun e w' => e = .returned (.tuple #[]) ∧ Lk τ w X T E D w' (moveTo D.K c v) := by
  have hnc0 : 0 < E.nc := Nat.zero_lt_of_lt hc
  have hnv0 : 0 < E.nv := Nat.zero_lt_of_lt hon
  obtain ⟨Wa, hWa⟩ : ∃ Wa, w.setCell ⟨T.b 12, on, none⟩ (.int .i32 ((qn : Int))) = Wa := ⟨_, rfl⟩
  have Ha := hide (hWa ▸ hK.setFirst hτ hon ((qn : Int)) : Lk τ w X T E D Wa _)
  obtain ⟨Wb, hWb⟩ : ∃ Wb, Wa.setCell ⟨T.b 14, qn, none⟩ (.int .i32 (-1)) = Wb := ⟨_, rfl⟩
  have Hb := hide (hWb ▸ Ha.out.setPv hτ hqn (-1) : Lk τ w X T E D Wb _)
  have H1' : Lk τ w X T E D Wb (takeOut D.K c) := by
    have e := Hb.out
    have ek : takeOut D.K c = { first := if 0 ≤ D.K.pv c then D.K.first else upd D.K.first (D.K.of c).toNat (D.K.nx c), nx := outN D.K.nx (D.K.pv c) (D.K.nx c), pv := outN D.K.pv (D.K.nx c) (D.K.pv c), of := D.K.of } := if_pos (by omega)
    rw [ek, hp, hq, ho]
    simpa [outN] using e
  have H1 := hide H1'
  clear H1'
  have hK1 : takeOut D.K c = takeOut D.K c := rfl
  obtain ⟨W2, hW2⟩ : ∃ W2, Wb.setCell ⟨T.b 15, c, none⟩ (.int .i32 (-1)) = W2 := ⟨_, rfl⟩
  have H2 := hide (hW2 ▸ H1.out.setOf hτ hc (-1) : Lk τ w X T E D W2 _)
  have HL : Hid (Lk τ w X T E D W2 (moveTo D.K c v)) := by
    show Lk τ w X T E D W2 (moveTo D.K c v)
    have e := H2.out
    have em : moveTo D.K c v = putIn (takeOut D.K c) c v := if_neg hov
    rw [em]
    have ep : putIn (takeOut D.K c) c v = { (takeOut D.K c) with of := upd (takeOut D.K c).of c v } := if_neg (by omega)
    rw [ep, hv]
    exact e
  have a15 := hK.a15 hnc0
  have x24w := hK.x24
  have cofw := hK.c15 hc ho
  have a14 := hK.a14 hnc0
  have a13 := hK.a13 hnc0
  have x23w := hK.x23
  have x22w := hK.x22
  have cpw := hK.c14 hc hp
  have cqw := hK.c13 hc hq
  have x21w := hK.x21
  have a12 := hK.a12 hnv0
  have conw := hK.c12 hon rfl
  have fonw := hK.f12 hnv0 on
  have x23a := Ha.out.x23
  have cqna := Ha.out.c14 hqn rfl
  have fqna := Ha.out.f14 hnc0 qn
  have x24_1 := H1.out.x24
  have cof1 := H1.out.c15 hc rfl
  have fof1 := H1.out.f15 hnc0 c
  have wc : IntKind.i32.wrap (c : Int) = (c : Int) := w32' (by unfold i32; omega)
  subst hv
  have hov' := hide hov
  have Hov : ¬ (D.K.of c = -1) := hov
  have b0 : (on : Int) < (E.nv : Int) := by omega
  have b2 : (qn : Int) < (E.nc : Int) := by omega
  have b5 : (c : Int) < (E.nc : Int) := by omega
  have HK := hide hK
  clear hov hK ho hp hq hK1
  clear Hov
  go_enter Try.func36, Try.ntmps36
  go_wp2_with fail
  go_region_held3 (fun w' => w'.cell? ⟨X, 22, none⟩ = some (.slice (T.A 13) E.nc (T.cap 13)) ∧ w'.cell? ⟨X, 23, none⟩ = some (.slice (T.A 14) E.nc (T.cap 14)) ∧ w'.cell? ⟨T.b 14, c, none⟩ = some (.int .i32 (-1)) ∧ w'.cell? ⟨T.b 13, c, none⟩ = some (.int .i32 ((qn : Int)))) (exact ⟨x22w, x23w, cpw, cqw⟩) (fail)
  go_wp2_with fail
  refine bodyPost_end (results_none rfl _ _ _) rfl ?_
  first | exact ⟨rfl, HL.out⟩ | exact ⟨rfl, HL.out.drew⟩ | exact ⟨rfl, HL.out.drew.drew⟩ | exact ⟨rfl, HL.out.drew.drew.drew⟩ | exact ⟨rfl, HL.out.drewN 2⟩ | exact ⟨rfl, HL.out.drewN 3⟩

set_option maxHeartbeats 8000000 in
theorem f36_xq_g {τ : Nat → Nat} {w : World} {T : Ad} {E : Env} {D : Dyn} {X c : Nat} {v : Int} (hK : Lk τ w X T E D w D.K) (hτ : τ X = 50) (hc : c < E.nc) (hnc : E.nc ≤ 4096) (hnv : E.nv ≤ 4096) {vn : Nat} (hv : v = (vn : Int)) (hvn : vn < E.nv) {on : Nat} (ho : D.K.of c = (on : Int)) (hon : on < E.nv) (hp : D.K.pv c = -1) {qn : Nat} (hq : D.K.nx c = (qn : Int)) (hqn : qn < E.nc) (hov : D.K.of c ≠ v) {g : Nat} (hg : (takeOut D.K c).first vn = (g : Int)) (hgn : g < E.nc) :
    Calls Try.prog 36 #[.pointer (some ⟨X, 21, none⟩), .int .i64 (c : Nat), .int .i32 v] w fun e w' => e = .returned (.tuple #[]) ∧ Lk τ w X T E D w' (moveTo D.K c v) := by
  have hnc0 : 0 < E.nc := Nat.zero_lt_of_lt hc
  have hnv0 : 0 < E.nv := Nat.zero_lt_of_lt hvn
  obtain ⟨Wa, hWa⟩ : ∃ Wa, w.setCell ⟨T.b 12, on, none⟩ (.int .i32 ((qn : Int))) = Wa := ⟨_, rfl⟩
  have Ha := hide (hWa ▸ hK.setFirst hτ hon ((qn : Int)) : Lk τ w X T E D Wa _)
  obtain ⟨Wb, hWb⟩ : ∃ Wb, Wa.setCell ⟨T.b 14, qn, none⟩ (.int .i32 (-1)) = Wb := ⟨_, rfl⟩
  have Hb := hide (hWb ▸ Ha.out.setPv hτ hqn (-1) : Lk τ w X T E D Wb _)
  have H1' : Lk τ w X T E D Wb (takeOut D.K c) := by
    have e := Hb.out
    have ek : takeOut D.K c = { first := if 0 ≤ D.K.pv c then D.K.first else upd D.K.first (D.K.of c).toNat (D.K.nx c), nx := outN D.K.nx (D.K.pv c) (D.K.nx c), pv := outN D.K.pv (D.K.nx c) (D.K.pv c), of := D.K.of } := if_pos (by omega)
    rw [ek, hp, hq, ho]
    simpa [outN] using e
  have H1 := hide H1'
  clear H1'
  have hK1 : takeOut D.K c = takeOut D.K c := rfl
  obtain ⟨W2, hW2⟩ : ∃ W2, Wb.setCell ⟨T.b 15, c, none⟩ (.int .i32 ((vn : Int))) = W2 := ⟨_, rfl⟩
  have H2 := hide (hW2 ▸ H1.out.setOf hτ hc ((vn : Int)) : Lk τ w X T E D W2 _)
  obtain ⟨W3, hW3⟩ : ∃ W3, W2.setCell ⟨T.b 14, c, none⟩ (.int .i32 (-1)) = W3 := ⟨_, rfl⟩
  have H3 := hide (hW3 ▸ H2.out.setPv hτ hc (-1) : Lk τ w X T E D W3 _)
  obtain ⟨W4, hW4⟩ : ∃ W4, W3.setCell ⟨T.b 13, c, none⟩ (.int .i32 ((g : Int))) = W4 := ⟨_, rfl⟩
  have H4 := hide (hW4 ▸ H3.out.setNx hτ hc ((g : Int)) : Lk τ w X T E D W4 _)
  obtain ⟨W5, hW5⟩ : ∃ W5, W4.setCell ⟨T.b 14, g, none⟩ (.int .i32 (c : Nat)) = W5 := ⟨_, rfl⟩
  have H5 := hide (hW5 ▸ H4.out.setPv hτ hgn (c : Nat) : Lk τ w X T E D W5 _)
  obtain ⟨W6, hW6⟩ : ∃ W6, W5.setCell ⟨T.b 12, vn, none⟩ (.int .i32 (c : Nat)) = W6 := ⟨_, rfl⟩
  have H6 := hide (hW6 ▸ H5.out.setFirst hτ hvn (c : Nat) : Lk τ w X T E D W6 _)
  have HL : Hid (Lk τ w X T E D W6 (moveTo D.K c v)) := by
    show Lk τ w X T E D W6 (moveTo D.K c v)
    have e := H6.out
    have em : moveTo D.K c v = putIn (takeOut D.K c) c v := if_neg hov
    rw [em]
    have ep : putIn (takeOut D.K c) c v = { first := upd (takeOut D.K c).first v.toNat c, nx := upd (takeOut D.K c).nx c ((takeOut D.K c).first v.toNat), pv := outN (upd (takeOut D.K c).pv c (-1)) ((takeOut D.K c).first v.toNat) c, of := upd (takeOut D.K c).of c v } := if_pos (by omega)
    rw [ep, hv]
    simp only [Int.toNat_natCast]
    rw [hg]
    simpa [outN] using e
  have a15 := hK.a15 hnc0
  have x24w := hK.x24
  have cofw := hK.c15 hc ho
  have a14 := hK.a14 hnc0
  have a13 := hK.a13 hnc0
  have x23w := hK.x23
  have x22w := hK.x22
  have cpw := hK.c14 hc hp
  have cqw := hK.c13 hc hq
  have x21w := hK.x21
  have a12 := hK.a12 hnv0
  have conw := hK.c12 hon rfl
  have fonw := hK.f12 hnv0 on
  have x23a := Ha.out.x23
  have cqna := Ha.out.c14 hqn rfl
  have fqna := Ha.out.f14 hnc0 qn
  have x24_1 := H1.out.x24
  have cof1 := H1.out.c15 hc rfl
  have fof1 := H1.out.f15 hnc0 c
  have x23_2 := H2.out.x23
  have x22_2 := H2.out.x22
  have x21_2 := H2.out.x21
  have cg2 := H2.out.c12 hvn hg
  have cp2 := H2.out.c14 hc rfl
  have fp2 := H2.out.f14 hnc0 c
  have cn3 := H3.out.c13 hc rfl
  have fn3 := H3.out.f13 hnc0 c
  have x23_3 := H3.out.x23
  have x22_3 := H3.out.x22
  have x21_3 := H3.out.x21
  have cg3 := H3.out.c12 hvn hg
  have x23_4 := H4.out.x23
  have x22_4 := H4.out.x22
  have x21_4 := H4.out.x21
  have cg4 := H4.out.c12 hvn hg
  have cp4 := H4.out.c14 hgn rfl
  have fp4 := H4.out.f14 hnc0 g
  have x21_5 := H5.out.x21
  have cg5 := H5.out.c12 hvn hg
  have ff5 := H5.out.f12 hnv0 vn
  have wc : IntKind.i32.wrap (c : Int) = (c : Int) := w32' (by unfold i32; omega)
  subst hv
  have hov' := hide hov
  have b0 : (on : Int) < (E.nv : Int) := by omega
  have b2 : (qn : Int) < (E.nc : Int) := by omega
  have b3 : (vn : Int) < (E.nv : Int) := by omega
  have b4 : (g : Int) < (E.nc : Int) := by omega
  have b5 : (c : Int) < (E.nc : Int) := by omega
  have hne : ((on : Int) == (vn : Int)) = false := by rw [beq_eq_false_iff_ne]; rw [ho] at hov; exact hov
  have hne2 : ¬ (on = vn) := fun e => hov (by rw [ho, e])
  have HK := hide hK
  clear hov hK ho hp hq hg hK1
  go_enter Try.func36, Try.ntmps36
  go_wp2_with fail
  go_region_held3 (fun w' => w'.cell? ⟨X, 22, none⟩ = some (.slice (T.A 13) E.nc (T.cap 13)) ∧ w'.cell? ⟨X, 23, none⟩ = some (.slice (T.A 14) E.nc (T.cap 14)) ∧ w'.cell? ⟨T.b 14, c, none⟩ = some (.int .i32 (-1)) ∧ w'.cell? ⟨T.b 13, c, none⟩ = some (.int .i32 ((qn : Int)))) (exact ⟨x22w, x23w, cpw, cqw⟩) (fail)
  go_wp2_with fail
  go_region_held3 (fun w' => w'.cell? ⟨X, 21, none⟩ = some (.slice (T.A 12) E.nv (T.cap 12)) ∧ w'.cell? ⟨X, 22, none⟩ = some (.slice (T.A 13) E.nc (T.cap 13)) ∧ w'.cell? ⟨X, 23, none⟩ = some (.slice (T.A 14) E.nc (T.cap 14)) ∧ w'.cell? ⟨T.b 12, vn, none⟩ = some (.int .i32 ((g : Int)))) ((first | exact ⟨x21_2, x22_2, x23_2, cg2⟩ | exact ⟨x21_3, x22_3, x23_3, cg3⟩ | exact ⟨x21_4, x22_4, x23_4, cg4⟩)) (fail)
  go_wp2_with fail
  go_region_held3 (fun w' => w'.cell? ⟨X, 21, none⟩ = some (.slice (T.A 12) E.nv (T.cap 12)) ∧ w'.cell? ⟨X, 23, none⟩ = some (.slice (T.A 14) E.nc (T.cap 14)) ∧ w'.cell? ⟨T.b 12, vn, none⟩ = some (.int .i32 (g : Int))) ((first | exact ⟨x21_4, x23_4, cg4⟩ | exact ⟨x21_5, H5.out.x23, cg5⟩)) (fail)
  go_wp2_with fail
  refine bodyPost_end (results_none rfl _ _ _) rfl ?_
  first | exact ⟨rfl, HL.out⟩ | exact ⟨rfl, HL.out.drew⟩ | exact ⟨rfl, HL.out.drew.drew⟩ | exact ⟨rfl, HL.out.drew.drew.drew⟩ | exact ⟨rfl, HL.out.drewN 2⟩ | exact ⟨rfl, HL.out.drewN 3⟩

set_option maxHeartbeats 8000000 in
theorem f36_xq_x {τ : Nat → Nat} {w : World} {T : Ad} {E : Env} {D : Dyn} {X c : Nat} {v : Int} (hK : Lk τ w X T E D w D.K) (hτ : τ X = 50) (hc : c < E.nc) (hnc : E.nc ≤ 4096) (hnv : E.nv ≤ 4096) {vn : Nat} (hv : v = (vn : Int)) (hvn : vn < E.nv) {on : Nat} (ho : D.K.of c = (on : Int)) (hon : on < E.nv) (hp : D.K.pv c = -1) {qn : Nat} (hq : D.K.nx c = (qn : Int)) (hqn : qn < E.nc) (hov : D.K.of c ≠ v) (hg : (takeOut D.K c).first vn = -1) :
    Calls Try.prog 36 #[.pointer (some ⟨X, 21, none⟩), .int .i64 (c : Nat), .int .i32 v] w fun e w' => e = .returned (.tuple #[]) ∧ Lk τ w X T E D w' (moveTo D.K c v) := by
  have hnc0 : 0 < E.nc := Nat.zero_lt_of_lt hc
  have hnv0 : 0 < E.nv := Nat.zero_lt_of_lt hvn
  obtain ⟨Wa, hWa⟩ : ∃ Wa, w.setCell ⟨T.b 12, on, none⟩ (.int .i32 ((qn : Int))) = Wa := ⟨_, rfl⟩
  have Ha := hide (hWa ▸ hK.setFirst hτ hon ((qn : Int)) : Lk τ w X T E D Wa _)
  obtain ⟨Wb, hWb⟩ : ∃ Wb, Wa.setCell ⟨T.b 14, qn, none⟩ (.int .i32 (-1)) = Wb := ⟨_, rfl⟩
  have Hb := hide (hWb ▸ Ha.out.setPv hτ hqn (-1) : Lk τ w X T E D Wb _)
  have H1' : Lk τ w X T E D Wb (takeOut D.K c) := by
    have e := Hb.out
    have ek : takeOut D.K c = { first := if 0 ≤ D.K.pv c then D.K.first else upd D.K.first (D.K.of c).toNat (D.K.nx c), nx := outN D.K.nx (D.K.pv c) (D.K.nx c), pv := outN D.K.pv (D.K.nx c) (D.K.pv c), of := D.K.of } := if_pos (by omega)
    rw [ek, hp, hq, ho]
    simpa [outN] using e
  have H1 := hide H1'
  clear H1'
  have hK1 : takeOut D.K c = takeOut D.K c := rfl
  obtain ⟨W2, hW2⟩ : ∃ W2, Wb.setCell ⟨T.b 15, c, none⟩ (.int .i32 ((vn : Int))) = W2 := ⟨_, rfl⟩
  have H2 := hide (hW2 ▸ H1.out.setOf hτ hc ((vn : Int)) : Lk τ w X T E D W2 _)
  obtain ⟨W3, hW3⟩ : ∃ W3, W2.setCell ⟨T.b 14, c, none⟩ (.int .i32 (-1)) = W3 := ⟨_, rfl⟩
  have H3 := hide (hW3 ▸ H2.out.setPv hτ hc (-1) : Lk τ w X T E D W3 _)
  obtain ⟨W4, hW4⟩ : ∃ W4, W3.setCell ⟨T.b 13, c, none⟩ (.int .i32 (-1)) = W4 := ⟨_, rfl⟩
  have H4 := hide (hW4 ▸ H3.out.setNx hτ hc (-1) : Lk τ w X T E D W4 _)
  obtain ⟨W6, hW6⟩ : ∃ W6, W4.setCell ⟨T.b 12, vn, none⟩ (.int .i32 (c : Nat)) = W6 := ⟨_, rfl⟩
  have H6 := hide (hW6 ▸ H4.out.setFirst hτ hvn (c : Nat) : Lk τ w X T E D W6 _)
  have HL : Hid (Lk τ w X T E D W6 (moveTo D.K c v)) := by
    show Lk τ w X T E D W6 (moveTo D.K c v)
    have e := H6.out
    have em : moveTo D.K c v = putIn (takeOut D.K c) c v := if_neg hov
    rw [em]
    have ep : putIn (takeOut D.K c) c v = { first := upd (takeOut D.K c).first v.toNat c, nx := upd (takeOut D.K c).nx c ((takeOut D.K c).first v.toNat), pv := outN (upd (takeOut D.K c).pv c (-1)) ((takeOut D.K c).first v.toNat) c, of := upd (takeOut D.K c).of c v } := if_pos (by omega)
    rw [ep, hv]
    simp only [Int.toNat_natCast]
    rw [hg]
    simpa [outN] using e
  have a15 := hK.a15 hnc0
  have x24w := hK.x24
  have cofw := hK.c15 hc ho
  have a14 := hK.a14 hnc0
  have a13 := hK.a13 hnc0
  have x23w := hK.x23
  have x22w := hK.x22
  have cpw := hK.c14 hc hp
  have cqw := hK.c13 hc hq
  have x21w := hK.x21
  have a12 := hK.a12 hnv0
  have conw := hK.c12 hon rfl
  have fonw := hK.f12 hnv0 on
  have x23a := Ha.out.x23
  have cqna := Ha.out.c14 hqn rfl
  have fqna := Ha.out.f14 hnc0 qn
  have x24_1 := H1.out.x24
  have cof1 := H1.out.c15 hc rfl
  have fof1 := H1.out.f15 hnc0 c
  have x23_2 := H2.out.x23
  have x22_2 := H2.out.x22
  have x21_2 := H2.out.x21
  have cg2 := H2.out.c12 hvn hg
  have cp2 := H2.out.c14 hc rfl
  have fp2 := H2.out.f14 hnc0 c
  have cn3 := H3.out.c13 hc rfl
  have fn3 := H3.out.f13 hnc0 c
  have x23_3 := H3.out.x23
  have x22_3 := H3.out.x22
  have x21_3 := H3.out.x21
  have cg3 := H3.out.c12 hvn hg
  have x23_4 := H4.out.x23
  have x22_4 := H4.out.x22
  have x21_4 := H4.out.x21
  have cg4 := H4.out.c12 hvn hg
  have ff4 := H4.out.f12 hnv0 vn
  have wc : IntKind.i32.wrap (c : Int) = (c : Int) := w32' (by unfold i32; omega)
  subst hv
  have hov' := hide hov
  have b0 : (on : Int) < (E.nv : Int) := by omega
  have b2 : (qn : Int) < (E.nc : Int) := by omega
  have b3 : (vn : Int) < (E.nv : Int) := by omega
  have b5 : (c : Int) < (E.nc : Int) := by omega
  have hne : ((on : Int) == (vn : Int)) = false := by rw [beq_eq_false_iff_ne]; rw [ho] at hov; exact hov
  have hne2 : ¬ (on = vn) := fun e => hov (by rw [ho, e])
  have HK := hide hK
  clear hov hK ho hp hq hg hK1
  go_enter Try.func36, Try.ntmps36
  go_wp2_with fail
  go_region_held3 (fun w' => w'.cell? ⟨X, 22, none⟩ = some (.slice (T.A 13) E.nc (T.cap 13)) ∧ w'.cell? ⟨X, 23, none⟩ = some (.slice (T.A 14) E.nc (T.cap 14)) ∧ w'.cell? ⟨T.b 14, c, none⟩ = some (.int .i32 (-1)) ∧ w'.cell? ⟨T.b 13, c, none⟩ = some (.int .i32 ((qn : Int)))) (exact ⟨x22w, x23w, cpw, cqw⟩) (fail)
  go_wp2_with fail
  go_region_held3 (fun w' => w'.cell? ⟨X, 21, none⟩ = some (.slice (T.A 12) E.nv (T.cap 12)) ∧ w'.cell? ⟨X, 22, none⟩ = some (.slice (T.A 13) E.nc (T.cap 13)) ∧ w'.cell? ⟨X, 23, none⟩ = some (.slice (T.A 14) E.nc (T.cap 14)) ∧ w'.cell? ⟨T.b 12, vn, none⟩ = some (.int .i32 (-1))) ((first | exact ⟨x21_2, x22_2, x23_2, cg2⟩ | exact ⟨x21_3, x22_3, x23_3, cg3⟩ | exact ⟨x21_4, x22_4, x23_4, cg4⟩)) (fail)
  go_wp2_with fail
  refine bodyPost_end (results_none rfl _ _ _) rfl ?_
  first | exact ⟨rfl, HL.out⟩ | exact ⟨rfl, HL.out.drew⟩ | exact ⟨rfl, HL.out.drew.drew⟩ | exact ⟨rfl, HL.out.drew.drew.drew⟩ | exact ⟨rfl, HL.out.drewN 2⟩ | exact ⟨rfl, HL.out.drewN 3⟩
end Go.Proofs.Qxb6616080a

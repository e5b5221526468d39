import Derived.Test.Qxb6616080aL36a
import Derived.Test.Qxb6616080aL36b
import Derived.Test.Qxb6616080aL36c
import Derived.Test.Qxb6616080aL36d
import Derived.Test.Qxb6616080aL36e
import Derived.Test.Qxb6616080aSx
namespace Go.Proofs.Qxb6616080a
open Go.RowKit
set_option linter.unusedVariables false
set_option linter.unusedSimpArgs false
set_option maxRecDepth 100000

set_option maxHeartbeats 4000000 in
theorem f36_same {τ : Nat → Nat} {w : World} {T : Ad} {E : Env} {D : Dyn} {X c : Nat} {v : Int} (hK : Lk τ w X T E D w D.K) (hc : c < E.nc) (ho : D.K.of c = v) :
    Calls Try.prog 36 #[.pointer (some ⟨X, 21, none⟩), .int .i64 (c : Nat), .int .i32 v] w fun e w' => e = .returned (.tuple #[]) ∧ Lk τ w X T E D w' (moveTo D.K c v) := by
  have hnc0 : 0 < E.nc := Nat.zero_lt_of_lt hc
  have e : moveTo D.K c v = D.K := if_pos ho
  rw [e]
  have a15 := hK.a15 hnc0
  have x24w := hK.x24
  have cofw := hK.c15 hc ho
  have b5 : (c : Int) < (E.nc : Int) := by omega
  have HK := hide hK
  clear hK ho e
  go_enter Try.func36, Try.ntmps36
  go_wp2_with fail
  refine bodyPost_ret (results_none rfl _ _ _) rfl ?_
  exact ⟨rfl, HK.out⟩

theorem f36_to {τ : Nat → Nat} {w : World} {T : Ad} {E : Env} {D : Dyn} {X H c : Nat} {tp : Int} {hh : Nat} {v : Int} (hT : Tn τ w T E D) (hS : Sx τ w X H T E tp hh) (hc : c < E.nc) (hnc : E.nc ≤ 4096) (hnv : E.nv ≤ 4096)
    (hv : -1 ≤ v ∧ v < E.nv) (ho : -1 ≤ D.K.of c ∧ D.K.of c < E.nv) (hp : 0 ≤ D.K.of c → -1 ≤ D.K.pv c ∧ D.K.pv c < E.nc) (hq : 0 ≤ D.K.of c → -1 ≤ D.K.nx c ∧ D.K.nx c < E.nc) (hg : D.K.of c ≠ v → 0 ≤ v → -1 ≤ (takeOut D.K c).first v.toNat ∧ (takeOut D.K c).first v.toNat < E.nc) :
    Calls Try.prog 36 #[.pointer (some ⟨X, 21, none⟩), .int .i64 (c : Nat), .int .i32 v] w fun e w' => e = .returned (.tuple #[]) ∧ Tn τ w' T E { D with K := moveTo D.K c v } ∧ Fx (fun t => 12 ≤ t ∧ t ≤ 15) τ w w' := by
  have hK : Lk τ w X T E D w D.K := ⟨hT, Fx.refl _ _ _, hS.x21, hS.x22, hS.x23, hS.x24⟩
  suffices h : Calls Try.prog 36 #[.pointer (some ⟨X, 21, none⟩), .int .i64 (c : Nat), .int .i32 v] w fun e w' => e = .returned (.tuple #[]) ∧ Lk τ w X T E D w' (moveTo D.K c v) from
    h.mono fun e w' ⟨h1, h2⟩ => ⟨h1, h2.tn, h2.fx⟩
  by_cases hov : D.K.of c = v
  · exact f36_same hK hc hov
  have hτ := hS.tx
  have hvc : v = -1 ∨ ∃ vn : Nat, v = (vn : Int) ∧ vn < E.nv := by
    by_cases h : 0 ≤ v
    · exact .inr ⟨v.toNat, by omega, by omega⟩
    · exact .inl (by omega)
  have hoc : D.K.of c = -1 ∨ ∃ on : Nat, D.K.of c = (on : Int) ∧ on < E.nv := by
    by_cases h : 0 ≤ D.K.of c
    · exact .inr ⟨(D.K.of c).toNat, by omega, by omega⟩
    · exact .inl (by omega)
  have hgc : 0 ≤ v → ((takeOut D.K c).first v.toNat = -1 ∨ ∃ g : Nat, (takeOut D.K c).first v.toNat = (g : Int) ∧ g < E.nc) := fun h => by
    have := hg hov h
    by_cases h : 0 ≤ (takeOut D.K c).first v.toNat
    · exact .inr ⟨((takeOut D.K c).first v.toNat).toNat, by omega, by omega⟩
    · exact .inl (by omega)
  rcases hoc with ho1 | ⟨on, ho1, hon⟩
  · skip
    rcases hvc with hv1 | ⟨vn, hv1, hvn⟩
    · exact absurd (ho1.trans hv1.symm) hov
    · have hgc' := hgc (by omega)
      have ev : v.toNat = vn := by omega
      rw [ev] at hgc'
      rcases hgc' with hg1 | ⟨g, hg1, hgn⟩
      · exact f36_no_x hK hτ hc hnc hnv hv1 hvn ho1 hov hg1
      · exact f36_no_g hK hτ hc hnc hnv hv1 hvn ho1 hov hg1 hgn
  have hp' := hp (by omega)
  have hq' := hq (by omega)
  have hpc : D.K.pv c = -1 ∨ ∃ pn : Nat, D.K.pv c = (pn : Int) ∧ pn < E.nc := by
    by_cases h : 0 ≤ D.K.pv c
    · exact .inr ⟨(D.K.pv c).toNat, by omega, by omega⟩
    · exact .inl (by omega)
  have hqc : D.K.nx c = -1 ∨ ∃ qn : Nat, D.K.nx c = (qn : Int) ∧ qn < E.nc := by
    by_cases h : 0 ≤ D.K.nx c
    · exact .inr ⟨(D.K.nx c).toNat, by omega, by omega⟩
    · exact .inl (by omega)
  rcases hpc with hp1 | ⟨pn, hp1, hpn⟩
  · rcases hqc with hq1 | ⟨qn, hq1, hqn⟩
    · skip
      rcases hvc with hv1 | ⟨vn, hv1, hvn⟩
      · exact f36_xx_none hK hτ hc hnc hnv hv1 ho1 hon hp1 hq1 hov
      · have hgc' := hgc (by omega)
        have ev : v.toNat = vn := by omega
        rw [ev] at hgc'
        rcases hgc' with hg1 | ⟨g, hg1, hgn⟩
        · exact f36_xx_x hK hτ hc hnc hnv hv1 hvn ho1 hon hp1 hq1 hov hg1
        · exact f36_xx_g hK hτ hc hnc hnv hv1 hvn ho1 hon hp1 hq1 hov hg1 hgn
    · skip
      rcases hvc with hv1 | ⟨vn, hv1, hvn⟩
      · exact f36_xq_none hK hτ hc hnc hnv hv1 ho1 hon hp1 hq1 hqn hov
      · have hgc' := hgc (by omega)
        have ev : v.toNat = vn := by omega
        rw [ev] at hgc'
        rcases hgc' with hg1 | ⟨g, hg1, hgn⟩
        · exact f36_xq_x hK hτ hc hnc hnv hv1 hvn ho1 hon hp1 hq1 hqn hov hg1
        · exact f36_xq_g hK hτ hc hnc hnv hv1 hvn ho1 hon hp1 hq1 hqn hov hg1 hgn
  · rcases hqc with hq1 | ⟨qn, hq1, hqn⟩
    · skip
      rcases hvc with hv1 | ⟨vn, hv1, hvn⟩
      · exact f36_px_none hK hτ hc hnc hnv hv1 ho1 hon hp1 hpn hq1 hov
      · have hgc' := hgc (by omega)
        have ev : v.toNat = vn := by omega
        rw [ev] at hgc'
        rcases hgc' with hg1 | ⟨g, hg1, hgn⟩
        · exact f36_px_x hK hτ hc hnc hnv hv1 hvn ho1 hon hp1 hpn hq1 hov hg1
        · exact f36_px_g hK hτ hc hnc hnv hv1 hvn ho1 hon hp1 hpn hq1 hov hg1 hgn
    · skip
      rcases hvc with hv1 | ⟨vn, hv1, hvn⟩
      · exact f36_pq_none hK hτ hc hnc hnv hv1 ho1 hon hp1 hpn hq1 hqn hov
      · have hgc' := hgc (by omega)
        have ev : v.toNat = vn := by omega
        rw [ev] at hgc'
        rcases hgc' with hg1 | ⟨g, hg1, hgn⟩
        · exact f36_pq_x hK hτ hc hnc hnv hv1 hvn ho1 hon hp1 hpn hq1 hqn hov hg1
        · exact f36_pq_g hK hτ hc hnc hnv hv1 hvn ho1 hon hp1 hpn hq1 hqn hov hg1 hgn
end Go.Proofs.Qxb6616080a

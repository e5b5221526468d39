import Derived.Test.Qxb6616080aL36
namespace Go.Proofs.Qxb6616080a
open Go.RowKit
set_option linter.unusedVariables false
set_option linter.unusedSimpArgs false
set_option maxRecDepth 100000
section
variable {τ : Nat → Nat} {w : World} {X H : Nat} {T : Ad} {E : Env} {D : Dyn} {tp : Int} {hh : Nat}

/-- The levels' shape, as 'set' wants it. -/
structure LvS (E : Env) (D : Dyn) : Prop where
  m : E.nl ≤ 1048576
  ml : ∀ l, l < E.nl → E.ll l ≤ 1048576
  h0 : E.nc ≤ 64 * E.ll 0
  hs : ∀ l, l + 1 < E.nl → E.ll l ≤ 64 * E.ll (l + 1)
  hw : ∀ l, l < E.nl → ∀ i, i < E.ll l → D.lw l i < 2 ^ 64

/-- The lists' ranges, as 'move' wants them. -/
structure LsS (E : Env) (D : Dyn) (c : Nat) (v : Int) : Prop where
  vr : -1 ≤ v ∧ v < E.nv
  o : -1 ≤ D.K.of c ∧ D.K.of c < E.nv
  p : 0 ≤ D.K.of c → -1 ≤ D.K.pv c ∧ D.K.pv c < E.nc
  q : 0 ≤ D.K.of c → -1 ≤ D.K.nx c ∧ D.K.nx c < E.nc
  g : D.K.of c ≠ v → 0 ≤ v → -1 ≤ (takeOut D.K c).first v.toNat ∧ (takeOut D.K c).first v.toNat < E.nc

set_option maxHeartbeats 8000000 in
/-- 'moveHead' -/
theorem f30_to (hT : Tn τ w T E D) (hS : Sx τ w X H T E tp hh) {c k i : Nat} (hc : c < E.nc) (hk : k < E.cl c) (hi : E.ch c k = (i : Int)) (hin : i < E.n) (hn : E.n ≤ 4096) (hnc : E.nc ≤ 4096) (hnv : E.nv ≤ 4096) (hcl : E.cl c ≤ 1048576)
    (hL : LvS E D) (hK : LsS E D c (E.unreadOf c k)) (hvv : 0 ≤ E.vv i ∧ E.vv i < E.nv) :
    Calls Try.prog 30 #[.pointer (some ⟨X, 0, none⟩), .int .i64 (c : Nat), .int .i64 (k : Nat)] w fun e w' => e = .returned (.tuple #[]) ∧ Tn τ w' T E (moveHead E D c k) ∧ Sx τ w' X H T E tp hh ∧ Fx (fun t => t = 2 ∨ 12 ≤ t ∧ t ≤ 15 ∨ 100 ≤ t) τ w w' ∧ ∀ l, l < E.nl → ∀ j, j < E.ll l → (moveHead E D c k).lw l j < 2 ^ 64 := by
  have hop : E.op c k = i := by unfold Env.op; omega
  have hch : E.chosen c k = (E.wr i && E.awaited i) := by
    unfold Env.chosen
    rw [Int.toNat_natCast, hop]
    have : decide ((k : Int) < (E.cl c : Int)) = true := by simp; omega
    rw [this, Bool.true_and]
  have hun : E.unreadOf c k = if E.wr i = true ∧ E.awaited i = false then E.vv i else -1 := by
    unfold Env.unreadOf
    rw [Int.toNat_natCast, hop]
    have : (k : Int) < (E.cl c : Int) := by omega
    simp [this]
  have hnc0 : 0 < E.nc := Nat.zero_lt_of_lt hc
  have r2 := hT.row 2 (show 0 < lenF E 2 from hnc0)
  have a2 := r2.1
  have x4 := hS.x4
  have cn := r2.2.2.cell (show c < lenF E 2 from hc)
  have fn := r2.2.2.frozen c
  obtain ⟨W, hW⟩ : ∃ W, w.setCell ⟨T.b 2, c, none⟩ (.int .i64 (k : Nat)) = W := ⟨_, rfl⟩
  have hT1 : Tn τ W T E { D with next := upd D.next c k } := hW ▸ hT.setNext hc k
  have hF1 : Fx (fun t => t = 2) τ w W := hW ▸ (Fx.refl _ _ _).setCell (show τ (T.b 2) = 2 from r2.2.1) _
  have hS1 := hS.fx hF1 (by omega) (by omega) (by omega)
  have r1 := hT1.row 1 (show 0 < lenF E 1 from hnc0)
  have a1 := r1.1
  have c1 : W.cell? ⟨T.b 1, c, none⟩ = some (.slice (T.cA c) (E.cl c) (T.cc c)) := r1.2.2.cell (show c < lenF E 1 from hc)
  have rc := hT1.chn c hc (Nat.zero_lt_of_lt hk)
  have aC := rc.1
  have cC : W.cell? ⟨T.cb c, k, none⟩ = some (.int .i32 (i : Nat)) := by rw [rc.2.2.cell hk, hi]
  have x0 := hS1.x0
  have x2 := hS1.x2
  have x10 := hS1.x10
  have hhc := hS1.hc
  have on := (hS1.on (Nat.zero_lt_of_lt hin)).1
  have o2 := hS1.o2 i hin
  have o3 := hS1.o3 i hin
  have r7 := hT1.row 7 (show 0 < lenF E 7 from Nat.zero_lt_of_lt hin)
  have a7 := r7.1
  have c7 : W.cell? ⟨T.b 7, i, none⟩ = some (.bool (E.awaited i)) := r7.2.2.cell (show i < lenF E 7 from hin)
  have b1 : (c : Int) < (E.nc : Int) := by omega
  have b2 : (k : Int) < (E.cl c : Int) := by omega
  have b3 : (i : Int) < (E.n : Int) := by omega
  have h35 := f35_to hT1 X c (E.wr i && E.awaited i) hS1.x25 hS1.tx hL.m hL.ml hc hnc hL.h0 hL.hs hL.hw
  have hmh : moveHead E D c k = { D with next := upd D.next c k, lw := setLv (E.wr i && E.awaited i) E.nl 0 c D.lw, K := moveTo D.K c (if E.wr i = true ∧ E.awaited i = false then E.vv i else -1) } := by
    unfold moveHead
    rw [hch, hun]
  rw [hun] at hK
  rw [hmh]
  obtain ⟨D', hD'⟩ : ∃ D' : Dyn, ({ D with next := upd D.next c k, lw := setLv (E.wr i && E.awaited i) E.nl 0 c D.lw, K := moveTo D.K c (if E.wr i = true ∧ E.awaited i = false then E.vv i else -1) } : Dyn) = D' := ⟨_, rfl⟩
  rw [hD']
  generalize hb : E.wr i = b at *
  generalize hb2 : E.awaited i = b2 at *
  have HF1 := hide hF1
  have HD := hide hD'
  have HS1 := hide hS1
  have HK := hide hK
  have HL := hide hL
  have H35 := hide h35
  obtain ⟨v, hv⟩ := Int.eq_ofNat_of_zero_le hvv.1
  rw [hv] at o3
  have HV := hide hv
  have hvn : (v : Int) < (E.nv : Int) := by omega
  clear r2 r1 rc r7 hT1 hF1 hS1 hT hS h35 hch hun hmh hop hb hb2 hK hL hv hvv hi hD'
  cases b
  · go_enter Try.func30, Try.ntmps30
    go_wp2_with fail
    refine H35.out.mono ?_
    rintro e w1 ⟨rfl, hT2, hF2, hlw⟩
    have hS2 := HS1.out.fx hF2 (by omega) (by omega) (by omega)
    have h36 := f36_to (v := -1) hT2 hS2 hc hnc hnv (by omega) HK.out.o HK.out.p HK.out.q (fun _ h => by omega)
    have HS2 := hide hS2
    have HF2 := hide hF2
    have H36 := hide h36
    have HLW := hide hlw
    clear hT2 hF2 hlw hS2 h36
    go_wp2_with fail
    refine H36.out.mono ?_
    rintro e w2 ⟨rfl, hT3, hF3⟩
    have HT3 := hide hT3
    have HF3 := hide hF3
    clear hT3 hF3
    go_wp2_with fail
    refine bodyPost_end (results_none rfl _ _ _) rfl ?_
    refine ⟨rfl, ?_, HS2.out.fx HF3.out (by omega) (by omega) (by omega), ((HF1.out.mono (fun t h => .inl h)).trans (HF2.out.mono (fun t h => .inr (.inr h)))).trans (HF3.out.mono (fun t h => .inr (.inl h))), ?_⟩
    · rw [← HD.out]; simpa using HT3.out
    · rw [← HD.out]; simpa using HLW.out
  · cases b2
    · go_enter Try.func30, Try.ntmps30
      go_wp2_with fail
      refine H35.out.mono ?_
      rintro e w1 ⟨rfl, hT2, hF2, hlw⟩
      have hS2 := HS1.out.fx hF2 (by omega) (by omega) (by omega)
      have hKK := HK.out
      simp only [and_self, if_true, HV.out] at hKK
      have h36 := f36_to (v := (v : Int)) hT2 hS2 hc hnc hnv hKK.vr hKK.o hKK.p hKK.q hKK.g
      have HS2 := hide hS2
      have HF2 := hide hF2
      have H36 := hide h36
      have HLW := hide hlw
      clear hT2 hF2 hlw hS2 h36 hKK
      go_wp2_with fail
      refine H36.out.mono ?_
      rintro e w2 ⟨rfl, hT3, hF3⟩
      have HT3 := hide hT3
      have HF3 := hide hF3
      clear hT3 hF3
      go_wp2_with fail
      refine bodyPost_end (results_none rfl _ _ _) rfl ?_
      refine ⟨rfl, ?_, HS2.out.fx HF3.out (by omega) (by omega) (by omega), ((HF1.out.mono (fun t h => .inl h)).trans (HF2.out.mono (fun t h => .inr (.inr h)))).trans (HF3.out.mono (fun t h => .inr (.inl h))), ?_⟩
      · rw [← HD.out]; simpa [HV.out] using HT3.out
      · rw [← HD.out]; simpa using HLW.out
    · go_enter Try.func30, Try.ntmps30
      go_wp2_with fail
      refine H35.out.mono ?_
      rintro e w1 ⟨rfl, hT2, hF2, hlw⟩
      have hS2 := HS1.out.fx hF2 (by omega) (by omega) (by omega)
      have h36 := f36_to (v := -1) hT2 hS2 hc hnc hnv (by omega) HK.out.o HK.out.p HK.out.q (fun _ h => by omega)
      have HS2 := hide hS2
      have HF2 := hide hF2
      have H36 := hide h36
      have HLW := hide hlw
      clear hT2 hF2 hlw hS2 h36
      go_wp2_with fail
      refine H36.out.mono ?_
      rintro e w2 ⟨rfl, hT3, hF3⟩
      have HT3 := hide hT3
      have HF3 := hide hF3
      clear hT3 hF3
      go_wp2_with fail
      refine bodyPost_end (results_none rfl _ _ _) rfl ?_
      refine ⟨rfl, ?_, HS2.out.fx HF3.out (by omega) (by omega) (by omega), ((HF1.out.mono (fun t h => .inl h)).trans (HF2.out.mono (fun t h => .inr (.inr h)))).trans (HF3.out.mono (fun t h => .inr (.inl h))), ?_⟩
      · rw [← HD.out]; simpa using HT3.out
      · rw [← HD.out]; simpa using HLW.out
end
end Go.Proofs.Qxb6616080a

import Derived.Test.Qxb6616080aH30
import Derived.Test.Qxb6616080aH32
import Derived.Test.Qxb6616080aPlainD
import Derived.Deep.RegionWith
namespace Go.Proofs.Qxb6616080a
open Go.RowKit
set_option linter.unusedVariables false
set_option linter.unusedSimpArgs false
set_option maxRecDepth 100000
section
variable {τ : Nat → Nat} {w : World} {X H : Nat} {T : Ad} {E : Env} {D : Dyn}

/-- The same but for the draws. -/
structure Same (a b : World) : Prop where
  os : b.os = a.os
  tape : b.tape = a.tape
  output : b.output = a.output
  heap : b.heap = a.heap
theorem Same.fx {a b : World} (h : Same a b) (p : Nat → Prop) : Fx p τ a b := ⟨h.os, h.tape, h.output, by rw [h.heap]; exact Nat.le_refl _, fun g _ _ => by rw [h.heap]⟩
theorem Same.refl (a : World) : Same a a := ⟨rfl, rfl, rfl, rfl⟩
theorem Same.drewN {a b : World} (h : Same a b) (n : Nat) : Same a (b.drewN n) := ⟨h.os, h.tape, h.output, h.heap⟩

/-- The sizes. -/
structure Sz (E : Env) (D : Dyn) : Prop where
  n : E.n ≤ 4096
  nc : E.nc ≤ 4096
  nv : E.nv ≤ 4096
  cl : ∀ c, c < E.nc → E.cl c ≤ 1048576
  nl : E.nl ≤ 1048576
  ll : ∀ l, l < E.nl → E.ll l ≤ 1048576
  seed : E.seed < 2 ^ 64
  hash : D.hash < 2 ^ 64
  lw : ∀ l, l < E.nl → ∀ i, i < E.ll l → D.lw l i < 2 ^ 64

theorem Tn.c4 (h : Tn τ w T E D) {j : Nat} (hj : j < E.n) : w.cell? ⟨T.b 4, j, none⟩ = some (.bool (D.placed j)) := (h.row 4 (show 0 < lenF E 4 from Nat.zero_lt_of_lt hj)).2.2.cell (show j < lenF E 4 from hj)
theorem Tn.c2 (h : Tn τ w T E D) {j : Nat} (hj : j < E.nc) {x : Int} (hx : D.next j = x) : w.cell? ⟨T.b 2, j, none⟩ = some (.int .i64 x) := hx ▸ (h.row 2 (show 0 < lenF E 2 from Nat.zero_lt_of_lt hj)).2.2.cell (show j < lenF E 2 from hj)
theorem Tn.c1 (h : Tn τ w T E D) {j : Nat} (hj : j < E.nc) : w.cell? ⟨T.b 1, j, none⟩ = some (.slice (T.cA j) (E.cl j) (T.cc j)) := (h.row 1 (show 0 < lenF E 1 from Nat.zero_lt_of_lt hj)).2.2.cell (show j < lenF E 1 from hj)
theorem Tn.c8 (h : Tn τ w T E D) {j : Nat} (hj : j < E.nv) {x : Int} (hx : D.holders j = x) : w.cell? ⟨T.b 8, j, none⟩ = some (.int .i32 x) := hx ▸ (h.row 8 (show 0 < lenF E 8 from Nat.zero_lt_of_lt hj)).2.2.cell (show j < lenF E 8 from hj)
theorem Tn.c9 (h : Tn τ w T E D) {j : Nat} (hj : j < E.nv) {x : Int} (hx : D.holderSum j = x) : w.cell? ⟨T.b 9, j, none⟩ = some (.int .i64 x) := hx ▸ (h.row 9 (show 0 < lenF E 9 from Nat.zero_lt_of_lt hj)).2.2.cell (show j < lenF E 9 from hj)
theorem Tn.c10 (h : Tn τ w T E D) {j : Nat} (hj : j < E.n) : w.cell? ⟨T.b 10, j, none⟩ = some (.bool (E.lastWrite j)) := (h.row 10 (show 0 < lenF E 10 from Nat.zero_lt_of_lt hj)).2.2.cell (show j < lenF E 10 from hj)
theorem Tn.c11 (h : Tn τ w T E D) {j : Nat} (hj : j < E.nv) {x : Int} (hx : D.initial j = x) : w.cell? ⟨T.b 11, j, none⟩ = some (.int .i32 x) := hx ▸ (h.row 11 (show 0 < lenF E 11 from Nat.zero_lt_of_lt hj)).2.2.cell (show j < lenF E 11 from hj)
theorem Tn.c6 (h : Tn τ w T E D) {j : Nat} (hj : j < E.n) {x : Int} (hx : D.awaiting j = x) : w.cell? ⟨T.b 6, j, none⟩ = some (.int .i32 x) := hx ▸ (h.row 6 (show 0 < lenF E 6 from Nat.zero_lt_of_lt hj)).2.2.cell (show j < lenF E 6 from hj)
theorem Tn.fr (h : Tn τ w T E D) (i : Nat) (hi : 0 < lenF E i) (j : Nat) : w.frozen? ⟨T.b i, j, none⟩ = false := (h.row i hi).2.2.frozen j

theorem fin_same {W : World} (hT : Tn τ W T E D) {X H : Nat} {tp : Int} {hh : Nat} (hS : Sx τ W X H T E tp hh) (hF : Fx (fun t => t ≠ 0) τ w W) (hz : Sz E D) : ∀ w', Same W w' → (Tn τ w' T E D ∧ Sx τ w' X H T E tp hh ∧ Fx (fun t => t ≠ 0) τ w w' ∧ Sz E D) := fun w' h =>
  ⟨hT.fx (h.fx (fun _ => False)) (fun t h => h.elim), hS.fx (h.fx (fun _ => False)) (fun h => h) (fun h => h) (fun h => h), hF.trans (h.fx _), hz⟩

set_option maxHeartbeats 16000000 in
/-- 'unplace' -/
theorem f26_to (hT : Tn τ w T E D) (hS : Sx τ w X H T E D.toPlace D.hash) (hτ0 : ∀ b, w.heap.size ≤ b → τ b = 0) (hH : Holds E D zmix) (hz : Sz E D) {c : Nat} {p : Int} (hc : c < E.nc) (h1 : 1 ≤ D.next c) (hp : E.wr (E.op c (D.next c - 1).toNat) = true → -1 ≤ p ∧ p < 4096) :
    Calls Try.prog 26 #[.pointer (some ⟨X, 0, none⟩), .agg #[.int .i64 (c : Nat), .int .i32 p]] w fun e w' => e = .returned (.tuple #[]) ∧ Tn τ w' T E (unplace E D zmix c p) ∧ Sx τ w' X H T E (unplace E D zmix c p).toPlace (unplace E D zmix c p).hash ∧ Fx (fun t => t ≠ 0) τ w w' ∧ Sz E (unplace E D zmix c p) := by
  have hnx := hH.nx c hc
  obtain ⟨m, hm⟩ := Int.eq_ofNat_of_zero_le hnx.1
  obtain ⟨k, hk⟩ : ∃ k : Nat, m = k + 1 := ⟨m - 1, by omega⟩
  have hkm : (m : Int) - 1 = (k : Int) := by omega
  have hkl : k < E.cl c := by omega
  have hcl := hz.cl c hc
  have hchr := hH.chr c hc k hkl
  obtain ⟨i, hi⟩ := Int.eq_ofNat_of_zero_le hchr.1
  have hin : i < E.n := by omega
  have hop : E.op c k = i := by unfold Env.op; omega
  have HPW : Hid (E.wr i = true → -1 ≤ p ∧ p < 4096) := fun h => hp (by rw [show (D.next c - 1).toNat = k by omega, hop]; exact h)
  clear hp
  have hvs := hH.vs i hin
  obtain ⟨v, hv⟩ := Int.eq_ofNat_of_zero_le hvs.1
  have hvn : v < E.nv := by omega
  have hnc0 : 0 < E.nc := Nat.zero_lt_of_lt hc
  have hn0 : 0 < E.n := Nat.zero_lt_of_lt hin
  have hnv0 : 0 < E.nv := Nat.zero_lt_of_lt hvn
  have hn := hz.n
  have hnc := hz.nc
  have hnv := hz.nv
  have hLv : LvS E D := ⟨hz.nl, hz.ll, hH.lv.2.width.1 hH.lv.1, fun l hl => by have := hH.lv.2.width.2 l hl; simpa using this, hz.lw⟩
  have hor : -1 ≤ D.K.of c ∧ D.K.of c < E.nv := by rw [hH.uo c hc]; exact hH.of_range' hc hnx.1
  have hLs : LsS E D c (E.unreadOf c k) := ⟨hH.of_range' hc (by omega), hor, fun h => (hH.ul.range hc h hor.2).1, fun h => (hH.ul.range hc h hor.2).2, fun _ h => hH.ul.first hc hor.2 (by have := hH.of_range' hc (k := k) (by omega); omega)⟩
  have htp : 0 ≤ D.toPlace ∧ D.toPlace ≤ 4096 * 1048576 := by
    have ht := tot_range (f := fun c => (E.cl c : Int) - D.next c) (b := 1048576) (n := E.nc) (fun j hj => by have := hH.nx j hj; have := hz.cl j hj; omega)
    rw [← hH.tp] at ht
    have : (E.nc : Int) * 1048576 ≤ 4096 * 1048576 := by omega
    omega
  -- the plain side
  obtain ⟨y1, hy1⟩ : ∃ y1, D.hash ^^^ zmix ((i + 1 + E.seed) % 2 ^ 64) = y1 := ⟨_, rfl⟩
  obtain ⟨D2, hD2⟩ : ∃ D2 : Dyn, { moveHead E D c k with placed := upd D.placed i false, toPlace := D.toPlace + 1, hash := y1 } = D2 := ⟨_, rfl⟩
  have hun : unplace E D zmix c p = if E.wr i then backWrite E D2 zmix c i p else backRead E D2 i := by
    unfold unplace
    have e : D.next c - 1 = (k : Int) := by omega
    simp only [e, Int.toNat_natCast, hop]
    rw [← hD2, ← hy1]
    rfl
  rw [hun]
  -- the box
  obtain ⟨W, hW⟩ : ∃ W, w.alloc (.cells #[.int .i64 (c : Nat), .int .i32 p] 66) = W := ⟨_, rfl⟩
  obtain ⟨g, hg⟩ : ∃ g, w.heap.size = g := ⟨_, rfl⟩
  have hbw : Below w.heap.size w W := hW ▸ (Below.refl _ _).alloc (Nat.le_refl _) _
  have hτg : τ g = 0 := hτ0 g (by omega)
  have g0 : W.cell? ⟨g, 0, none⟩ = some (.int .i64 (c : Nat)) := by rw [← hW, ← hg, World.cell?_alloc_new]; rfl
  have g1 : W.cell? ⟨g, 1, none⟩ = some (.int .i32 p) := by rw [← hW, ← hg, World.cell?_alloc_new]; rfl
  have hTW := hT.below hbw
  have hSW := hS.below hbw
  have x4 := hSW.x4
  have a2 := (hT.row 2 (show 0 < lenF E 2 from hnc0)).1
  have c2 := hTW.c2 hc hm
  have b1 : (c : Int) < (E.nc : Int) := by omega
  have b2 : (k : Int) < (E.cl c : Int) := by omega
  have b3 : (i : Int) < (E.n : Int) := by omega
  have b4 : (v : Int) < (E.nv : Int) := by omega
  have wk : IntKind.i64.wrap (k : Int) = (k : Int) := w64' (by unfold i64; omega)
  have h30 := f30_to hTW hSW hc hkl hi hin hn hnc hnv hcl hLv hLs hvs
  have HB := hide hbw
  have H30 := hide h30
  have HH := hide hH
  have HZ := hide hz
  have HD2 := hide hD2
  have HY1 := hide hy1
  have HV := hide hv
  have HI := hide hi
  have HTG := hide hτg
  have HTP := hide htp
  clear hT hS hTW hSW hbw h30 hLv hLs hor hun hH hz hD2 hy1 hv hi hm hnx hchr hvs hτg hop hτ0 h1 hk htp
  obtain ⟨Df, hDf⟩ : ∃ Df : Dyn, (if E.wr i then backWrite E D2 zmix c i p else backRead E D2 i) = Df := ⟨_, rfl⟩
  rw [hDf]
  have HDF := hide hDf
  clear hDf
  go_enter Try.func26, Try.ntmps26
  go_wp2_with fail
  refine H30.out.mono ?_
  rintro e w1 ⟨rfl, hT1, hS1, hF1, hlw⟩
  have HF1 : Hid (Fx (fun t => t ≠ 0) τ w w1) := (Fx.ofBelow HB.out).trans (hF1.mono (fun t h => by omega))
  have g1' := hF1.cell g1 (by show ¬ (τ g = 2 ∨ 12 ≤ τ g ∧ τ g ≤ 15 ∨ 100 ≤ τ g); rw [HTG.out]; omega)
  clear hF1 H30 HB g0 g1 c2
  have HT1 := hide hT1
  have HS1 := hide hS1
  have HLW := hide hlw
  have a1 := (hT1.row 1 (show 0 < lenF E 1 from hnc0)).1
  have c1 := hT1.c1 hc
  have c2 : w1.cell? ⟨T.b 2, c, none⟩ = some (.int .i64 (k : Nat)) := hT1.c2 hc (upd_self _ _ _)
  have aC := (hT1.chn c hc (by omega)).1
  have cC : w1.cell? ⟨T.cb c, k, none⟩ = some (.int .i32 (i : Nat)) := by rw [(hT1.chn c hc (by omega)).2.2.cell hkl, HI.out]
  have x2 := hS1.x2
  have x4' := hS1.x4
  clear hT1 hS1 hlw x4
  go_wp2_with fail
  go_quiet (fail)
  obtain ⟨w2, hw2⟩ : ∃ w2, w1.drewN nq = w2 := ⟨_, rfl⟩
  rw [hw2]
  have hT2 : Tn τ w2 T E (moveHead E D c k) := hw2 ▸ HT1.out.drewN nq
  have hS2 : Sx τ w2 X H T E D.toPlace D.hash := hw2 ▸ HS1.out.fx (p := fun _ => False) ((Fx.refl _ _ _).drewN nq) (fun h => h) (fun h => h) (fun h => h)
  have HF2 : Hid (Fx (fun t => t ≠ 0) τ w w2) := hw2 ▸ HF1.out.drewN nq
  have g2 : w2.cell? ⟨g, 1, none⟩ = some (.int .i32 p) := hw2 ▸ g1'
  obtain ⟨W3, hW3⟩ : ∃ W3, w2.setCell ⟨T.b 4, i, none⟩ (.bool false) = W3 := ⟨_, rfl⟩
  have t4 := (hT2.row 4 (show 0 < lenF E 4 from hn0)).2.1
  have hT3 : Tn τ W3 T E { moveHead E D c k with placed := upd D.placed i false } := hW3 ▸ hT2.setPlaced hin false
  have hF3 : Fx (fun t => t = 4) τ w2 W3 := hW3 ▸ (Fx.refl _ _ _).setCell (show τ (T.b 4) = 4 from t4) _
  have hS3 := hS2.fx hF3 (by omega) (by omega) (by omega)
  obtain ⟨W4, hW4⟩ : ∃ W4, W3.setCell ⟨X, 5, none⟩ (.int .i64 (D.toPlace + 1)) = W4 := ⟨_, rfl⟩
  have hF4 : Fx (fun t => t = 50) τ W3 W4 := hW4 ▸ (Fx.refl _ _ _).setCell (show τ X = 50 from hS3.tx) _
  have hS4 : Sx τ W4 X H T E (D.toPlace + 1) D.hash := hW4 ▸ hS3.setTp _
  have hT4 := hT3.fx hF4 (fun t h => by omega)
  have x6 := hS2.x6
  have a4 := (hT2.row 4 (show 0 < lenF E 4 from hn0)).1
  have c4 := hT2.c4 hin
  have f4 := hT2.fr 4 hn0 i
  have x5 := hS3.x5
  have f5 := hS3.frozen 5
  have wtp : IntKind.i64.wrap (D.toPlace + 1) = D.toPlace + 1 := w64' (by have := HTP.out; unfold i64; omega)
  have h31 := f31_to hS4 false 0 (i : Nat) (i + 1) (by omega) HZ.out.seed HZ.out.hash (fun w => f37_place 0 i w (by omega))
  have g4 := hF4.cell (hF3.cell g2 (by show ¬ τ g = 4; rw [HTG.out]; omega)) (by show ¬ τ g = 50; rw [HTG.out]; omega)
  have HF4 : Hid (Fx (fun t => t ≠ 0) τ w W4) := (HF2.out.trans (hF3.mono (fun t h => by omega))).trans (hF4.mono (fun t h => by omega))
  have HT4 := hide hT4
  have H31 := hide h31
  clear hT2 hS2 hT3 hF3 hS3 hF4 hS4 hT4 h31 HF2 HF1 HT1 HS1 a1 c1 c2 aC cC x2 x4' g1' hw2 t4 a2 g2
  clear w1
  go_wp2_with fail
  refine H31.out.mono ?_
  rintro e w5 ⟨rfl, hS5, hF5, hl5⟩
  rw [HY1.out] at hS5 hl5
  have hT5' := (HT4.out.fx hF5 (fun t h => by omega)).ht y1 (D.toPlace + 1)
  have hT5 : Tn τ w5 T E D2 := HD2.out ▸ hT5'
  have eS : (D.toPlace + 1 = D2.toPlace) ∧ y1 = D2.hash := by rw [← HD2.out]; exact ⟨rfl, rfl⟩
  rw [eS.1, eS.2] at hS5
  have HF5 : Hid (Fx (fun t => t ≠ 0) τ w w5) := HF4.out.trans (hF5.mono (fun t h => by omega))
  have g5 := hF5.cell g4 (by show ¬ τ g = 50; rw [HTG.out]; omega)
  have hz2 : Sz E D2 := by
    have hz := HZ.out
    refine { hz with hash := by rw [← eS.2]; exact hl5, lw := by rw [← HD2.out]; exact HLW.out }
  have x0 := hS5.x0
  have hc2 := hS5.hc
  have on := (hS5.on hn0).1
  have o2 := hS5.o2 i hin
  have o3 : w5.cell? ⟨T.ob, i * 6 + 3, none⟩ = some (.int .i32 (v : Nat)) := by rw [hS5.o3 i hin, HV.out]
  have HZ2 := hide hz2
  have HT5 := hide hT5
  have HS5 := hide hS5
  clear hS5 hF5 hl5 hT5' hT5 eS hz2 HT4 H31 HF4 hW3 hW4 x6 a4 c4 f4 x5 f5 wtp g4
  clear w2 W3 W4 HLW
  have hb := HDF.out
  generalize hbw : E.wr i = b at o2 hb
  have HBW := hide hbw
  have HDF2 := hide hb
  clear HDF hb hbw
  cases b
  · have hchk : Hid ((if E.chk i then (if E.src i = -1 then { D2 with initial := upd D2.initial v (D2.initial v + 1) } else { D2 with awaiting := upd D2.awaiting (E.src i).toNat (D2.awaiting (E.src i).toNat + 1) }) else D2) = Df) := by
      have e := HDF2.out
      simp only [Bool.false_eq_true, if_false, backRead, HV.out, Int.toNat_natCast] at e
      exact e
    have hrd : Hid (E.chk i = true → E.src i ≠ -1 → 0 ≤ E.src i ∧ E.src i < E.n) := fun h1 h2 =>
      (HH.out.sr i hin (by unfold Env.rd; rw [h1, Bool.and_true]; exact (Env.has_iff E).2 ⟨c, k, hc, hkl, HI.out⟩) h2).1
    clear HDF2
    go_wp2_with fail
    refine (f33_to HS5.out hin hn).mono ?_
    rintro e w6 ⟨rfl, k6, rfl⟩
    generalize hq : E.chk i = q at hchk hrd ⊢
    cases q
    · have eD : D2 = Df := by have e := hchk.out; simpa using e
      subst eD
      have HP := hide (fin_same HT5.out HS5.out HF5.out HZ2.out)
      clear hchk hrd hq
      go_wp2_with fail
      refine bodyPost_end (results_none rfl _ _ _) rfl ?_
      exact ⟨rfl, HP.out _ ⟨rfl, rfl, rfl, rfl⟩⟩
    · obtain ⟨s, hs⟩ : ∃ s, E.src i = s := ⟨_, rfl⟩
      have o5 : w5.cell? ⟨T.ob, i * 6 + 5, none⟩ = some (.int .i32 s) := by rw [HS5.out.o5 i hin, hs]
      have a11 := (HT5.out.row 11 (show 0 < lenF E 11 from hnv0)).1
      have t11 := (HT5.out.row 11 (show 0 < lenF E 11 from hnv0)).2.1
      have a6 := (HT5.out.row 6 (show 0 < lenF E 6 from hn0)).1
      have t6 := (HT5.out.row 6 (show 0 < lenF E 6 from hn0)).2.1
      by_cases q1 : s = -1
      · subst q1
        obtain ⟨x, hx⟩ : ∃ x, D2.initial v = x := ⟨_, rfl⟩
        have hxb : 0 ≤ x ∧ x ≤ 4096 := by
          have e : D2.initial v = D.initial v := by rw [← HD2.out]; rfl
          have hi := HH.out.ini v hvn
          rw [← hx, e, hi]
          have := cnt_le E.n (fun j => E.rd j && decide (E.src j = -1) && decide (E.vv j = (v : Int)) && !D.placed j)
          omega
        have c11 := HT5.out.c11 hvn hx
        have f11 := HT5.out.fr 11 hnv0 v
        have wx : IntKind.i32.wrap (x + 1) = x + 1 := w32' (by unfold i32; omega)
        obtain ⟨W6, hW6⟩ : ∃ W6, w5.setCell ⟨T.b 11, v, none⟩ (.int .i32 (x + 1)) = W6 := ⟨_, rfl⟩
        have eD : { D2 with initial := upd D2.initial v (x + 1) } = Df := by
          have e := hchk.out
          simpa [hs, hx] using e
        have hT6 : Tn τ W6 T E Df := by rw [← eD, ← hW6]; exact HT5.out.setInitial hvn (x + 1)
        have hF6 : Fx (fun t => t = 11) τ w5 W6 := hW6 ▸ (Fx.refl _ _ _).setCell (show τ (T.b 11) = 11 from t11) _
        have hS6 : Sx τ W6 X H T E Df.toPlace Df.hash := by rw [← eD]; exact HS5.out.fx hF6 (by omega) (by omega) (by omega)
        have hz6 : Sz E Df := by rw [← eD]; exact { HZ2.out with hash := HZ2.out.hash, lw := HZ2.out.lw }
        have HP := hide (fin_same hT6 hS6 (HF5.out.trans (hF6.mono (fun t h => by omega))) hz6)
        have H34 : Hid (∀ w', Same w5 w' → Calls Try.prog 34 #[.pointer (some ⟨X, 0, none⟩), .int .i32 (v : Nat), .int .i32 (-1)] w' fun e w'' => e = .returned (.pointer (some ⟨T.b 11, v, none⟩)) ∧ w'' = w') := fun w' h => by
          have := f34_to (HS5.out.fx (h.fx (fun _ => False)) (fun h => h) (fun h => h) (fun h => h)) (s := -1) hvn (.inl rfl) a11 (fun h => absurd rfl h)
          simpa using this
        clear hT6 hF6 hS6 hz6 eD hs hq hchk hrd hx t11 t6 a6
        go_wp2_with fail
        go_region_with ((go_at_call 34; refine (H34.out _ (by exact ⟨rfl, rfl, rfl, rfl⟩)).mono ?_; rintro e w7 ⟨rfl, rfl⟩))
        all_goals go_wp2_with fail
        all_goals refine bodyPost_end (results_none rfl _ _ _) rfl ?_
        all_goals (subst hW6; exact ⟨rfl, HP.out _ ⟨rfl, rfl, rfl, rfl⟩⟩)
      · have hs2 := hrd.out rfl (by rw [hs]; exact q1)
        rw [hs] at hs2
        obtain ⟨z, rfl⟩ := Int.eq_ofNat_of_zero_le hs2.1
        have hzn : z < E.n := by omega
        obtain ⟨x, hx⟩ : ∃ x, D2.awaiting z = x := ⟨_, rfl⟩
        have hxb : 0 ≤ x ∧ x ≤ 4096 := by
          have e : D2.awaiting z = D.awaiting z := by rw [← HD2.out]; rfl
          have hi := HH.out.aw z hzn
          rw [← hx, e, hi]
          have := cnt_le E.n (fun j => E.rd j && decide (E.src j = (z : Int)) && !D.placed j)
          omega
        have c6 := HT5.out.c6 hzn hx
        have f6 := HT5.out.fr 6 hn0 z
        have wx : IntKind.i32.wrap (x + 1) = x + 1 := w32' (by unfold i32; omega)
        obtain ⟨W6, hW6⟩ : ∃ W6, w5.setCell ⟨T.b 6, z, none⟩ (.int .i32 (x + 1)) = W6 := ⟨_, rfl⟩
        have eD : { D2 with awaiting := upd D2.awaiting z (x + 1) } = Df := by
          have e := hchk.out
          simp only [if_true, hs, if_neg q1, Int.toNat_natCast, hx] at e
          exact e
        have hT6 : Tn τ W6 T E Df := by rw [← eD, ← hW6]; exact HT5.out.setAwaiting hzn (x + 1)
        have hF6 : Fx (fun t => t = 6) τ w5 W6 := hW6 ▸ (Fx.refl _ _ _).setCell (show τ (T.b 6) = 6 from t6) _
        have hS6 : Sx τ W6 X H T E Df.toPlace Df.hash := by rw [← eD]; exact HS5.out.fx hF6 (by omega) (by omega) (by omega)
        have hz6 : Sz E Df := by rw [← eD]; exact { HZ2.out with hash := HZ2.out.hash, lw := HZ2.out.lw }
        have HP := hide (fin_same hT6 hS6 (HF5.out.trans (hF6.mono (fun t h => by omega))) hz6)
        have H34 : Hid (∀ w', Same w5 w' → Calls Try.prog 34 #[.pointer (some ⟨X, 0, none⟩), .int .i32 (v : Nat), .int .i32 (z : Nat)] w' fun e w'' => e = .returned (.pointer (some ⟨T.b 6, z, none⟩)) ∧ w'' = w') := fun w' h => by
          have := f34_to (HS5.out.fx (h.fx (fun _ => False)) (fun h => h) (fun h => h) (fun h => h)) (s := (z : Int)) hvn (.inr hs2) a11 (fun _ => a6)
          simpa [q1] using this
        clear hT6 hF6 hS6 hz6 eD hs hq hchk hrd hx t11 t6 a11 q1 hs2
        go_wp2_with fail
        go_region_with ((go_at_call 34; refine (H34.out _ (by exact ⟨rfl, rfl, rfl, rfl⟩)).mono ?_; rintro e w7 ⟨rfl, rfl⟩))
        all_goals go_wp2_with fail
        all_goals refine bodyPost_end (results_none rfl _ _ _) rfl ?_
        all_goals (subst hW6; exact ⟨rfl, HP.out _ ⟨rfl, rfl, rfl, rfl⟩⟩)
  · have hbk : Hid (backWrite E D2 zmix c i p = Df) := by
      have e := HDF2.out
      rw [if_pos rfl] at e
      exact e
    clear HDF2
    have hcu : -1 ≤ D2.current v ∧ D2.current v < 4096 := by
      have e : D2.current v = D.current v := by rw [← HD2.out]; rfl
      rw [e]
      by_cases h : D.current v = -1
      · omega
      · have := (HH.out.cu v hvn h).1; omega
    have x18 := HS5.out.x18
    have a10 := (HT5.out.row 10 (show 0 < lenF E 10 from hn0)).1
    have c10 := HT5.out.c10 hin
    generalize hl : E.lastWrite i = q at c10
    cases q
    · have eD : setCurrent E D2 zmix v p = Df := by
        have e := hbk.out
        unfold backWrite at e
        rw [hl] at e
        simp only [Bool.false_eq_true, if_false, HV.out, Int.toNat_natCast] at e
        exact e
      have H32 : Hid (∀ w', Same w5 w' → Calls Try.prog 32 #[.pointer (some ⟨X, 0, none⟩), .int .i32 (v : Nat), .int .i32 p] w' fun e w'' => e = .returned (.tuple #[]) ∧ (∀ w3, Same w'' w3 → (Tn τ w3 T E Df ∧ Sx τ w3 X H T E Df.toPlace Df.hash ∧ Fx (fun t => t ≠ 0) τ w w3 ∧ Sz E Df))) := fun w' h => by
        have hT' := HT5.out.fx (h.fx (fun _ => False)) (fun t h => h.elim)
        have hS' := HS5.out.fx (h.fx (fun _ => False)) (fun h => h) (fun h => h) (fun h => h)
        refine (f32_to hT' hS' hvn hnv hcu (HPW.out HBW.out) HZ2.out.seed HZ2.out.hash).mono ?_
        rintro e w'' ⟨rfl, h1, h2, h3, h4⟩
        refine ⟨rfl, ?_⟩
        rw [eD] at h1 h2 h4
        have et : D2.toPlace = Df.toPlace := by rw [← eD]; rfl
        rw [et] at h2
        exact fin_same h1 h2 ((HF5.out.trans (h.fx _)).trans (h3.mono (fun t h => by omega))) (by
          have el : D2.lw = Df.lw := by rw [← eD]; rfl
          exact { HZ2.out with hash := h4, lw := el ▸ HZ2.out.lw })
      clear eD hbk hl hcu
      go_wp2_with fail
      go_region_with ((go_at_call 32; refine (H32.out _ (by exact ⟨rfl, rfl, rfl, rfl⟩)).mono ?_; rintro e w7 ⟨rfl, HP'⟩; have HP := hide HP'; clear HP'))
      all_goals go_wp2_with fail
      all_goals refine bodyPost_end (results_none rfl _ _ _) rfl ?_
      all_goals exact ⟨rfl, HP.out _ ⟨rfl, rfl, rfl, rfl⟩⟩
    · obtain ⟨x, hx⟩ : ∃ x, D2.holders v = x := ⟨_, rfl⟩
      obtain ⟨y, hy⟩ : ∃ y, D2.holderSum v = y := ⟨_, rfl⟩
      have hxb : 0 ≤ x ∧ x ≤ 4096 := by
        have e : D2.holders v = D.holders v := by rw [← HD2.out]; rfl
        have hi := HH.out.ho v hvn
        rw [← hx, e, hi]
        have := cnt_le E.nc (fun c => E.hold (D.next c) v c)
        omega
      have hyb : 0 ≤ y ∧ y ≤ 16777216 := by
        have e : D2.holderSum v = D.holderSum v := by rw [← HD2.out]; rfl
        have hi := HH.out.hs v hvn
        rw [← hy, e, hi]
        have := sumIf_le E.nc (fun c => E.hold (D.next c) v c)
        have h2 : E.nc * E.nc ≤ 4096 * 4096 := Nat.mul_le_mul hnc hnc
        omega
      have wx : IntKind.i32.wrap (x + 1) = x + 1 := w32' (by unfold i32; omega)
      have wy : IntKind.i64.wrap (y + (c : Int)) = y + (c : Int) := w64' (by unfold i64; omega)
      obtain ⟨D3, hD3⟩ : ∃ D3 : Dyn, { D2 with holders := upd D2.holders v (x + 1), holderSum := upd D2.holderSum v (y + c) } = D3 := ⟨_, rfl⟩
      have eD : setCurrent E D3 zmix v p = Df := by
        have e := hbk.out
        unfold backWrite at e
        rw [hl] at e
        simp only [if_true, HV.out, Int.toNat_natCast, hx, hy] at e
        rw [hD3] at e
        exact e
      have x16 := HS5.out.x16
      have a8 := (HT5.out.row 8 (show 0 < lenF E 8 from hnv0)).1
      have t8 := (HT5.out.row 8 (show 0 < lenF E 8 from hnv0)).2.1
      have a9 := (HT5.out.row 9 (show 0 < lenF E 9 from hnv0)).1
      have t9 := (HT5.out.row 9 (show 0 < lenF E 9 from hnv0)).2.1
      have c8 := HT5.out.c8 hvn hx
      have f8 := HT5.out.fr 8 hnv0 v
      obtain ⟨W6, hW6⟩ : ∃ W6, w5.setCell ⟨T.b 8, v, none⟩ (.int .i32 (x + 1)) = W6 := ⟨_, rfl⟩
      have hT6 : Tn τ W6 T E { D2 with holders := upd D2.holders v (x + 1) } := hW6 ▸ HT5.out.setHolders hvn (x + 1)
      have hF6 : Fx (fun t => t = 8) τ w5 W6 := hW6 ▸ (Fx.refl _ _ _).setCell (show τ (T.b 8) = 8 from t8) _
      have hS6 := HS5.out.fx hF6 (by omega) (by omega) (by omega)
      have x17 := hS6.x17
      have c9 := hT6.c9 hvn hy
      have f9 := hT6.fr 9 hnv0 v
      have o3' := hF6.cell o3 (by show ¬ τ T.ob = 8; rw [(hS6.on hn0).2]; omega)
      obtain ⟨W7, hW7⟩ : ∃ W7, W6.setCell ⟨T.b 9, v, none⟩ (.int .i64 (y + c)) = W7 := ⟨_, rfl⟩
      have hT7 : Tn τ W7 T E D3 := by rw [← hD3, ← hW7]; exact hT6.setHolderSum hvn (y + c)
      have hF7 : Fx (fun t => t = 9) τ W6 W7 := hW7 ▸ (Fx.refl _ _ _).setCell (show τ (T.b 9) = 9 from t9) _
      have e3 : D2.toPlace = D3.toPlace ∧ D2.hash = D3.hash ∧ D2.lw = D3.lw ∧ D2.current = D3.current := by rw [← hD3]; exact ⟨rfl, rfl, rfl, rfl⟩
      have hS7 : Sx τ W7 X H T E D3.toPlace D3.hash := by rw [← e3.1, ← e3.2.1]; exact hS6.fx hF7 (by omega) (by omega) (by omega)
      have g6 := hF6.cell g5 (by show ¬ τ g = 8; rw [HTG.out]; omega)
      have g7 := hF7.cell g6 (by show ¬ τ g = 9; rw [HTG.out]; omega)
      have o37 := hF7.cell o3' (by show ¬ τ T.ob = 9; rw [(hS6.on hn0).2]; omega)
      have hF7' : Fx (fun t => t ≠ 0) τ w W7 := (HF5.out.trans (hF6.mono (fun t h => by omega))).trans (hF7.mono (fun t h => by omega))
      have H32 : Hid (∀ w', Same W7 w' → Calls Try.prog 32 #[.pointer (some ⟨X, 0, none⟩), .int .i32 (v : Nat), .int .i32 p] w' fun e w'' => e = .returned (.tuple #[]) ∧ (∀ w3, Same w'' w3 → (Tn τ w3 T E Df ∧ Sx τ w3 X H T E Df.toPlace Df.hash ∧ Fx (fun t => t ≠ 0) τ w w3 ∧ Sz E Df))) := fun w' h => by
        have hT' := hT7.fx (h.fx (fun _ => False)) (fun t h => h.elim)
        have hS' := hS7.fx (h.fx (fun _ => False)) (fun h => h) (fun h => h) (fun h => h)
        refine (f32_to hT' hS' hvn hnv (e3.2.2.2 ▸ hcu) (HPW.out HBW.out) HZ2.out.seed (e3.2.1 ▸ HZ2.out.hash)).mono ?_
        rintro e w'' ⟨rfl, h1, h2, h3, h4⟩
        refine ⟨rfl, ?_⟩
        rw [eD] at h1 h2 h4
        have et : D3.toPlace = Df.toPlace := by rw [← eD]; rfl
        rw [et] at h2
        exact fin_same h1 h2 ((hF7'.trans (h.fx _)).trans (h3.mono (fun t h => by omega))) (by
          have el : D2.lw = Df.lw := by rw [← eD, e3.2.2.1]; rfl
          exact { HZ2.out with hash := h4, lw := el ▸ HZ2.out.lw })
      clear eD hbk hl hcu hT6 hF6 hS6 hT7 hF7 hS7 e3 hF7' g6 hD3 hx hy t8 t9
      go_wp2_with fail
      go_region_with (fail)
      all_goals go_wp2_with fail
      all_goals go_region_with (fail)
      all_goals go_wp2_with fail
      all_goals go_region_with ((go_at_call 32; refine (H32.out _ (by exact ⟨rfl, rfl, rfl, rfl⟩)).mono ?_; rintro e w7 ⟨rfl, HP'⟩; have HP := hide HP'; clear HP'))
      all_goals go_wp2_with fail
      all_goals refine bodyPost_end (results_none rfl _ _ _) rfl ?_
      all_goals exact ⟨rfl, HP.out _ ⟨rfl, rfl, rfl, rfl⟩⟩
end
end Go.Proofs.Qxb6616080a

import Derived.Test.Qxb6616080aMu
import Derived.Deep.RegionHeld3
namespace Go.Proofs.Qxb6616080a
open Go.RowKit
set_option linter.unusedVariables false
set_option linter.unusedSimpArgs false
set_option maxRecDepth 100000

/-- The frame: blocks whose tags are not in p are as they were. -/
structure Fx (p : Nat → Prop) (τ : Nat → Nat) (w w' : World) : Prop where
  os : w'.os = w.os
  tape : w'.tape = w.tape
  output : w'.output = w.output
  size : w.heap.size ≤ w'.heap.size
  block : ∀ g, g < w.heap.size → ¬ p (τ g) → w'.heap[g]? = w.heap[g]?
theorem Fx.refl (p : Nat → Prop) (τ : Nat → Nat) (w : World) : Fx p τ w w := ⟨rfl, rfl, rfl, Nat.le_refl _, fun _ _ _ => rfl⟩
theorem Fx.trans {p : Nat → Prop} {τ : Nat → Nat} {a b c : World} (h : Fx p τ a b) (k : Fx p τ b c) : Fx p τ a c :=
  ⟨k.os.trans h.os, k.tape.trans h.tape, k.output.trans h.output, Nat.le_trans h.size k.size, fun g hg hp => (k.block g (Nat.lt_of_lt_of_le hg h.size) hp).trans (h.block g hg hp)⟩
theorem Fx.mono {p q : Nat → Prop} {τ : Nat → Nat} {a b : World} (h : Fx p τ a b) (hpq : ∀ t, p t → q t) : Fx q τ a b :=
  ⟨h.os, h.tape, h.output, h.size, fun g hg hq => h.block g hg (fun hp => hq (hpq _ hp))⟩
theorem Fx.setCell {p : Nat → Prop} {τ : Nat → Nat} {a w : World} (h : Fx p τ a w) {g j : Nat} (hp : p (τ g)) (u : Value) : Fx p τ a (w.setCell ⟨g, j, none⟩ u) :=
  ⟨h.os, h.tape, h.output, by simpa using h.size, fun k hk hn => by
    rw [Below.heap_setCell w ⟨g, j, none⟩ u k (by show k ≠ g; intro e; subst e; exact hn hp)]
    exact h.block k hk hn⟩
theorem Fx.drew {p : Nat → Prop} {τ : Nat → Nat} {a w : World} (h : Fx p τ a w) : Fx p τ a w.drew := ⟨h.os, h.tape, h.output, h.size, h.block⟩
theorem Fx.drewN {p : Nat → Prop} {τ : Nat → Nat} {a w : World} (h : Fx p τ a w) (n : Nat) : Fx p τ a (w.drewN n) := ⟨h.os, h.tape, h.output, h.size, h.block⟩
theorem Fx.alloc {p : Nat → Prop} {τ : Nat → Nat} {a w : World} (h : Fx p τ a w) (o : Obj) : Fx p τ a (w.alloc o) :=
  ⟨h.os, h.tape, h.output, by simp; have := h.size; omega, fun k hk hn => by rw [Below.heap_alloc w o k (Nat.lt_of_lt_of_le hk h.size)]; exact h.block k hk hn⟩
theorem Fx.cell {p : Nat → Prop} {τ : Nat → Nat} {w w' : World} (h : Fx p τ w w') {a : Addr} {v : Value} (hc : w.cell? a = some v) (hn : ¬ p (τ a.block)) : w'.cell? a = some v :=
  (World.cell?_of_block (h.block a.block (World.block_lt_of_cell? w a hc) hn)).trans hc
theorem Tn.drew {τ : Nat → Nat} {w : World} {T : Ad} {E : Env} {D : Dyn} (h : Tn τ w T E D) : Tn τ w.drew T E D := ⟨h.row, h.chn, h.lvl⟩
theorem Tn.drewN {τ : Nat → Nat} {w : World} {T : Ad} {E : Env} {D : Dyn} (h : Tn τ w T E D) (n : Nat) : Tn τ (w.drewN n) T E D := ⟨h.row, h.chn, h.lvl⟩

theorem newWord_bits (b : Bool) {x r : Nat} (hx : x < 2 ^ 64) (hr : r < 64) : (if b then bits .or .u64 (x : Int) (2 ^ r) else bits .andNot .u64 (x : Int) (2 ^ r)) = (newWord b x r : Int) := by
  have hp : (2 : Nat) ^ r < 2 ^ 64 := Nat.pow_lt_pow_right (by omega) hr
  have e : ((2 : Int) ^ r) = ((2 ^ r : Nat) : Int) := by simp
  cases b
  · simp only [Bool.false_eq_true, if_false]; rw [e, bits_andNot hx hr]; rfl
  · simp only [if_true]; rw [e, bits_or hx hp]; rfl

theorem zeq (x y : Nat) : ((((y : Int) == 0) == ((x : Int) == 0)) = true) ↔ ((y == 0) = (x == 0)) := by
  have hy : ((y : Int) == 0) = (y == 0) := by rw [Bool.eq_iff_iff, beq_iff_eq, beq_iff_eq]; omega
  have hx : ((x : Int) == 0) = (x == 0) := by rw [Bool.eq_iff_iff, beq_iff_eq, beq_iff_eq]; omega
  rw [hy, hx]
  simp

set_option maxHeartbeats 4000000 in
theorem f35_to {τ : Nat → Nat} {w : World} {T : Ad} {E : Env} {D : Dyn} (hT : Tn τ w T E D) (X c : Nat) (b : Bool) (hX : w.cell? ⟨X, 25, none⟩ = some (.slice (T.A 16) E.nl (T.cap 16))) (hτ : τ X = 50)
    (hm : E.nl ≤ 1048576) (hml : ∀ l, l < E.nl → E.ll l ≤ 1048576) (hc : c < E.nc) (hnc : E.nc ≤ 4096) (h0 : E.nc ≤ 64 * E.ll 0) (hs : ∀ l, l + 1 < E.nl → E.ll l ≤ 64 * E.ll (l + 1)) (hw : ∀ l, l < E.nl → ∀ i, i < E.ll l → D.lw l i < 2 ^ 64) :
    Calls Try.prog 35 #[.pointer (some ⟨X, 25, none⟩), .int .i64 (c : Nat), .bool b] w fun e w' => e = .returned (.tuple #[]) ∧ Tn τ w' T E { D with lw := setLv b E.nl 0 c D.lw } ∧ Fx (fun t => 100 ≤ t) τ w w' ∧ ∀ l, l < E.nl → ∀ i, i < E.ll l → setLv b E.nl 0 c D.lw l i < 2 ^ 64 := by
  obtain ⟨R, hR⟩ : ∃ R, setLv b E.nl 0 c D.lw = R := ⟨_, rfl⟩
  rw [hR]
  have HT := hide hT
  have HR := hide hR
  have HS := hide hs
  have HW := hide hw
  have HML := hide hml
  have H0 := hide h0
  clear hT hR hs hw hml h0
  go_enter Try.func35, Try.ntmps35
  go_wp2_with fail
  go_loopg [1, 15] (E.nl) (fun kx s1 s15 wr => ∃ (l cl : Nat) (f : Nat → Nat → Nat), l ≤ E.nl ∧ kx = E.nl - l ∧ s1 = .int .i64 (cl : Nat) ∧ s15 = .int .i64 (l : Nat) ∧ cl < 1048577 ∧ Hid ((l < E.nl → cl < 64 * E.ll l) ∧ setLv b (E.nl - l) l cl f = R ∧ Tn τ wr T E { D with lw := f } ∧ Fx (fun t => 100 ≤ t) τ w wr ∧ ∀ l, l < E.nl → ∀ i, i < E.ll l → f l i < 2 ^ 64))
  case atStart =>
    exact ⟨0, c, D.lw, by omega, by omega, rfl, rfl, by omega, (⟨fun _ => by have := H0.out; omega, HR.out, HT.out, Fx.refl _ _ _, HW.out⟩ : (0 < E.nl → c < 64 * E.ll 0) ∧ setLv b (E.nl - 0) 0 c D.lw = R ∧ _)⟩
  case round =>
    obtain ⟨l, cl, f, hl, hk, rfl, rfl, hcl, HI⟩ := hrel
    by_cases hln : l < E.nl
    · obtain ⟨hA1, hA2, hA3⟩ := HI.out.2.2.1.row 16 (show 0 < lenF E 16 by show 0 < E.nl; omega)
      have hcl2 := HI.out.1 hln
      obtain ⟨hB1, hB2, hB3⟩ := HI.out.2.2.1.lvl l hln (by omega)
      have c1 : wr.cell? ⟨T.b 16, l, none⟩ = some (.slice (T.lA l) (E.ll l) (T.lc l)) := hA3.cell (show l < lenF E 16 from hln)
      obtain ⟨d, hd⟩ : ∃ d, cl / 64 = d := ⟨_, rfl⟩
      obtain ⟨r, hr⟩ : ∃ r, cl % 64 = r := ⟨_, rfl⟩
      have hdl : d < E.ll l := by omega
      have hr64 : r < 64 := by omega
      have hml := HML.out l hln
      have hd2 : (cl : Int) / 64 = (d : Int) := by omega
      have hr3 : (cl : Int).tmod 64 = (r : Int) := by rw [Int.tmod_eq_emod_of_nonneg (by omega)]; omega
      have wd : IntKind.i64.wrap (d : Int) = (d : Int) := w64' (by unfold i64; omega)
      have wl : IntKind.i64.wrap ((l : Int) + 1) = (l : Int) + 1 := w64' (by unfold i64; omega)
      have c2 : wr.cell? ⟨T.lb l, d, none⟩ = some (.int .u64 (f l d : Nat)) := hB3.cell hdl
      have f2 := hB3.frozen d
      have hx := HI.out.2.2.2.2 l hln d hdl
      have e5 : IntKind.u64.wrap (2 ^ r) = 2 ^ r := by
        have := wrapu (x := 2 ^ r) (Nat.pow_lt_pow_right (by omega) hr64)
        simpa using this
      have hnw := newWord_bits b hx hr64
      have hnl := newWord_lt (b := b) hx hr64
      have hset : Hid (setLv b (E.nl - l) l cl f = if (newWord b (f l d) r == 0) = (f l d == 0) then upd2 f l d (newWord b (f l d) r) else setLv b (E.nl - (l + 1)) (l + 1) d (upd2 f l d (newWord b (f l d) r))) := by
        show _ = _
        have e : E.nl - l = (E.nl - (l + 1)) + 1 := by omega
        rw [e]
        simp only [setLv, hd, hr]
      have HTn := hide HI.out.2.2.1
      have HFx := hide HI.out.2.2.2.1
      have hyz : Hid (∀ l', l' < E.nl → ∀ i, i < E.ll l' → upd2 f l d (newWord b (f l d) r) l' i < 2 ^ 64) := fun l' hl' i hi => by
        unfold upd2
        split
        · exact hnl
        · exact HI.out.2.2.2.2 l' hl' i hi
      have HB2 := hide hB2
      have hSl := hide (fun h : l + 1 < E.nl => HS.out l h)
      generalize hy : newWord b (f l d) r = y at hnw hnl hset hyz
      generalize hxx : f l d = x at c2 hx hnw hset
      have HY := hide hy
      have HXX := hide hxx
      clear hA2 hA3 hB2 hB3 hy hxx hnl
      have hdl2 : (d : Int) < (E.ll l : Int) := by omega
      have HTn' : Hid (Tn τ ((wr.setCell ⟨T.lb l, d, none⟩ (.int .u64 (y : Nat))).drew) T E { D with lw := upd2 f l d y }) := (HTn.out.setL (x := y) hln hdl).drew
      have HFx' : Hid (Fx (fun t => 100 ≤ t) τ w ((wr.setCell ⟨T.lb l, d, none⟩ (.int .u64 (y : Nat))).drew)) := (HFx.out.setCell (by show 100 ≤ τ (T.lb l); rw [HB2.out]; omega) _).drew
      cases b
      · simp only [Bool.false_eq_true, if_false] at hnw
        cases qz : (((y : Int) == 0) == ((x : Int) == 0))
        · go_wp2_with fail
          go_region
          go_wp2_with fail
          go_roundg (E.nl - (l + 1))
          case measure => omega
          case rel =>
            refine ⟨l + 1, d, upd2 f l d y, by omega, rfl, rfl, by go_num, by omega, ?_⟩
            show (l + 1 < E.nl → d < 64 * E.ll (l + 1)) ∧ _ ∧ _ ∧ _ ∧ _
            refine ⟨fun h => by have := hSl.out h; omega, ?_, HTn'.out, HFx'.out, hyz.out⟩
            rw [← HI.out.2.1, hset.out, if_neg (fun h => by rw [(zeq x y).2 h] at qz; cases qz)]
        · go_wp2_with fail
          go_region
          go_wp2_with fail
          refine bodyPost_ret (results_none rfl _ _ _) rfl ?_
          have hRe : R = upd2 f l d y := by
            rw [← HI.out.2.1, hset.out, if_pos ((zeq x y).1 qz)]
          rw [hRe]
          exact ⟨rfl, HTn'.out, HFx'.out, hyz.out⟩
      · simp only [if_true] at hnw
        cases qz : (((y : Int) == 0) == ((x : Int) == 0))
        · go_wp2_with fail
          go_region
          go_wp2_with fail
          go_roundg (E.nl - (l + 1))
          case measure => omega
          case rel =>
            refine ⟨l + 1, d, upd2 f l d y, by omega, rfl, rfl, by go_num, by omega, ?_⟩
            show (l + 1 < E.nl → d < 64 * E.ll (l + 1)) ∧ _ ∧ _ ∧ _ ∧ _
            refine ⟨fun h => by have := hSl.out h; omega, ?_, HTn'.out, HFx'.out, hyz.out⟩
            rw [← HI.out.2.1, hset.out, if_neg (fun h => by rw [(zeq x y).2 h] at qz; cases qz)]
        · go_wp2_with fail
          go_region
          go_wp2_with fail
          refine bodyPost_ret (results_none rfl _ _ _) rfl ?_
          have hRe : R = upd2 f l d y := by
            rw [← HI.out.2.1, hset.out, if_pos ((zeq x y).1 qz)]
          rw [hRe]
          exact ⟨rfl, HTn'.out, HFx'.out, hyz.out⟩
    · go_wp2_with fail
      have hle : l = E.nl := by omega
      refine bodyPost_end (results_none rfl _ _ _) rfl ?_
      have hRe : R = f := by
        rw [← HI.out.2.1, hle, Nat.sub_self]
        rfl
      rw [hRe]
      exact ⟨rfl, HI.out.2.2.1, HI.out.2.2.2.1, HI.out.2.2.2.2⟩
end Go.Proofs.Qxb6616080a

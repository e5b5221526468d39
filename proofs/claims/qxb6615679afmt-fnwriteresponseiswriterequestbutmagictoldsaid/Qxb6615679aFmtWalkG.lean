import Derived.Test.Qxb6615679aFmtWalkF
namespace Go.Proofs.Qxb6615679aFmt
open Go.RowKit
set_option linter.unusedVariables false
set_option linter.unusedSimpArgs false

/-- What is yet to be written. -/
structure PSrc (b wb gb : Nat) (v : Value) (w : World) (ao : Option Addr) (n c : Nat) (rest : List UInt8) : Prop where
  len : rest.length = n
  le : n ≤ c
  nil : ao = none → n = 0
  src : ∀ ad, ao = some ad → SrcA w ad rest
  safe : ∀ ad, ao = some ad → 0 < n → Safe b wb gb v w ad.block
theorem PSrc.fr {b wb gb : Nat} {v v' : Value} {w w' : World} {ao : Option Addr} {n c : Nat} {rest : List UInt8} (h : PSrc b wb gb v w ao n c rest) (f : WFr b wb gb v w w' v') : PSrc b wb gb v' w' ao n c rest := by
  refine ⟨h.len, h.le, h.nil, fun ad e => ?_, fun ad e hn => (h.safe ad e hn).fr f⟩
  by_cases hn : 0 < n
  · exact (h.src ad e).same ((h.safe ad e hn).same f)
  · exact ⟨fun j hj => by have := h.len; omega⟩
/-- p[k:]. -/
theorem PSrc.cut {b wb gb : Nat} {v : Value} {w : World} {ao : Option Addr} {n c : Nat} {rest : List UInt8} (h : PSrc b wb gb v w ao n c rest) (k : Nat) (hk : k ≤ n) (h0 : 0 < n) :
    ∃ ao', PSrc b wb gb v w ao' (n - k) (c - k) (rest.drop k) ∧ ∀ w, (Instr.slice 25 (.slice ao n c) (some (.int .i64 k)) none none).run Tryf.prog w = .ok (.slice ao' (n - k) (c - k)) w := by
  cases ao with
  | none => have := h.nil rfl; omega
  | some ad =>
    obtain ⟨ad', e, hs, hr⟩ := sliceP ad n c k hk h.le
    refine ⟨some ad', ⟨by rw [List.length_drop, h.len], by have := h.le; omega, by simp, fun ad2 e2 => ?_, fun ad2 e2 hn => ?_⟩, hr⟩
    · cases e2; exact hs w rest (h.src ad rfl) h.len
    · cases e2; rw [e]; exact h.safe ad rfl h0

/-- What went straight through. -/
theorem Wst.direct {b wb gb S : Nat} {v v' : Value} {l s : List UInt8} {w w1 : World} (h : Wst b wb gb S v l [] w) (hb : BSt b v' (l ++ s) w1) (hf : BFr b v w w1 v') :
    Wst b wb gb S v' (l ++ s) [] (w1.setCell ⟨wb, 0, none⟩ .nilIface) ∧ WFr b wb gb v w (w1.setCell ⟨wb, 0, none⟩ .nilIface) v' := by
  obtain ⟨n1, n2, n3, n4, l1, l2, l3⟩ := h.ne1
  have hw1 := (hf.block wb l2 n1 n4).trans h.wr
  obtain ⟨cur, hg, hcs, htk⟩ := h.row
  have hg1 := (hf.block gb l3 n2 (fun e => h.apart e.symm)).trans hg
  have nv : some wb ≠ v'.ownBlock := by
    intro e
    rcases hf.blk with e1 | e1
    · exact n4 (e.trans e1)
    · have := e1 wb e.symm; omega
  refine ⟨⟨hb.set _ (Ne.symm n1) nv, rowSet hw1 _, ⟨cur, (Below.heap_setCell _ _ _ _ n3).trans hg1, hcs, rfl⟩, Nat.zero_le _, h.s0, h.s1, ?_⟩, ⟨hf.os, hf.tape, hf.output, by rw [World.size_setCell]; exact hf.size, fun k hk h1 h2 h3 h4 => (Below.heap_setCell _ _ _ _ h2).trans (hf.block k hk h1 h4), hf.blk⟩⟩
  intro e
  rcases hf.blk with e1 | e1
  · exact h.apart (e1.symm.trans e)
  · have := e1 gb e; omega

/-- The loop of Write. -/
structure WInv (b wb gb S : Nat) (v : Value) (l m s : List UInt8) (w wr : World) (ao : Option Addr) (n c d : Nat) (v' : Value) (l' m' rest : List UInt8) : Prop where
  st : Wst b wb gb S v' l' m' wr
  fr : WFr b wb gb v w wr v'
  p : PSrc b wb gb v' wr ao n c rest
  sum : l' ++ m' ++ rest = l ++ m ++ s
  cnt : d + n = s.length

/-- The measure. -/
def mea (wb : Nat) (p : Value) (w : World) : Nat := (match p with | .slice _ n _ => 70000 * n | _ => 0) + (intOf ((w.cell? ⟨wb, 2, none⟩).getD undef)).toNat

set_option maxHeartbeats 16000000 in
set_option maxRecDepth 100000 in
/-- (*bufio.Writer).Write. -/
theorem f46_to (b wb gb S : Nat) (v : Value) (l m s : List UInt8) (w : World) (ao : Option Addr) (n c : Nat) (h : Wst b wb gb S v l m w) (hp : PSrc b wb gb v w ao n c s) (hlim : l.length + m.length + n ≤ 1099511627776) :
    Calls Tryf.prog 46 #[.pointer (some ⟨wb, 0, none⟩), .slice ao n c] w fun e w' => e = .returned (.tuple #[.int .i64 n, .nilIface]) ∧ ∃ v' l' m', Wst b wb gb S v' l' m' w' ∧ WFr b wb gb v w w' v' ∧ l' ++ m' = l ++ m ++ s := by
  have hst : WInv b wb gb S v l m s w w ao n c 0 v l m s := ⟨h, WFr.refl _ _ _ _ _, hp, rfl, by rw [hp.len]; omega⟩
  have hsl : s.length = n := hp.len
  have HST := hide hst
  have HSL := hide hsl
  clear hst h hp hsl
  go_enter Tryf.func46, Tryf.ntmps46
  go_wp2
  go_loopw [1, 4, 6] (fun s1 s4 s6 wr => ∃ ao n c d v' l' m' rest, s1 = .slice ao n c ∧ s4 = .int .i64 (d : Nat) ∧ WInv b wb gb S v l m s w wr ao n c d v' l' m' rest) (fun s1 s4 s6 wr => mea wb s1 wr)
  case atStart => exact ⟨_, _, _, 0, _, _, _, _, rfl, rfl, HST.out⟩
  case round =>
    obtain ⟨ao, n', c, d, v', l', m', rest, rfl, rfl, hinv⟩ := hrel
    have HIN := hide hinv
    have hmS := hinv.st.mS
    have hS := hinv.st.s1
    have hcnt := hinv.cnt
    have hsum : l'.length + m'.length + n' = l.length + m.length + n := by
      have e := congrArg List.length hinv.sum
      simp only [List.length_append] at e
      have := hinv.p.len
      have := HSL.out
      omega
    clear HST
    generalize hk : m'.length = k at hmS hsum
    have HK := hide hk
    have HCNT := hide hcnt
    have HSUM := hide hsum
    have hb1 : n' ≤ 1099511627776 := by omega
    have hb2 : d ≤ 1099511627776 := by have := HSL.out; omega
    clear hk hinv hcnt hsum
    go_wp2_with fail
    refine (f43_to b wb gb S v' l' m' wr HIN.out.st).mono ?_
    rintro e w1 ⟨rfl, j, hw1⟩
    rw [HK.out]
    have hin1 : Wst b wb gb S v' l' m' w1 ∧ WFr b wb gb v' wr w1 v' := by rw [hw1]; exact ⟨HIN.out.st.drew j, WFr.drew j⟩
    have H1 := hide hin1
    have c0 : w1.cell? ⟨wb, 0, none⟩ = some .nilIface := cellRow hin1.1.wr 0
    have c1 : w1.cell? ⟨wb, 1, none⟩ = some (.slice (some ⟨gb, 0, none⟩) S S) := cellRow hin1.1.wr 1
    have c2 : w1.cell? ⟨wb, 2, none⟩ = some (.int .i64 k) := HK.out ▸ cellRow hin1.1.wr 2
    have c3 : w1.cell? ⟨wb, 3, none⟩ = some (.iface 43 (.pointer (some ⟨b, 0, none⟩))) := cellRow hin1.1.wr 3
    have f0 : w1.frozen? ⟨wb, 0, none⟩ = false := frozen_of_row _ _ _ _ _ hin1.1.wr
    have f2 : w1.frozen? ⟨wb, 2, none⟩ = false := frozen_of_row _ _ _ _ _ hin1.1.wr
    have HWM := hide (show mea wb (.slice ao n' c) wr = 70000 * n' + k by unfold mea; rw [cellRow HIN.out.st.wr 2]; simp [intOf, HK.out])
    clear hw1 hin1
    by_cases hgt : (S : Int) - (k : Int) < (n' : Int)
    · go_wp2_with fail
      refine (f61_to b wb gb S v' l' m' w1 H1.out.1).mono ?_
      rintro e w2 ⟨rfl, hw2⟩
      obtain rfl : w1 = w2 := hw2.symm
      rw [HK.out]
      by_cases hk0 : k = 0
      · subst hk0
        obtain rfl : m' = [] := List.eq_nil_of_length_eq_zero HK.out
        have hn1 : 0 < n' := by omega
        have hps := HIN.out.p.fr H1.out.2
        obtain ⟨ao2, hp2, hcut⟩ := hps.cut n' (Nat.le_refl _) hn1
        rw [Nat.sub_self, List.drop_of_length_le (by rw [hps.len]; exact Nat.le_refl _)] at hp2
        rw [Nat.sub_self] at hcut
        obtain ⟨ad, rfl⟩ : ∃ ad, ao = some ad := by
          cases hao : ao with
          | none => have := hps.nil hao; omega
          | some ad => exact ⟨ad, rfl⟩
        have hsf := hps.safe ad rfl hn1
        have h84 := f84_to b n' c ad v' l' rest w1 H1.out.1.buf hps.len hn1 (by have := HSUM.out; simp at this; omega) (hps.src ad rfl) hsf.b hsf.lt
        have HP2 := hide hp2
        clear hps hp2 hsf
        go_wp2_with fail
        refine h84.mono ?_
        rintro e w2 ⟨rfl, v2, hb2, hf2⟩
        have hdir := H1.out.1.direct hb2 hf2
        have hkp := H1.out.1.kept hf2
        have d0 : w2.cell? ⟨wb, 0, none⟩ = some .nilIface := (World.cell?_of_block hkp).trans c0
        have g0 : w2.frozen? ⟨wb, 0, none⟩ = false := (World.frozen?_of_block hkp).trans f0
        have HD := hide hdir
        clear hb2 hf2 hdir hkp h84 c0 c1 c2 c3 f0 f2
        go_wp2
        go_roundw
        case rel =>
          refine ⟨ao2, 0, c - n', d + n', v2, l' ++ rest, [], [], rfl, by simp, ⟨HD.out.1, HIN.out.fr.trans (H1.out.2.trans HD.out.2), HP2.out.fr HD.out.2, ?_, by have := HCNT.out; omega⟩⟩
          have := HIN.out.sum
          simpa using this
        case measure =>
          show _ < mea wb (.slice (some ad) n' c) wr
          rw [HWM.out]
          unfold mea
          rw [cellRow HD.out.1.wr 2]
          simp [intOf]
          omega
      · have hk1 : ¬ ((k : Int) = 0) := by omega
        obtain ⟨t, ht⟩ : ∃ t, S - k = t := ⟨_, rfl⟩
        have ht1 : k + t = S := by omega
        have htn : t ≤ n' := by omega
        have hn1 : 0 < n' := by omega
        have hps := HIN.out.p.fr H1.out.2
        have hst1 : Wst b wb gb S v' l' m' w1.drew := H1.out.1.drew 1
        obtain ⟨o', cur, hg, hcs, htk, hslb, hcp⟩ := copyTo hst1 ao n' c rest hps.len (fun ad e => (hps.src ad e).same rfl) hps.nil
        rw [HK.out] at hslb hcp htk
        rw [ht] at hslb hcp
        rw [show Nat.min n' t = t from Nat.min_eq_right htn] at hcp
        have htl : (rest.take t).length = t := by rw [List.length_take, hps.len]; omega
        have hfil := hst1.filled (rest.take t) (by rw [HK.out, htl]; omega) cur hg hcs (by rw [HK.out]; exact htk) ((k : Int) + (t : Int)) (by rw [List.length_append, htl, HK.out]; omega)
        rw [HK.out] at hfil
        obtain ⟨ao2, hp2, hcut⟩ := hps.cut t htn hn1
        have HP2 := hide hp2
        have HFIL := hide hfil
        have HCP := hide hcp
        have HS0 : Hid (w1.drew.cell? ⟨wb, 1, none⟩ = some (.slice (some ⟨gb, 0, none⟩) S S) ∧ w1.drew.cell? ⟨wb, 2, none⟩ = some (.int .i64 k)) := ⟨c1, c2⟩
        have hgw : gb ≠ wb := hst1.ne1.2.2.1
        have hset : ∀ x : Array Value, (w1.drew.setRow gb x).heap[wb]? = w1.drew.heap[wb]? := fun x => setRow_other _ _ _ _ (Ne.symm hgw)
        have HS1 : Hid (∀ x : Array Value, (w1.drew.setRow gb x).cell? ⟨wb, 1, none⟩ = some (.slice (some ⟨gb, 0, none⟩) S S) ∧ (w1.drew.setRow gb x).cell? ⟨wb, 2, none⟩ = some (.int .i64 k)) := fun x => ⟨(World.cell?_of_block (hset x)).trans c1, (World.cell?_of_block (hset x)).trans c2⟩
        have HF1 : Hid (∀ x : Array Value, (w1.drew.setRow gb x).frozen? ⟨wb, 2, none⟩ = false) := fun x => (World.frozen?_of_block (hset x)).trans f2
        clear hp2 hps hst1 hg hcs htk hfil hset
        go_wp2_with fail
        go_region_held3 (fun w' => w'.cell? ⟨wb, 1, none⟩ = some (.slice (some ⟨gb, 0, none⟩) S S) ∧ w'.cell? ⟨wb, 2, none⟩ = some (.int .i64 k))
          (with_reducible (first | exact HS0.out | exact HS1.out _))
          (fail)
        obtain ⟨X, hX⟩ : ∃ X, putAt cur k (Lib.byteCells (rest.take t)) = X := ⟨_, rfl⟩
        have d2 := (HS1.out X).2
        have g2 := HF1.out X
        have hfil := HFIL.out
        rw [hX] at hfil ⊢
        have HF2 := hide hfil
        have hl30 : l'.length + (m' ++ rest.take t).length ≤ 1099511627776 := by rw [List.length_append, htl, HK.out]; have := HSUM.out; omega
        have h30 := f30_to b wb gb S v' l' (m' ++ rest.take t) _ hfil.1 hl30
        clear hX hfil HFIL HCP hcp
        go_wp2_with fail
        refine h30.mono ?_
        rintro e w3 ⟨rfl, v3, hst3, hfr3⟩
        have HST3 := hide hst3
        have hfrr : WFr b wb gb v' w1 w3 v3 := (WFr.drew 1).trans (HF2.out.2.trans hfr3)
        have HFR3 := hide hfrr
        clear hst3 hfr3 hfrr h30 c0 c1 c2 c3 f0 f2 d2 g2 hslb
        go_wp2
        go_roundw
        case rel =>
          refine ⟨ao2, n' - t, c - t, d + t, v3, l' ++ (m' ++ rest.take t), [], rest.drop t, rfl, by simp, ⟨HST3.out, HIN.out.fr.trans (H1.out.2.trans HFR3.out), HP2.out.fr HFR3.out, ?_, by have := HCNT.out; omega⟩⟩
          have := HIN.out.sum
          rw [List.append_nil, List.append_assoc, List.append_assoc, List.take_append_drop, ← List.append_assoc]
          exact this
        case measure =>
          show _ < mea wb (.slice ao n' c) wr
          rw [HWM.out]
          unfold mea
          rw [cellRow HST3.out.wr 2]
          simp [intOf]
          omega
    · have htn : Nat.min n' (S - k) = n' := Nat.min_eq_left (by omega)
      have hps := HIN.out.p.fr H1.out.2
      have hst1 : Wst b wb gb S v' l' m' w1.drew := H1.out.1.drew 1
      obtain ⟨o', cur, hg, hcs, htk, hslb, hcp⟩ := copyTo hst1 ao n' c rest hps.len (fun ad e => (hps.src ad e).same rfl) hps.nil
      rw [HK.out] at hslb hcp htk
      rw [List.take_of_length_le (by rw [hps.len]; omega), htn] at hcp
      obtain ⟨t, ht⟩ : ∃ t, S - k = t := ⟨_, rfl⟩
      rw [ht] at hslb hcp
      have hfil := hst1.filled rest (by rw [HK.out, hps.len]; omega) cur hg hcs (by rw [HK.out]; exact htk) ((k : Int) + (n' : Int)) (by rw [List.length_append, hps.len, HK.out]; omega)
      rw [HK.out] at hfil
      have HFIL := hide hfil
      have HS0 : Hid (w1.drew.cell? ⟨wb, 1, none⟩ = some (.slice (some ⟨gb, 0, none⟩) S S) ∧ w1.drew.cell? ⟨wb, 2, none⟩ = some (.int .i64 k)) := ⟨c1, c2⟩
      have hgw : gb ≠ wb := hst1.ne1.2.2.1
      have hset : ∀ x : Array Value, (w1.drew.setRow gb x).heap[wb]? = w1.drew.heap[wb]? := fun x => setRow_other _ _ _ _ (Ne.symm hgw)
      have HS1 : Hid (∀ x : Array Value, (w1.drew.setRow gb x).cell? ⟨wb, 1, none⟩ = some (.slice (some ⟨gb, 0, none⟩) S S) ∧ (w1.drew.setRow gb x).cell? ⟨wb, 2, none⟩ = some (.int .i64 k)) := fun x => ⟨(World.cell?_of_block (hset x)).trans c1, (World.cell?_of_block (hset x)).trans c2⟩
      have HF1 : Hid (∀ x : Array Value, (w1.drew.setRow gb x).frozen? ⟨wb, 2, none⟩ = false) := fun x => (World.frozen?_of_block (hset x)).trans f2
      clear hps hst1 hg hcs htk hfil hset
      go_wp2_with fail
      go_region_held3 (fun w' => w'.cell? ⟨wb, 1, none⟩ = some (.slice (some ⟨gb, 0, none⟩) S S) ∧ w'.cell? ⟨wb, 2, none⟩ = some (.int .i64 k))
        (with_reducible (first | exact HS0.out | exact HS1.out _))
        (fail)
      obtain ⟨X, hX⟩ : ∃ X, putAt cur k (Lib.byteCells rest) = X := ⟨_, rfl⟩
      have d2 := (HS1.out X).2
      have g2 := HF1.out X
      have hfil := HFIL.out
      rw [hX] at hfil ⊢
      have HF2 := hide hfil
      have hdn : (d : Int) + (n' : Int) = (n : Int) := by have := HCNT.out; have := HSL.out; omega
      have hbn : n ≤ 1099511627776 := by omega
      clear hX hfil HFIL hcp
      go_wp2
      go_ret2
      refine ⟨rfl, v', l', m' ++ rest, HF2.out.1, HIN.out.fr.trans (H1.out.2.trans ((WFr.drew 1).trans HF2.out.2)), ?_⟩
      have := HIN.out.sum
      rw [← List.append_assoc]
      exact this
end Go.Proofs.Qxb6615679aFmt

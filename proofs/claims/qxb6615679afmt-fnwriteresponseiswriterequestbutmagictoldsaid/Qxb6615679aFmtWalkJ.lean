import Derived.Test.Qxb6615679aFmtWalkI
namespace Go.Proofs.Qxb6615679aFmt
open Go.RowKit
set_option linter.unusedVariables false
set_option linter.unusedSimpArgs false

theorem Wst.grown {b wb gb S : Nat} {v : Value} {l m : List UInt8} {w w' : World} (h : Wst b wb gb S v l m w) (hg : w.grownBy w' none) : Wst b wb gb S v l m w' ∧ WFr b wb gb v w w' v := by
  obtain ⟨n1, n2, n3, n4, l1, l2, l3⟩ := h.ne1
  obtain ⟨lr, hb⟩ := h.buf.bk
  obtain ⟨cur, hg1, hcs, htk⟩ := h.row
  exact ⟨⟨⟨⟨lr, (hg.block b l1 (by simp)).trans hb⟩, h.buf.own.grown hg, h.buf.ne⟩, (hg.block wb l2 (by simp)).trans h.wr, ⟨cur, (hg.block gb l3 (by simp)).trans hg1, hcs, htk⟩, h.mS, h.s0, h.s1, h.apart⟩, ⟨hg.os, hg.tape, hg.output, hg.size, fun k hk _ _ _ _ => hg.block k hk (by simp), .inl rfl⟩⟩
/-- The row written by someone else while it holds nothing. -/
theorem Wst.rowed {b wb gb S : Nat} {v : Value} {l : List UInt8} {w w' : World} (h : Wst b wb gb S v l [] w) (hg : w.grownBy w' (some gb)) (cur : Array Value) (hr : w'.heap[gb]? = some (.cells cur 5 (0, 0))) (hcs : cur.size = S) : Wst b wb gb S v l [] w' ∧ WFr b wb gb v w w' v := by
  obtain ⟨n1, n2, n3, n4, l1, l2, l3⟩ := h.ne1
  obtain ⟨lr, hb⟩ := h.buf.bk
  have ho : Buf w' v l := World.ownsRow.kept h.buf.own hg (by
    cases hv : v.ownBlock with
    | none => simp
    | some k => exact .inr (fun e => h.apart (hv.trans e)))
  exact ⟨⟨⟨⟨lr, (hg.block b l1 (by simp [Ne.symm n2])).trans hb⟩, ho, h.buf.ne⟩, (hg.block wb l2 (by simp [Ne.symm n3])).trans h.wr, ⟨cur, hr, hcs, rfl⟩, h.mS, h.s0, h.s1, h.apart⟩, ⟨hg.os, hg.tape, hg.output, hg.size, fun k hk _ _ h3 _ => hg.block k hk (by simp [h3]), .inl rfl⟩⟩
/-- A block apart is written. -/
theorem Wst.apartFrom {b wb gb S : Nat} {v : Value} {l m : List UInt8} {w w' : World} {k : Nat} (h : Wst b wb gb S v l m w) (hg : w.grownBy w' (some k)) (hs : Safe b wb gb v w k) : Wst b wb gb S v l m w' ∧ (∀ j, j < w.heap.size → j ≠ k → w'.heap[j]? = w.heap[j]?) := by
  obtain ⟨n1, n2, n3, n4, l1, l2, l3⟩ := h.ne1
  obtain ⟨lr, hb⟩ := h.buf.bk
  obtain ⟨cur, hg1, hcs, htk⟩ := h.row
  have ho : Buf w' v l := World.ownsRow.kept h.buf.own hg (by
    cases hv : v.ownBlock with
    | none => simp
    | some j => exact .inr (fun e => hs.v (by rw [hv]; exact e.symm)))
  exact ⟨⟨⟨⟨lr, (hg.block b l1 (by simp [Ne.symm hs.b])).trans hb⟩, ho, h.buf.ne⟩, (hg.block wb l2 (by simp [Ne.symm hs.wb])).trans h.wr, ⟨cur, (hg.block gb l3 (by simp [Ne.symm hs.gb])).trans hg1, hcs, htk⟩, h.mS, h.s0, h.s1, h.apart⟩, fun j hj hne => hg.block j hj (by simp [hne])⟩
theorem WFr.past {b wb gb : Nat} {v v' : Value} {w w1 w2 : World} {k : Nat} (h : WFr b wb gb v w w1 v') (hg : w1.grownBy w2 (some k)) (hk : w.heap.size ≤ k) : WFr b wb gb v w w2 v' :=
  ⟨hg.os.trans h.os, hg.tape.trans h.tape, hg.output.trans h.output, Nat.le_trans h.size hg.size, fun i hi h1 h2 h3 h4 => (hg.block i (Nat.lt_of_lt_of_le hi h.size) (by simp; omega)).trans (h.block i hi h1 h2 h3 h4), h.blk⟩
/-- One of the three slices. -/
structure Arg (b wb gb : Nat) (v : Value) (w : World) (ao : Option Addr) (n c : Nat) (s : List UInt8) : Prop where
  p : PSrc b wb gb v w ao n c s
  nilc : ao = none → c = 0
theorem Arg.fr {b wb gb : Nat} {v v' : Value} {w w' : World} {ao : Option Addr} {n c : Nat} {s : List UInt8} (h : Arg b wb gb v w ao n c s) (f : WFr b wb gb v w w' v') : Arg b wb gb v' w' ao n c s := ⟨h.p.fr f, h.nilc⟩

theorem Buf.rowOf {w : World} {g k cap : Nat} {l : List UInt8} (h : Buf w (.slice (some ⟨g, 0, none⟩) k cap) l) : ∃ cur, w.heap[g]? = some (.cells cur 5 (0, 0)) ∧ cur.size = cap := by
  obtain ⟨-, ⟨h0, -⟩ | ⟨g', cap', cur, e, -, hg, -, -, hcs, -⟩⟩ := h
  · cases h0
  · simp at e
    obtain ⟨rfl, -, rfl⟩ := e
    exact ⟨cur, hg, by omega⟩
theorem Buf.srcA {w : World} {g k cap : Nat} {l : List UInt8} (h : Buf w (.slice (some ⟨g, 0, none⟩) k cap) l) : SrcA w ⟨g, 0, none⟩ l := by
  obtain ⟨-, ⟨h0, -⟩ | ⟨g', cap', cur, e, -, hg, -, -, hcs, htk⟩⟩ := h
  · cases h0
  · simp at e
    obtain ⟨rfl, -, rfl⟩ := e
    refine ⟨fun j hj => ?_⟩
    rw [Addr.add_lit, Nat.zero_add, cellRow hg, ← Array.getElem?_toList]
    have e : (cur.toList.take (l.length * 1))[j]? = (Lib.byteCells l)[j]? := by rw [htk]
    rw [List.getElem?_take, if_pos (by omega)] at e
    rw [e]
    simp [Lib.byteCells, List.getD, hj]

set_option maxHeartbeats 16000000 in
set_option maxRecDepth 100000 in
theorem f29_ok (b wb gb S : Nat) (v : Value) (w : World) (magic opc dt f6 opq cas : Nat) (a1 a2 a3 : Option Addr) (n1 n2 n3 c1 c2 c3 : Nat) (s1 s2 s3 : List UInt8) (h : Wst b wb gb S v [] [] w) (hp1 : Arg b wb gb v w a1 n1 c1 s1) (hp2 : Arg b wb gb v w a2 n2 c2 s2) (hp3 : Arg b wb gb v w a3 n3 c3 s3)
    (q1 : n1 ≤ 255) (q2 : n2 ≤ 250) (q3 : n3 ≤ 1048576) (r1 : magic < 256) (r2 : opc < 256) (r5 : dt < 256) (r6 : f6 < 65536) (r8 : opq < 4294967296) (r9 : cas < 18446744073709551616) :
    Calls Tryf.prog 29 #[.pointer (some ⟨wb, 0, none⟩), .agg #[.int .u8 magic, .int .u8 opc, .int .u16 0, .int .u8 0, .int .u8 dt, .int .u16 f6, .int .u32 0, .int .u32 opq, .int .u64 cas], .slice a1 n1 c1, .slice a2 n2 c2, .slice a3 n3 c3] w fun e w' => e = .returned .nilIface ∧ ∃ v' l' m', Wst b wb gb S v' l' m' w' ∧ WFr b wb gb v w w' v' ∧ l' ++ m' = hdr magic opc n2 n1 dt f6 (n1 + n2 + n3) opq cas ++ s1 ++ s2 ++ s3 := by
  have HST := hide h
  have HP1 := hide hp1
  have HP2 := hide hp2
  have HP3 := hide hp3
  have hS : S ≤ 65536 := h.s1
  clear h hp1 hp2 hp3
  obtain ⟨N, hN⟩ : ∃ N, n1 + n2 + n3 = N := ⟨_, rfl⟩
  have hNI : (n1 : Int) + (n2 : Int) + (n3 : Int) = (N : Int) := by omega
  have hNb : N ≤ 1049081 := by omega
  rw [hN]
  have HN := hide hN
  clear hN
  go_enter Tryf.func29, Tryf.ntmps29
  go_wp2_with fail
  obtain ⟨W1, hW1⟩ : ∃ W1, w.alloc (.cells #[.int .u8 magic, .int .u8 opc, .int .u16 n2, .int .u8 n1, .int .u8 dt, .int .u16 f6, .int .u32 N, .int .u32 opq, .int .u64 cas] 60) = W1 := ⟨_, rfl⟩
  rw [hW1]
  have hgr1 : w.grownBy W1 none := hW1 ▸ World.grownBy_alloc _ _ _
  have hH1 : Hd w.heap.size magic opc n2 n1 dt f6 N opq cas W1 := ⟨by rw [← hW1]; unfold World.alloc; exact Array.getElem?_push_size⟩
  obtain ⟨n4, n5, n6, n7, l4, l5, l6⟩ := HST.out.ne1
  have hsafe : w.heap.size ≠ b ∧ w.heap.size ≠ wb ∧ w.heap.size ≠ gb := ⟨by omega, by omega, by omega⟩
  obtain ⟨hd, hhd⟩ : ∃ hd, w.heap.size = hd := ⟨_, rfl⟩
  rw [hhd] at hH1 hsafe ⊢
  obtain ⟨hst1, hfr1⟩ := HST.out.grown hgr1
  have hx6 : W1.cell? ⟨hd, 6, none⟩ = some (.int .u32 N) := cellRow hH1.bk 6
  have HH1 := hide hH1
  have HST1 := hide hst1
  have HFR1 := hide hfr1
  have HP1' := hide (HP1.out.fr hfr1)
  have HP2' := hide (HP2.out.fr hfr1)
  have HP3' := hide (HP3.out.fr hfr1)
  have HSF := hide hsafe
  clear hst1 hfr1 hH1 hgr1 hhd hW1 HP1 HP2 HP3 hsafe n4 n5 n6 n7 l4 l5 l6
  have HS0 : Hid (W1.drew.cell? ⟨hd, 6, none⟩ = some (.int .u32 N)) := hx6
  have hwr1 : IntKind.i64.wrap (N : Int) = (N : Int) := by rw [IntKind.wrap_i64]; omega
  have hwr2 : IntKind.i64.wrap (24 + (N : Int)) = 24 + (N : Int) := by rw [IntKind.wrap_i64]; omega
  go_region_held3 (fun w' => w'.cell? ⟨hd, 6, none⟩ = some (.int .u32 N))
    (with_reducible (first | exact HS0.out | exact HS1.out))
    (first
      | (go_at_call 43; refine (f43_to b wb gb S v [] [] W1.drew (HST1.out.drew 1)).mono ?_; rintro e W2 ⟨rfl, k2, hW2⟩; have HS1 : Hid (W2.cell? ⟨hd, 6, none⟩ = some (.int .u32 N)) := hW2 ▸ hx6; have HW2 := hide hW2; clear hW2))
  have hgr2 : W1.grownBy W2 none := by rw [HW2.out]; exact grownBy_trans_none (grownBy_drewN W1 1 none) (grownBy_drewN W1.drew k2 none)
  obtain ⟨hst2, hfr2⟩ := HST1.out.grown hgr2
  have hH2 : Hd hd magic opc n2 n1 dt f6 N opq cas W2 := HH1.out.grown (g := gb) ⟨hgr2.os, hgr2.tape, hgr2.output, hgr2.size, fun k hk _ => hgr2.block k hk (by simp)⟩ HSF.out.2.2
  have HFR2 := hide (HFR1.out.trans hfr2)
  have HST2 := hide hst2
  have HH2 := hide hH2
  have HA1 := hide (HP1'.out.fr hfr2)
  have HA2 := hide (HP2'.out.fr hfr2)
  have HA3 := hide (HP3'.out.fr hfr2)
  clear hgr2 hst2 hfr2 hH2 HP1' HP2' HP3' HW2 HS0 HS1 HH1 HST1 HFR1 hx6 HST
  by_cases hA : (24 : Int) + (N : Int) ≤ (S : Int)
  · go_wp2_with fail
    refine (f44_to b wb gb S v [] W2 HST2.out).mono ?_
    rintro e W3 ⟨rfl, k3, hW3⟩
    have hgr3 : W2.grownBy W3 none := by rw [hW3]; exact grownBy_drewN W2 k3 none
    obtain ⟨hst3, hfr3⟩ := HST2.out.grown hgr3
    have hH3 : Hd hd magic opc n2 n1 dt f6 N opq cas W3 := HH2.out.grown (g := gb) ⟨hgr3.os, hgr3.tape, hgr3.output, hgr3.size, fun k hk _ => hgr3.block k hk (by simp)⟩ HSF.out.2.2
    obtain ⟨cur, hcg, hcs, -⟩ := hst3.row
    have h45 := f45_to hd gb 0 24 S 5 cur magic opc n2 n1 dt f6 N opq cas W3 hH3 HSF.out.2.2 hcg (by omega) (by omega) (by omega) r1 r2 (by omega) (by omega) r5 r6 (by omega) r8 r9
    have HFR3 := hide (HFR2.out.trans hfr3)
    have HST3 := hide hst3
    have HB1 := hide (HA1.out.fr hfr3)
    have HB2 := hide (HA2.out.fr hfr3)
    have HB3 := hide (HA3.out.fr hfr3)
    have HCS := hide hcs
    have h24 : (24 : Int) ≤ (S : Int) := by omega
    clear hgr3 hst3 hfr3 hH3 hcg hcs hW3 HA1 HA2 HA3 HST2 HH2
    go_wp2_with fail
    refine h45.mono ?_
    rintro e W4 ⟨rfl, hrow4, hgr4⟩
    clear h45
    obtain ⟨hst4, hfr4⟩ := HST3.out.rowed hgr4 _ hrow4 (by rw [putAt_size _ _ _ (by rw [Lib.byteCells_length, hdr_length, HCS.out]; omega)]; exact HCS.out)
    have hbuf4 : Buf W4 (.slice (some ⟨gb, 0, none⟩) 24 S) (hdr magic opc n2 n1 dt f6 N opq cas) := by
      have htk := putAt_take cur 0 (Lib.byteCells (hdr magic opc n2 n1 dt f6 N opq cas)) (by rw [Lib.byteCells_length, hdr_length, HCS.out]; omega)
      rw [Lib.byteCells_length, hdr_length] at htk
      refine ⟨by rw [Lib.byteCells_length]; omega, .inr ⟨gb, S, _, by rw [hdr_length], Nat.zero_le _, hrow4, by rw [hdr_length]; omega, by unfold maxLen; omega, by rw [putAt_size _ _ _ (by rw [Lib.byteCells_length, hdr_length, HCS.out]; omega), HCS.out, Nat.mul_one], ?_⟩⟩
      rw [hdr_length, Nat.mul_one, show (24 : Nat) = 0 + 24 from rfl, htk]
      simp
    obtain ⟨L0, hL0⟩ : ∃ L0, hdr magic opc n2 n1 dt f6 N opq cas = L0 := ⟨_, rfl⟩
    have hl0 : L0.length = 24 := by rw [← hL0]; exact hdr_length _ _ _ _ _ _ _ _ _
    rw [hL0] at hbuf4
    have HLE := hide hL0
    have HL0 := hide hl0
    have HBUF4 := hide hbuf4
    have HST4 := hide hst4
    have HFR4 := hide (HFR3.out.trans hfr4)
    have HC1 := hide (HB1.out.fr hfr4)
    have HC2 := hide (HB2.out.fr hfr4)
    have HC3 := hide (HB3.out.fr hfr4)
    clear hst4 hfr4 hbuf4 hrow4 hgr4 hl0 hL0 HB1 HB2 HB3 HST3 HFR3 HFR2
    obtain ⟨m1, hm1⟩ : ∃ m1, 24 + n1 = m1 := ⟨_, rfl⟩
    obtain ⟨m2, hm2⟩ : ∃ m2, m1 + n2 = m2 := ⟨_, rfl⟩
    obtain ⟨m3, hm3⟩ : ∃ m3, m2 + n3 = m3 := ⟨_, rfl⟩
    have HM1 := hide hm1
    have HM2 := hide hm2
    have HM3 := hide hm3
    have hms : m3 ≤ S := by have := HN.out; omega
    have hms2 : m2 ≤ m3 := by omega
    clear hm1 hm2 hm3
    go_wp2_with (at_builtin; refine wpList_append_fit rfl _ _ rfl gb 24 S L0 rfl HL0.out HBUF4.out a1 n1 c1 s1 rfl HC1.out.p.len (fun e => ⟨HC1.out.p.nil e, HC1.out.nilc e⟩) HC1.out.p.src ?cr m1 HM1.out ?_)
    case cr => have := HM1.out; have := HM2.out; omega
    intro W5 hbuf hgr
    obtain ⟨cur5, hr, hcz⟩ := hbuf.rowOf
    obtain ⟨hst, hfr⟩ := HST4.out.rowed hgr cur5 hr hcz
    have HST5 := hide hst
    have HFR5 := hide (HFR4.out.trans hfr)
    have HBUF5 := hide hbuf
    have HD2 := hide (HC2.out.fr hfr)
    have HD3 := hide (HC3.out.fr hfr)
    have HL1 : Hid ((L0 ++ s1).length = m1) := by show _ = _; rw [List.length_append, HL0.out, HC1.out.p.len]; exact HM1.out
    clear hbuf hgr hr hcz hst hfr
    go_wp2_with (at_builtin; refine wpList_append_fit rfl _ _ rfl gb m1 S (L0 ++ s1) rfl HL1.out HBUF5.out a2 n2 c2 s2 rfl HD2.out.p.len (fun e => ⟨HD2.out.p.nil e, HD2.out.nilc e⟩) HD2.out.p.src ?cr2 m2 HM2.out ?_)
    case cr2 => have := HM2.out; omega
    intro W6 hbuf0 hgr
    have hbuf : Buf W6 (.slice (some ⟨gb, 0, none⟩) m2 S) (L0 ++ s1 ++ s2) := by rw [List.append_assoc]; simpa using hbuf0
    clear hbuf0
    obtain ⟨cur6, hr, hcz⟩ := hbuf.rowOf
    obtain ⟨hst, hfr⟩ := HST5.out.rowed hgr cur6 hr hcz
    have HST6 := hide hst
    have HFR6 := hide (HFR5.out.trans hfr)
    have HBUF6 := hide hbuf
    have HE3 := hide (HD3.out.fr hfr)
    have HL2 : Hid ((L0 ++ s1 ++ s2).length = m2) := by show _ = _; rw [List.length_append, HL1.out, HD2.out.p.len]; exact HM2.out
    clear hbuf hgr hr hcz hst hfr
    go_wp2_with (at_builtin; refine wpList_append_fit rfl _ _ rfl gb m2 S (L0 ++ s1 ++ s2) rfl HL2.out HBUF6.out a3 n3 c3 s3 rfl HE3.out.p.len (fun e => ⟨HE3.out.p.nil e, HE3.out.nilc e⟩) HE3.out.p.src ?cr3 m3 HM3.out ?_)
    case cr3 => have := HM3.out; omega
    intro W7 hbuf0 hgr
    have hbuf : Buf W7 (.slice (some ⟨gb, 0, none⟩) m3 S) (L0 ++ s1 ++ s2 ++ s3) := by simpa using hbuf0
    clear hbuf0
    obtain ⟨cur7, hr, hcz⟩ := hbuf.rowOf
    obtain ⟨hst, hfr⟩ := HST6.out.rowed hgr cur7 hr hcz
    have HST7 := hide hst
    have HFR7 := hide (HFR6.out.trans hfr)
    have HL3 : Hid ((L0 ++ s1 ++ s2 ++ s3).length = m3) := by show _ = _; rw [List.length_append, HL2.out, HE3.out.p.len]; exact HM3.out
    have HSRC := hide hbuf.srcA
    clear hbuf hgr hr hcz hst hfr
    go_wp2_with fail
    refine (f46_fits b wb gb S v [] (L0 ++ s1 ++ s2 ++ s3) W7 ⟨gb, 0, none⟩ m3 S HST7.out HL3.out hms HSRC.out).mono ?_
    rintro e W8 ⟨rfl, hst8, hfr8⟩
    have HST8 := hide hst8
    have HFR8 := hide hfr8
    clear hst8 hfr8
    go_wp2
    go_ret
    exact ⟨rfl, v, [], _, HST8.out, HFR7.out.trans HFR8.out, by rw [HLE.out]; rfl⟩
  · go_wp2_with fail
    obtain ⟨Z, hZ⟩ : ∃ Z : Array Value, #[.int .u8 0, .int .u8 0, .int .u8 0, .int .u8 0, .int .u8 0, .int .u8 0, .int .u8 0, .int .u8 0, .int .u8 0, .int .u8 0, .int .u8 0, .int .u8 0, .int .u8 0, .int .u8 0, .int .u8 0, .int .u8 0, .int .u8 0, .int .u8 0, .int .u8 0, .int .u8 0, .int .u8 0, .int .u8 0, .int .u8 0, .int .u8 0] = Z := ⟨_, rfl⟩
    have hZs : Z.size = 24 := by rw [← hZ]; rfl
    rw [hZ]
    obtain ⟨W3, hW3⟩ : ∃ W3, W2.alloc (.cells Z 95) = W3 := ⟨_, rfl⟩
    rw [hW3]
    have hgr3 : W2.grownBy W3 none := hW3 ▸ World.grownBy_alloc _ _ _
    have hrow3 : W3.heap[W2.heap.size]? = some (.cells Z 95 (0, 0)) := by rw [← hW3]; unfold World.alloc; exact Array.getElem?_push_size
    obtain ⟨hst3, hfr3⟩ := HST2.out.grown hgr3
    obtain ⟨n4, n5, n6, n7, l4, l5, l6⟩ := HST2.out.ne1
    have hhl : hd < W2.heap.size := (Array.getElem?_eq_some_iff.1 HH2.out.bk).1
    have hq3 : Safe b wb gb v W3 W2.heap.size := ⟨by rw [← hW3, World.size_alloc]; omega, by omega, by omega, by omega, fun e => by have := HST2.out.buf.own.lt _ e.symm; omega⟩
    obtain ⟨hk, hhk⟩ : ∃ hk, W2.heap.size = hk := ⟨_, rfl⟩
    rw [hhk] at hrow3 hq3 hhl ⊢
    have hH3 : Hd hd magic opc n2 n1 dt f6 N opq cas W3 := HH2.out.grown (g := hk) ⟨hgr3.os, hgr3.tape, hgr3.output, hgr3.size, fun k hk _ => hgr3.block k hk (by simp)⟩ (by omega)
    have h45 := f45_to hd hk 0 24 24 95 Z magic opc n2 n1 dt f6 N opq cas W3 hH3 (by omega) hrow3 (by omega) (by omega) (by omega) r1 r2 (by omega) (by omega) r5 r6 (by omega) r8 r9
    have HF3 := hide hfr3
    have HST3 := hide hst3
    have HQ3 := hide hq3
    have HHK := hide hhk
    clear hgr3 hst3 hfr3 hH3 hrow3 hW3 HST2 HH2 hq3 hhk hZ n4 n5 n6 n7 l4 l5 l6 hhl
    refine h45.mono ?_
    rintro e W4 ⟨rfl, hrow4, hgr4⟩
    clear h45
    obtain ⟨hst4, -⟩ := HST3.out.apartFrom hgr4 HQ3.out
    have hfr4 : WFr b wb gb v W2 W4 v := HF3.out.past hgr4 (by rw [HHK.out]; exact Nat.le_refl _)
    have hq4 : Safe b wb gb v W4 hk := ⟨Nat.lt_of_lt_of_le HQ3.out.lt hgr4.size, HQ3.out.b, HQ3.out.wb, HQ3.out.gb, HQ3.out.v⟩
    have hsrc4 : SrcA W4 ⟨hk, 0, none⟩ (hdr magic opc n2 n1 dt f6 N opq cas) := by
      refine ⟨fun j hj => ?_⟩
      have htk := putAt_take Z 0 (Lib.byteCells (hdr magic opc n2 n1 dt f6 N opq cas)) (by rw [Lib.byteCells_length, hdr_length, hZs]; omega)
      rw [Addr.add_lit, Nat.zero_add, cellRow hrow4, ← Array.getElem?_toList]
      have e2 := congrArg (fun (x : List Value) => x[j]?) htk
      simp only [List.getElem?_take, Lib.byteCells_length, Nat.zero_add, List.take_zero, List.nil_append] at e2
      rw [if_pos hj] at e2
      rw [e2]
      simp [Lib.byteCells, List.getD, hj]
    have hp4 : PSrc b wb gb v W4 (some ⟨hk, 0, none⟩) 24 24 (hdr magic opc n2 n1 dt f6 N opq cas) := ⟨hdr_length _ _ _ _ _ _ _ _ _, Nat.le_refl _, by simp, fun ad e => by cases e; exact hsrc4, fun ad e _ => by cases e; exact hq4⟩
    have HP4 := hide hp4
    have HST4 := hide hst4
    have HFR4 := hide (HFR2.out.trans hfr4)
    have HC1 := hide (HA1.out.fr hfr4)
    have HC2 := hide (HA2.out.fr hfr4)
    have HC3 := hide (HA3.out.fr hfr4)
    clear hst4 hfr4 hq4 hsrc4 hp4 hrow4 hgr4 HA1 HA2 HA3 HST3 HF3 HQ3
    go_wp2_with fail
    refine (f46_to b wb gb S v [] [] _ W4 _ 24 24 HST4.out HP4.out (by simp)).mono ?_
    rintro e W5 ⟨rfl, v5, l5, m5, hst5, hfr5, hs5⟩
    have HST5 := hide hst5
    have HFR5 := hide (HFR4.out.trans hfr5)
    have HD1 := hide (HC1.out.fr hfr5)
    have HD2 := hide (HC2.out.fr hfr5)
    have HD3 := hide (HC3.out.fr hfr5)
    have HE5 := hide hs5
    have hl5 : l5.length + m5.length = 24 := by have := congrArg List.length hs5; simpa [hdr_length] using this
    have HL5 := hide hl5
    clear hst5 hfr5 hs5 hl5 HC1 HC2 HC3 HST4 HFR4 HP4
    go_wp2_with fail
    refine (f46_to b wb gb S v5 l5 m5 s1 W5 a1 n1 c1 HST5.out HD1.out.p (by have := HL5.out; omega)).mono ?_
    rintro e W6 ⟨rfl, v6, l6, m6, hst6, hfr6, hs6⟩
    have HST6 := hide hst6
    have HFR6 := hide (HFR5.out.trans hfr6)
    have HE1 := hide (HD2.out.fr hfr6)
    have HE2 := hide (HD3.out.fr hfr6)
    have HE6 := hide hs6
    have hl6 : l6.length + m6.length = 24 + n1 := by have := congrArg List.length hs6; simp only [List.length_append] at this; have h1 := HL5.out; have h2 := HD1.out.p.len; omega
    have HL6 := hide hl6
    clear hst6 hfr6 hs6 hl6 HD2 HD3 HST5 HFR5
    go_wp2_with fail
    refine (f46_to b wb gb S v6 l6 m6 s2 W6 a2 n2 c2 HST6.out HE1.out.p (by have := HL6.out; omega)).mono ?_
    rintro e W7 ⟨rfl, v7, l7, m7, hst7, hfr7, hs7⟩
    have HST7 := hide hst7
    have HFR7 := hide (HFR6.out.trans hfr7)
    have HF3 := hide (HE2.out.fr hfr7)
    have HE7 := hide hs7
    have hl7 : l7.length + m7.length = 24 + n1 + n2 := by have := congrArg List.length hs7; simp only [List.length_append] at this; have h1 := HL6.out; have h2 := HE1.out.p.len; omega
    have HL7 := hide hl7
    clear hst7 hfr7 hs7 hl7 HE2 HST6 HFR6
    go_wp2_with fail
    refine (f46_to b wb gb S v7 l7 m7 s3 W7 a3 n3 c3 HST7.out HF3.out.p (by have := HL7.out; omega)).mono ?_
    rintro e W8 ⟨rfl, v8, l8, m8, hst8, hfr8, hs8⟩
    have HST8 := hide hst8
    have HFR8 := hide (HFR7.out.trans hfr8)
    have HE8 := hide hs8
    clear hst8 hfr8 hs8
    go_wp2
    go_ret
    refine ⟨rfl, v8, l8, m8, HST8.out, HFR8.out, ?_⟩
    rw [HE8.out, HE7.out, HE6.out, HE5.out]
    simp
end Go.Proofs.Qxb6615679aFmt

import Derived.Test.Qxb6614913aWalkE
namespace Go.Proofs.Qxb6614913a
open Go.RowKit
set_option linter.unusedVariables false
set_option linter.unusedSimpArgs false

set_option maxHeartbeats 1000000 in
theorem f19_to (v : Value) (l : List UInt8) (B : Nat) (E : EntD) (da : Option Addr) (dn dc : Nat) (co fo so : Option Addr) (w : World) (r : List UInt8) (hv : Buf w v l) (hab : Above B v) (hBw : B ≤ w.heap.size) (hE : EntAt B w E da dn dc co fo so) (ok : E.ok) (hlim : l.length + 40000000 ≤ 1099511627776) (hr : l ++ encE E = r) :
    Calls Try.prog 19 #[v, .agg #[.string E.frm, .int .u64 E.seq, .slice da dn dc, .pointer co, .pointer fo, .pointer so, .bool E.spread, .bool E.ref]] w fun e w' => ∃ v', e = .returned v' ∧ Buf w' v' r ∧ Fr w v w' v' := by
  obtain ⟨r1, hr1⟩ : ∃ r1 : List UInt8, l ++ encB E.frm.data.toList = r1 := ⟨_, rfl⟩
  have hl1 : r1.length ≤ l.length + 1100000 := by rw [← hr1, List.length_append]; have := encB_len E.frm.data.toList ok.f; have e : E.frm.data.toList.length = E.frm.size := rfl; have := ok.f; omega
  have h20 := f20_str v l E.frm (w.alloc (.cells #[.string E.frm, .int .u64 E.seq, .slice da dn dc, .pointer co, .pointer fo, .pointer so, .bool E.spread, .bool E.ref] 41)) r1 (hv.alloc _) ok.f (by omega) hr1
  simp only [World.size_alloc] at h20
  have HR : Hid (r1 ++ encC E = r) := by show _ = _; rw [← hr1, ← hr]; simp [encE]
  have HE : Hid (EntAt B w E da dn dc co fo so) := hE
  have HOK : Hid E.ok := ok
  have hcv := conv_bytes
  clear hr hr1 hE ok
  go_enter Try.func19, Try.ntmps19
  go_wp2_with fail
  refine h20.mono ?_
  rintro e w1 ⟨v1, rfl, hb1, hf1⟩
  have hbox1 := box_kept hv hf1
  have sm1 : Same B w w1 := (Same.grown (World.grownBy_alloc _ _ _) hBw).trans (Same.fr hf1 hab (by simp; omega))
  have ab1 : Above B v1 := hab.fr hf1 (by simp; omega)
  have bw1 : B ≤ w1.heap.size := by have := hf1.grown.size; simp at this; omega
  clear h20
  go_wp2_with fail
  refine (f21_to v1 r1 B E da dn dc co fo so w1 r hb1 ab1 bw1 (HE.out.same sm1) HOK.out (by omega) HR.out).mono ?_
  rintro e w2 ⟨v2, rfl, hb2, hf2⟩
  go_wp2
  go_ret
  exact ⟨v2, rfl, hb2, Fr.pre (World.grownBy_alloc _ _ _) (hf1.trans hf2)⟩

/-- A BATCH IN MEMORY: entry i at offset o + 8 * i of block g. -/
def BatAt (B : Nat) (w : World) (g o : Nat) (Es : List EntD) : Prop :=
  g < B ∧ ∀ i (h : i < Es.length), ∃ da dn dc co fo so, EntAt B w Es[i] da dn dc co fo so ∧
    ∀ j, j < 8 → w.cell? ⟨g, o + i * 8 + j, none⟩ = #[.string Es[i].frm, .int .u64 Es[i].seq, .slice da dn dc, .pointer co, .pointer fo, .pointer so, .bool Es[i].spread, .bool Es[i].ref][j]?
theorem BatAt.same {B : Nat} {w w' : World} {g o : Nat} {Es : List EntD} (h : BatAt B w g o Es) (hs : Same B w w') : BatAt B w' g o Es := by
  refine ⟨h.1, fun i hi => ?_⟩
  obtain ⟨da, dn, dc, co, fo, so, he, hc⟩ := h.2 i hi
  exact ⟨da, dn, dc, co, fo, so, he.same hs, fun j hj => (hs.cell (by exact h.1)).trans (hc j hj)⟩

/-- The entries one behind the other. -/
def encL (Es : List EntD) : List UInt8 := Es.flatMap encE
theorem encL_snoc (Es : List EntD) (k : Nat) (h : k < Es.length) : encL (Es.take (k + 1)) = encL (Es.take k) ++ encE Es[k] := by
  unfold encL
  rw [List.take_succ_eq_append_getElem h, List.flatMap_append]
  simp
theorem encL_mono (Es : List EntD) (k : Nat) : (encL (Es.take k)).length ≤ (encL Es).length := by
  have e : encL Es = encL (Es.take k) ++ encL (Es.drop k) := by
    unfold encL; rw [← List.flatMap_append, List.take_append_drop]
  rw [e, List.length_append]; omega

set_option maxHeartbeats 1000000 in
theorem f17_some (v : Value) (l : List UInt8) (B g o n c : Nat) (Es : List EntD) (w : World) (r : List UInt8) (hn : Es.length = n) (hv : Buf w v l) (hab : Above B v) (hBw : B ≤ w.heap.size) (hE : BatAt B w g o Es) (ok : ∀ E ∈ Es, E.ok) (hs : n ≤ 1048576) (hlim : l.length + (encL Es).length + 50000000 ≤ 1099511627776) (hr : l ++ uv n ++ encL Es = r) :
    Calls Try.prog 17 #[v, .slice (some ⟨g, o, none⟩) n c] w fun e w' => ∃ v', e = .returned v' ∧ Buf w' v' r ∧ Fr w v w' v' := by
  obtain ⟨r1, hr1⟩ : ∃ r1 : List UInt8, l ++ uv n = r1 := ⟨_, rfl⟩
  have h16 := f16_to v l (n : Int) w r1 (by omega) (by omega) hv (by omega) hr1
  have hl1 : r1.length ≤ l.length + 10 := by rw [← hr1, List.length_append]; have := uv_len (n : Int) (by omega); omega
  have HR : Hid (r1 ++ encL Es = r) := by show _ = _; rw [← hr1, ← hr]
  have HE : Hid (BatAt B w g o Es) := hE
  have HOK : Hid (∀ E ∈ Es, E.ok) := ok
  have HN : Hid (Es.length = n) := hn
  clear hr hr1 hE ok hn
  go_enter Try.func17, Try.ntmps17
  go_wp2_with (go_at_call 16; refine h16.mono ?_; rintro e w1 ⟨v1, rfl, hb1, hf1⟩)
  clear h16
  go_loopw [0, 6, 14] (fun vb s6 s14 wr => ∃ (k : Nat) (q : List UInt8), k ≤ n ∧ s14 = .int .i64 k ∧ Hid (q = r1 ++ encL (Es.take k)) ∧ Buf wr vb q ∧ Fr w v wr vb) (fun _ _ s14 _ => n - (intOf s14).toNat)
  case atStart => exact ⟨0, r1, Nat.zero_le _, rfl, by show _ = _; simp [encL], hb1, hf1⟩
  case round =>
    obtain ⟨k, q, hk, rfl, HQ, hbq, hfq⟩ := hrel
    by_cases hkn : k < n
    · have hkl : k < Es.length := by rw [HN.out]; exact hkn
      have smr : Same B w wr := Same.fr hfq hab hBw
      have abr : Above B u0 := hab.fr hfq hBw
      have bwr : B ≤ wr.heap.size := Nat.le_trans hBw hfq.grown.size
      obtain ⟨da, dn, dc, co, fo, so, he, hc⟩ := (HE.out.same smr).2 k hkl
      have HEk : Hid (EntAt B wr Es[k] da dn dc co fo so) := he
      have HOKk : Hid Es[k].ok := HOK.out _ (List.getElem_mem hkl)
      have hql : q.length ≤ l.length + 10 + (encL Es).length := by
        rw [HQ.out, List.length_append]
        have := encL_mono Es k
        omega
      obtain ⟨E, hEk⟩ : ∃ E, Es[k] = E := ⟨_, rfl⟩
      rw [hEk] at HEk HOKk hc
      have HEQ : Hid (Es[k] = E) := hEk
      clear hEk he
      have c0 : wr.cell? ⟨g, o + k * 8, none⟩ = some (.string E.frm) := by simpa using hc 0 (by omega)
      have c1 : wr.cell? ⟨g, o + k * 8 + 1, none⟩ = some (.int .u64 E.seq) := by simpa using hc 1 (by omega)
      have c2 : wr.cell? ⟨g, o + k * 8 + 2, none⟩ = some (.slice da dn dc) := by simpa using hc 2 (by omega)
      have c3 : wr.cell? ⟨g, o + k * 8 + 3, none⟩ = some (.pointer co) := by simpa using hc 3 (by omega)
      have c4 : wr.cell? ⟨g, o + k * 8 + 4, none⟩ = some (.pointer fo) := by simpa using hc 4 (by omega)
      have c5 : wr.cell? ⟨g, o + k * 8 + 5, none⟩ = some (.pointer so) := by simpa using hc 5 (by omega)
      have c6 : wr.cell? ⟨g, o + k * 8 + 6, none⟩ = some (.bool E.spread) := by simpa using hc 6 (by omega)
      have c7 : wr.cell? ⟨g, o + k * 8 + 7, none⟩ = some (.bool E.ref) := by simpa using hc 7 (by omega)
      clear hc
      obtain ⟨q2, hq2⟩ : ∃ q2 : List UInt8, q ++ encE E = q2 := ⟨_, rfl⟩
      have HQ2 : Hid (q ++ encE E = q2) := hq2
      clear hq2
      go_wp2_with fail
      refine (f19_to u0 q B E da dn dc co fo so _ q2 (hbq.alloc _) abr (by simp; omega) (HEk.out.same (Same.grown (World.grownBy_alloc _ _ _) bwr)) HOKk.out (by omega) HQ2.out).mono ?_
      rintro e w2 ⟨v2, rfl, hb2, hf2⟩
      have hf3 := hfq.trans (Fr.pre (World.grownBy_alloc _ _ _) hf2)
      clear c0 c1 c2 c3 c4 c5 c6 c7 hf2
      go_wp2
      go_roundw
      case rel =>
        refine ⟨k + 1, q2, by omega, by go_num, ?_, hb2, hf3⟩
        show _ = _
        rw [← HQ2.out, HQ.out, encL_snoc Es k hkl, HEQ.out, List.append_assoc]
      case measure => simp [intOf]; omega
    · obtain rfl : k = n := by omega
      go_wp2
      go_ret
      have e : q = r := by rw [HQ.out, ← HR.out, List.take_of_length_le (by rw [HN.out]; exact Nat.le_refl _)]
      rw [← e]
      exact ⟨_, rfl, hbq, hfq⟩

/-- A PROPOSAL's BODY. -/
def body (l : List UInt8) (view n inst : Int) (Es : List EntD) : List UInt8 := l ++ [3] ++ uv view ++ uv n ++ uv inst ++ uv Es.length ++ encL Es

set_option maxHeartbeats 1000000 in
theorem f13_to (v : Value) (l : List UInt8) (B g o m c : Nat) (view n inst : Int) (Es : List EntD) (w : World) (r : List UInt8) (hm : Es.length = m) (hv : Buf w v l) (hab : Above B v) (hBw : B ≤ w.heap.size) (hE : BatAt B w g o Es) (ok : ∀ E ∈ Es, E.ok) (hs : m ≤ 1048576) (hlim : l.length + (encL Es).length + 60000000 ≤ 1099511627776)
    (a0 : 0 ≤ view) (a1 : view < 18446744073709551616) (b0 : 0 ≤ n) (b1 : n < 18446744073709551616) (c0 : 0 ≤ inst) (c1 : inst < 18446744073709551616) (hr : body l view n inst Es = r) :
    Calls Try.prog 13 #[.agg #[.int .u64 view, .int .u64 n, .int .u64 inst, .slice (some ⟨g, o, none⟩) m c], v] w fun e w' => ∃ v', e = .returned v' ∧ Buf w' v' r ∧ Fr w v w' v' := by
  obtain ⟨sb, hsb⟩ : ∃ sb : List UInt8, sb = [3] := ⟨_, rfl⟩
  obtain ⟨r1, hr1⟩ : ∃ r1 : List UInt8, l ++ sb = r1 := ⟨_, rfl⟩
  obtain ⟨r2, hr2⟩ : ∃ r2 : List UInt8, r1 ++ uv view ++ uv n = r2 := ⟨_, rfl⟩
  obtain ⟨r3, hr3⟩ : ∃ r3 : List UInt8, r2 ++ uv inst = r3 := ⟨_, rfl⟩
  have hls : sb.length = 1 := by rw [hsb]; rfl
  have hl1 : r1.length ≤ l.length + 1 := by rw [← hr1, List.length_append]; omega
  have hl2 : r2.length ≤ l.length + 21 := by rw [← hr2, List.length_append, List.length_append]; have := uv_len view a1; have := uv_len n b1; omega
  have hl3 : r3.length ≤ l.length + 31 := by rw [← hr3, List.length_append]; have := uv_len inst c1; omega
  have HR : Hid (r3 ++ uv m ++ encL Es = r) := by show _ = _; rw [← hr3, ← hr2, ← hr1, hsb, ← hr, ← hm]; simp [body]
  have HSB : Hid (sb = [3]) := hsb
  have HR1 : Hid (l ++ sb = r1) := hr1
  have HR2 : Hid (r1 ++ uv view ++ uv n = r2) := hr2
  have HR3 : Hid (r2 ++ uv inst = r3) := hr3
  have HE : Hid (BatAt B w g o Es) := hE
  have HOK : Hid (∀ E ∈ Es, E.ok) := ok
  have HM : Hid (Es.length = m) := hm
  have hlb : l.length + sb.length ≤ 1099511627776 := by omega
  clear hr hr1 hr2 hr3 hsb hE ok hm hls
  go_enter Try.func13, Try.ntmps13
  go_wp2_with (at_builtin; refine wpList_append_buf rfl _ _ rfl _ l rfl ((hv.alloc _).alloc _) _ sb rfl ?c1 hlb r1 HR1.out ?_)
  case c1 =>
    have hsrc := src_nat (w.alloc (.cells #[.int .u64 view, .int .u64 n, .int .u64 inst, .slice (some ⟨g, o, none⟩) m c] 47)) v 3 (by omega)
    simp only [World.size_alloc] at hsrc
    rw [HSB.out]
    exact hsrc
  intro v1 w1 hb1 hf1
  have hf1' : Fr (w.alloc (.cells #[.int .u64 view, .int .u64 n, .int .u64 inst, .slice (some ⟨g, o, none⟩) m c] 47)) v w1 v1 := Fr.pre (World.grownBy_alloc _ _ _) hf1
  have hbox1 := box_kept hv hf1'
  have sm1 : Same B w w1 := (Same.grown (World.grownBy_alloc _ _ _) hBw).trans (Same.fr hf1' hab (by simp; omega))
  have ab1 : Above B v1 := hab.fr hf1' (by simp; omega)
  have bw1 : B ≤ w1.heap.size := by have := hf1'.grown.size; simp at this; omega
  clear hf1
  go_wp2_with fail
  refine (f15_to v1 view n r1 w1 r2 hb1 a0 a1 b0 b1 (by omega) HR2.out).mono ?_
  rintro e w2 ⟨v2, rfl, hb2, hf2⟩
  have hbox2 := box_kept hv (hf1'.trans hf2)
  have sm2 : Same B w w2 := sm1.trans (Same.fr hf2 ab1 bw1)
  have ab2 : Above B v2 := ab1.fr hf2 bw1
  have bw2 : B ≤ w2.heap.size := Nat.le_trans bw1 hf2.grown.size
  clear hbox1
  go_wp2_with fail
  refine (f16_to v2 r2 inst w2 r3 c0 c1 hb2 (by omega) HR3.out).mono ?_
  rintro e w3 ⟨v3, rfl, hb3, hf3⟩
  have hbox3 := box_kept hv ((hf1'.trans hf2).trans hf3)
  have sm3 : Same B w w3 := sm2.trans (Same.fr hf3 ab2 bw2)
  have ab3 : Above B v3 := ab2.fr hf3 bw2
  have bw3 : B ≤ w3.heap.size := Nat.le_trans bw2 hf3.grown.size
  clear hbox2
  go_wp2_with fail
  refine (f17_some v3 r3 B g o m c Es w3 r HM.out hb3 ab3 bw3 (HE.out.same sm3) HOK.out hs (by omega) HR.out).mono ?_
  rintro e w4 ⟨v4, rfl, hb4, hf4⟩
  go_wp2
  go_ret
  exact ⟨v4, rfl, hb4, Fr.pre (World.grownBy_alloc _ _ _) (((hf1'.trans hf2).trans hf3).trans hf4)⟩

set_option maxHeartbeats 1000000 in
theorem f8_to (v : Value) (l : List UInt8) (B g o m c : Nat) (view n inst : Int) (Es : List EntD) (w : World) (r : List UInt8) (hm : Es.length = m) (hv : Buf w v l) (hab : Above B v) (hBw : B ≤ w.heap.size) (hE : BatAt B w g o Es) (ok : ∀ E ∈ Es, E.ok) (hs : m ≤ 1048576) (hlim : l.length + (encL Es).length + 60000000 ≤ 1099511627776)
    (a0 : 0 ≤ view) (a1 : view < 18446744073709551616) (b0 : 0 ≤ n) (b1 : n < 18446744073709551616) (c0 : 0 ≤ inst) (c1 : inst < 18446744073709551616) (hr : body l view n inst Es = r) :
    Calls Try.prog 8 #[v, .int .u64 view, .int .u64 n, .int .u64 inst, .slice (some ⟨g, o, none⟩) m c] w fun e w' => ∃ v', e = .returned v' ∧ Buf w' v' r ∧ Fr w v w' v' := by
  have h13 := f13_to v l B g o m c view n inst Es w r hm hv hab hBw hE ok hs hlim a0 a1 b0 b1 c0 c1 hr
  clear hv hab hE ok hr hm
  go_enter Try.func8, Try.ntmps8
  go_wp2_with (go_at_call 13; refine h13.mono ?_; rintro e w1 ⟨v1, rfl, hb1, hf1⟩)
  go_ret
  exact ⟨v1, rfl, hb1, hf1⟩
end Go.Proofs.Qxb6614913a

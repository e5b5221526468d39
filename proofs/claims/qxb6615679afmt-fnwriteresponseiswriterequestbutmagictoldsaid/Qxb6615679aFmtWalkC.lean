import Derived.Test.Qxb6615679aFmtWalkB
namespace Go.Proofs.Qxb6615679aFmt
open Go.RowKit
set_option linter.unusedVariables false
set_option linter.unusedSimpArgs false

/-- A bytes.Buffer that was only written. -/
structure BSt (b : Nat) (v : Value) (l : List UInt8) (w : World) : Prop where
  bk : ∃ lr, w.heap[b]? = some (.cells #[v, .int .i64 0, .int .i8 lr] 65 (0, 0))
  own : Buf w v l
  ne : l = [] → v = .slice none 0 0

/-- The frame of its writers. -/
structure BFr (b : Nat) (v : Value) (w w' : World) (v' : Value) : Prop where
  os : w'.os = w.os
  tape : w'.tape = w.tape
  output : w'.output = w.output
  size : w.heap.size ≤ w'.heap.size
  block : ∀ k, k < w.heap.size → k ≠ b → some k ≠ v.ownBlock → w'.heap[k]? = w.heap[k]?
  blk : v'.ownBlock = v.ownBlock ∨ ∀ k, v'.ownBlock = some k → w.heap.size ≤ k

/-- The bytes of a row with cs put at o. -/
def putAt (cur : Array Value) (o : Nat) (cs : List Value) : Array Value := (cur.toList.take o ++ cs ++ cur.toList.drop (o + cs.length)).toArray
theorem putAt_size (cur : Array Value) (o : Nat) (cs : List Value) (h : o + cs.length ≤ cur.size) : (putAt cur o cs).size = cur.size := by
  have : cur.toList.length = cur.size := Array.length_toList
  simp [putAt]; omega
theorem putAt_take (cur : Array Value) (o : Nat) (cs : List Value) (h : o + cs.length ≤ cur.size) : (putAt cur o cs).toList.take (o + cs.length) = cur.toList.take o ++ cs := by
  have e : cur.toList.length = cur.size := Array.length_toList
  unfold putAt
  rw [List.toList_toArray, List.take_append_of_le_length (by simp; omega), List.take_of_length_le (by simp; omega)]

theorem size5 : (Tryf.prog.info? 5).map (·.size) = some 1 := by kernel_rfl

/-- The row behind the copy. -/
theorem BSt.copied {b g cap : Nat} {l s : List UInt8} {lr : Int} {cur : Array Value} {w2 : World} (hb : w2.heap[b]? = some (.cells #[.slice (some ⟨g, 0, none⟩) (l.length + s.length) cap, .int .i64 0, .int .i8 lr] 65 (0, 0))) (hg : w2.heap[g]? = some (.cells cur 5 (0, 0))) (hcs : cur.size = cap) (hcm : cap ≤ maxLen) (hroom : l.length + s.length ≤ cap)
    (htk : cur.toList.take l.length = Lib.byteCells l) (hs : s ≠ []) : BSt b (.slice (some ⟨g, 0, none⟩) (l.length + s.length) cap) (l ++ s) (w2.setRow g (putAt cur l.length (Lib.byteCells s))) := by
  have hne : b ≠ g := by rintro rfl; rw [hb] at hg; simp at hg
  have hl : (Lib.byteCells s).length = s.length := Lib.byteCells_length s
  refine ⟨⟨lr, (setRow_other _ _ _ _ hne).trans hb⟩, ⟨by simp [Lib.byteCells_length], .inr ⟨g, cap, putAt cur l.length (Lib.byteCells s), by rw [List.length_append], Nat.zero_le _, setRow_heap _ _ _ _ _ _ hg, by rw [List.length_append]; exact hroom, hcm, by rw [putAt_size _ _ _ (by rw [hl]; omega)]; omega, ?_⟩⟩, fun h => absurd (List.append_eq_nil_iff.1 h).2 hs⟩
  have := putAt_take cur l.length (Lib.byteCells s) (by rw [hl]; omega)
  rw [hl] at this
  rw [List.length_append, Nat.mul_one, this, htk, Lib.byteCells_append]

theorem slice25 (g m k cap : Nat) (hk : k ≤ m) (hc : k < cap) (w : World) :
    (Instr.slice 25 (.slice (some ⟨g, 0, none⟩) m cap) (some (.int .i64 k)) none none).run Tryf.prog w = .ok (.slice (some ⟨g, k, none⟩) (m - k) (cap - k)) w := by
  have ht : Tryf.prog.underlying 25 = some (.slice (Tryf.prog.elem 25)) := by kernel_rfl
  have he : Tryf.prog.elem 25 = 5 := by kernel_rfl
  have hz : (sizeOf 5).run Tryf.prog w = .ok 1 w := by simp [sizeOf]; kernel_rfl
  rw [run_slice_l (ht := ht) (h0 := by omega) (h1 := by omega), he, hz]
  simp only [Result.andThen, sliced, Int.toNat_natCast]
  rw [if_neg (by omega)]
  simp [Addr.add]
  omega

/-- What is written: bytes in a block apart. -/
structure SrcA (w : World) (ad : Addr) (s : List UInt8) : Prop where
  cell : ∀ j, j < s.length → w.cell? (ad.add j) = some (.int .u8 (s.getD j 0).toNat)
theorem SrcA.cells {w : World} {ad : Addr} {s : List UInt8} (h : SrcA w ad s) : ∀ j u, (Lib.byteCells s)[j]? = some u → w.cell? (ad.add j) = some u := by
  intro j u hu
  have hj : j < s.length := by
    have := (List.getElem?_eq_some_iff.1 hu).1
    rwa [Lib.byteCells_length] at this
  rw [h.cell j hj, ← hu]
  simp [Lib.byteCells, List.getD, hj]
theorem addBlock (a : Addr) (j : Nat) : (a.add j).block = a.block := by unfold Addr.add; split <;> rfl
theorem SrcA.same {w w' : World} {ad : Addr} {s : List UInt8} (h : SrcA w ad s) (hb : w'.heap[ad.block]? = w.heap[ad.block]?) : SrcA w' ad s :=
  ⟨fun j hj => (World.cell?_of_block (by rw [addBlock]; exact hb)).trans (h.cell j hj)⟩
theorem copy25 (w : World) (g o dLen dCap : Nat) (ad : Addr) (n c : Nat) (s : List UInt8) (cur : Array Value) (hg : w.heap[g]? = some (.cells cur 5 (0, 0))) (hs : s.length = n) (hn : n ≤ dLen) (hsrc : SrcA w ad s) (hfit : o + n ≤ cur.size) (ty : TypeId) :
    (Builtin.copy_ #[25, 25] ty #[.slice (some ⟨g, o, none⟩) dLen dCap, .slice (some ad) n c]).run Tryf.prog w = .ok (.int .i64 n) (w.setRow g (putAt cur o (Lib.byteCells s))) := by
  have hl : (Lib.byteCells s).length = n := by rw [Lib.byteCells_length, hs]
  have h := run_copy_row (P := Tryf.prog) w 25 25 ty 5 g o dLen dCap ad n c cur 5 (Lib.byteCells s) Tryf.underlying25 size5 hg (by rw [hl]; exact (Nat.min_eq_left hn).symm) hsrc.cells (by rw [hl]; exact hfit) (oneCell_bytes s)
  rw [h, hl]
  unfold putAt
  rw [hl]
  rfl

set_option maxHeartbeats 4000000 in
set_option maxRecDepth 100000 in
theorem f84_room (b g m cap n c : Nat) (ad : Addr) (lr : Int) (l s : List UInt8) (cur : Array Value) (w : World) (hbk : w.heap[b]? = some (.cells #[.slice (some ⟨g, 0, none⟩) m cap, .int .i64 0, .int .i8 lr] 65 (0, 0))) (hm : l.length = m) (hs : s.length = n) (hn : 1 ≤ n)
    (hg : w.heap[g]? = some (.cells cur 5 (0, 0))) (hcs : cur.size = cap) (hcm : cap ≤ maxLen) (htk : cur.toList.take m = Lib.byteCells l) (hroom : m + n ≤ cap) (hlim : m + n ≤ 1099511627776) (hsrc : SrcA w ad s) (hab : ad.block ≠ b) :
    Calls Tryf.prog 84 #[.pointer (some ⟨b, 0, none⟩), .slice (some ad) n c] w fun e w' => e = .returned (.tuple #[.int .i64 n, .nilIface]) ∧ ∃ v', BSt b v' (l ++ s) w' ∧ BFr b (.slice (some ⟨g, 0, none⟩) m cap) w w' v' := by
  have hne : g ≠ b := by rintro rfl; rw [hbk] at hg; simp at hg
  have c2 : w.cell? ⟨b, 2, none⟩ = some (.int .i8 lr) := cellRow hbk 2
  have f2 : w.frozen? ⟨b, 2, none⟩ = false := frozen_of_row _ _ _ _ _ hbk
  obtain ⟨w1, hw1⟩ : ∃ w1, w.setCell ⟨b, 2, none⟩ (.int .i8 0) = w1 := ⟨_, rfl⟩
  have hb1 : w1.heap[b]? = some (.cells #[.slice (some ⟨g, 0, none⟩) m cap, .int .i64 0, .int .i8 0] 65 (0, 0)) := by rw [← hw1]; exact rowSet hbk _
  obtain ⟨w2, hw2⟩ : ∃ w2, w1.setCell ⟨b, 0, none⟩ (.slice (some ⟨g, 0, none⟩) (m + n) cap) = w2 := ⟨_, rfl⟩
  have hb2 : w2.heap[b]? = some (.cells #[.slice (some ⟨g, 0, none⟩) (m + n) cap, .int .i64 0, .int .i8 0] 65 (0, 0)) := by rw [← hw2]; exact rowSet hb1 _
  have hoth : ∀ k, k ≠ b → w2.heap[k]? = w.heap[k]? := fun k hk => by rw [← hw2, ← hw1, Below.heap_setCell _ _ _ _ hk, Below.heap_setCell _ _ _ _ hk]
  have hg2 : w2.heap[g]? = some (.cells cur 5 (0, 0)) := (hoth g hne).trans hg
  have hcp := copy25 w2 g m n (cap - m) ad n c s cur hg2 hs (Nat.le_refl _) (hsrc.same (hoth _ hab)) (by omega)
  have hsl := slice25 g (m + n) m cap (by omega) (by omega)
  rw [show m + n - m = n by omega] at hsl
  have h86 := Tryf.Buffer_tryGrow_room b (some ⟨g, 0, none⟩) m cap n w1 (cellRow hb1 0) (frozen_of_row _ _ _ _ _ hb1) (by omega) hcm (by omega)
  rw [hw2] at h86
  have e0 : w2.cell? ⟨b, 0, none⟩ = some (.slice (some ⟨g, 0, none⟩) (m + n) cap) := cellRow hb2 0
  have hgo : BSt b (.slice (some ⟨g, 0, none⟩) (m + n) cap) (l ++ s) (w2.setRow g (putAt cur m (Lib.byteCells s))) := by
    subst hm hs
    exact BSt.copied hb2 hg2 hcs hcm hroom htk (by rintro rfl; simp at hn)
  have HGO := hide hgo
  have hsz : w2.heap.size = w.heap.size := by rw [← hw2, ← hw1]; simp
  have hfr : BFr b (.slice (some ⟨g, 0, none⟩) m cap) w (w2.setRow g (putAt cur m (Lib.byteCells s))) (.slice (some ⟨g, 0, none⟩) (m + n) cap) :=
    ⟨by rw [setRow_os, ← hw2, ← hw1]; rfl, by rw [setRow_tape, ← hw2, ← hw1]; rfl, by rw [setRow_output, ← hw2, ← hw1]; rfl, by rw [setRow_size, hsz]; exact Nat.le_refl _, fun k hk h1 h2 => by
      rw [setRow_other _ _ _ _ (fun e => h2 (by rw [e]; rfl))]; exact hoth k h1, .inl rfl⟩
  have HFR := hide hfr
  clear hgo hfr hg2 hb1 hb2 hoth hg hbk htk hsrc hcs hw2 hsz hm hs
  go_enter Tryf.func84, Tryf.ntmps84
  go_wp2_with fail
  refine h86.mono ?_
  rintro e w' ⟨rfl, hw'⟩
  obtain rfl : w2 = w' := hw'.symm
  clear h86
  go_wp2
  go_ret2
  exact ⟨rfl, _, HGO.out, HFR.out⟩

set_option maxHeartbeats 4000000 in
set_option maxRecDepth 100000 in
theorem f84_grow (b m n c : Nat) (ad : Addr) (ao : Option Addr) (cap : Nat) (lr : Int) (l s : List UInt8) (w : World) (hbk : w.heap[b]? = some (.cells #[.slice ao m cap, .int .i64 0, .int .i8 lr] 65 (0, 0))) (hm : l.length = m) (hs : s.length = n) (hn : 1 ≤ n) (hmc : m ≤ cap) (hcm : cap ≤ maxLen) (hno : cap - m < n) (hlim : m + n ≤ 1099511627776)
    (h87 : ∀ w1, w1.heap[b]? = some (.cells #[.slice ao m cap, .int .i64 0, .int .i8 0] 65 (0, 0)) → (∀ k, k ≠ b → w1.heap[k]? = w.heap[k]?) → Calls Tryf.prog 87 #[.pointer (some ⟨b, 0, none⟩), .int .i64 n] w1 fun e w' => e = .returned (.int .i64 m) ∧ Grew b n l 0 w1 w')
    (hsrc : SrcA w ad s) (hab : ad.block ≠ b) (hal : ad.block < w.heap.size) :
    Calls Tryf.prog 84 #[.pointer (some ⟨b, 0, none⟩), .slice (some ad) n c] w fun e w' => e = .returned (.tuple #[.int .i64 n, .nilIface]) ∧ ∃ v', BSt b v' (l ++ s) w' ∧ BFr b (.slice ao m cap) w w' v' := by
  have c2 : w.cell? ⟨b, 2, none⟩ = some (.int .i8 lr) := cellRow hbk 2
  have f2 : w.frozen? ⟨b, 2, none⟩ = false := frozen_of_row _ _ _ _ _ hbk
  obtain ⟨w1, hw1⟩ : ∃ w1, w.setCell ⟨b, 2, none⟩ (.int .i8 0) = w1 := ⟨_, rfl⟩
  have hb1 : w1.heap[b]? = some (.cells #[.slice ao m cap, .int .i64 0, .int .i8 0] 65 (0, 0)) := by rw [← hw1]; exact rowSet hbk _
  have hoth : ∀ k, k ≠ b → w1.heap[k]? = w.heap[k]? := fun k hk => by rw [← hw1, Below.heap_setCell _ _ _ _ hk]
  have hsz1 : w1.heap.size = w.heap.size := by rw [← hw1]; simp
  have hfix : w1.os = w.os ∧ w1.tape = w.tape ∧ w1.output = w.output := by rw [← hw1]; exact ⟨rfl, rfl, rfl⟩
  have h86 := Tryf.Buffer_tryGrow_none b ao m cap n w1 (cellRow hb1 0) hmc hcm hno
  have h87' := h87 w1 hb1 hoth
  have HO := hide hoth
  have HSZ := hide hsz1
  have HFX := hide hfix
  have HSRC := hide hsrc
  have HM := hide hm
  have HS := hide hs
  clear h87 hb1 hoth hbk hsrc hsz1 hfix hm hs
  go_enter Tryf.func84, Tryf.ntmps84
  go_wp2_with fail
  refine h86.mono ?_
  rintro e w' ⟨rfl, hw'⟩
  obtain rfl : w1 = w' := hw'.symm
  clear h86
  go_wp2_with fail
  refine h87'.mono ?_
  rintro e w2 ⟨rfl, hgrew⟩
  obtain ⟨g, cap2, cur, hg, hb2, hg2, hcs2, hcm2, hroom, htk⟩ := hgrew.row
  have hgr := hgrew.grown
  rw [HM.out] at hroom hb2 htk
  have e0 : w2.cell? ⟨b, 0, none⟩ = some (.slice (some ⟨g, 0, none⟩) (m + n) cap2) := cellRow hb2 0
  have hsl := slice25 g (m + n) m cap2 (by omega) (by omega)
  rw [show m + n - m = n by omega] at hsl
  have hcp := copy25 w2 g m n (cap2 - m) ad n c s cur hg2 HS.out (Nat.le_refl _) (HSRC.out.same ((hgr.block _ (by rw [HSZ.out]; exact hal) (by simp [hab])).trans (HO.out _ hab))) (by omega)
  have hgo : BSt b (.slice (some ⟨g, 0, none⟩) (m + n) cap2) (l ++ s) (w2.setRow g (putAt cur m (Lib.byteCells s))) := by
    have hm := HM.out
    have hs := HS.out
    subst hm hs
    exact BSt.copied hb2 hg2 hcs2 hcm2 hroom htk (by rintro rfl; simp at hn)
  have HGO := hide hgo
  have hfr : BFr b (.slice ao m cap) w (w2.setRow g (putAt cur m (Lib.byteCells s))) (.slice (some ⟨g, 0, none⟩) (m + n) cap2) := by
    have hs1 := HSZ.out
    have hs2 := hgr.size
    refine ⟨by rw [setRow_os, hgr.os, HFX.out.1], by rw [setRow_tape, hgr.tape, HFX.out.2.1], by rw [setRow_output, hgr.output, HFX.out.2.2], by rw [setRow_size]; omega, fun k hk h1 h2 => ?_, .inr fun k hk => ?_⟩
    · rw [setRow_other _ _ _ _ (by omega), hgr.block k (by omega) (by simp [h1]), HO.out k h1]
    · simp [Value.ownBlock] at hk; omega
  have HFR := hide hfr
  clear hgo hfr hg2 hb2 hcs2 htk hgr hgrew h87'
  go_wp2
  go_ret2
  exact ⟨rfl, _, HGO.out, HFR.out⟩
end Go.Proofs.Qxb6615679aFmt

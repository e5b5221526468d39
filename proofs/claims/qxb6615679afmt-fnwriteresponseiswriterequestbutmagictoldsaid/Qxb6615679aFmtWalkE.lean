import Derived.Test.Qxb6615679aFmtWalkD
namespace Go.Proofs.Qxb6615679aFmt
open Go.RowKit
set_option linter.unusedVariables false
set_option linter.unusedSimpArgs false

theorem Wst.src {b wb gb S : Nat} {v : Value} {l m : List UInt8} {w : World} (h : Wst b wb gb S v l m w) : SrcA w ⟨gb, 0, none⟩ m := by
  obtain ⟨cur, hg, hcs, htk⟩ := h.row
  refine ⟨fun j hj => ?_⟩
  rw [Addr.add_lit, Nat.zero_add, cellRow hg, ← Array.getElem?_toList]
  have e : (cur.toList.take m.length)[j]? = (Lib.byteCells m)[j]? := by rw [htk]
  rw [List.getElem?_take, if_pos hj] at e
  rw [e]
  simp [Lib.byteCells, List.getD, hj]
theorem BSt.set {b : Nat} {v : Value} {l : List UInt8} {w : World} (h : BSt b v l w) {k o : Nat} (x : Value) (hk : b ≠ k) (hv : some k ≠ v.ownBlock) : BSt b v l (w.setCell ⟨k, o, none⟩ x) := by
  obtain ⟨lr, hb⟩ := h.bk
  refine ⟨⟨lr, (Below.heap_setCell _ _ _ _ hk).trans hb⟩, ?_, h.ne⟩
  obtain ⟨hl, h0 | ⟨g, cap, cur, rfl, h1, hg, h2⟩⟩ := h.own
  · exact ⟨hl, .inl h0⟩
  · refine ⟨hl, .inr ⟨g, cap, cur, rfl, h1, (Below.heap_setCell _ _ _ _ ?_).trans hg, h2⟩⟩
    intro e
    exact hv (by rw [Value.ownBlock]; simp at e ⊢; exact e.symm)
theorem Wst.flushed {b wb gb S : Nat} {v v' : Value} {l m : List UInt8} {w w1 : World} (h : Wst b wb gb S v l m w) (hb : BSt b v' (l ++ m) w1) (hf : BFr b v w w1 v') :
    Wst b wb gb S v' (l ++ m) [] (w1.setCell ⟨wb, 2, none⟩ (.int .i64 0)) ∧ WFr b wb gb v w (w1.setCell ⟨wb, 2, none⟩ (.int .i64 0)) v' := by
  obtain ⟨n1, n2, n3, n4, l1, l2, l3⟩ := h.ne1
  have hw1 := (hf.block wb l2 n1 n4).trans h.wr
  obtain ⟨cur, hg, hcs, htk⟩ := h.row
  have hg1 := (hf.block gb l3 n2 (fun e => h.apart e.symm)).trans hg
  have nv : some wb ≠ v'.ownBlock := by
    intro e
    rcases hf.blk with e1 | e1
    · exact n4 (e.trans e1)
    · have := e1 wb e.symm; omega
  refine ⟨⟨hb.set _ (Ne.symm n1) nv, rowSet hw1 _, ⟨cur, (Below.heap_setCell _ _ _ _ n3).trans hg1, hcs, rfl⟩, Nat.zero_le _, h.s0, h.s1, ?_⟩, ⟨hf.os, hf.tape, hf.output, by rw [World.size_setCell]; exact hf.size, fun k hk h1 h2 h3 h4 => (Below.heap_setCell _ _ _ _ h2).trans (hf.block k hk h1 h4), hf.blk⟩⟩
  intro e
  rcases hf.blk with e1 | e1
  · exact h.apart (e1.symm.trans e)
  · have := e1 gb e; omega
theorem Wst.kept {b wb gb S : Nat} {v v' : Value} {l m : List UInt8} {w w1 : World} (h : Wst b wb gb S v l m w) (hf : BFr b v w w1 v') : w1.heap[wb]? = w.heap[wb]? := by
  obtain ⟨n1, n2, n3, n4, l1, l2, l3⟩ := h.ne1
  exact hf.block wb l2 n1 n4

set_option maxRecDepth 100000 in
theorem f30_nil (b wb gb S : Nat) (v : Value) (l : List UInt8) (w : World) (h : Wst b wb gb S v l [] w) :
    Calls Tryf.prog 30 #[.pointer (some ⟨wb, 0, none⟩)] w fun e w' => e = .returned .nilIface ∧ w' = w := by
  have c0 : w.cell? ⟨wb, 0, none⟩ = some .nilIface := cellRow h.wr 0
  have c2 : w.cell? ⟨wb, 2, none⟩ = some (.int .i64 0) := cellRow h.wr 2
  clear h
  go_enter Tryf.func30, Tryf.ntmps30
  go_wp2
  go_ret
  exact ⟨rfl, rfl⟩

set_option maxHeartbeats 4000000 in
set_option maxRecDepth 100000 in
theorem f30_some (b wb gb S k : Nat) (v : Value) (l m : List UInt8) (w : World) (h : Wst b wb gb S v l m w) (hk : m.length = k) (h0 : 0 < k) (hlim : l.length + k ≤ 1099511627776) :
    Calls Tryf.prog 30 #[.pointer (some ⟨wb, 0, none⟩)] w fun e w' => e = .returned .nilIface ∧ ∃ v', Wst b wb gb S v' (l ++ m) [] w' ∧ WFr b wb gb v w w' v' := by
  have c0 : w.cell? ⟨wb, 0, none⟩ = some .nilIface := cellRow h.wr 0
  have c1 : w.cell? ⟨wb, 1, none⟩ = some (.slice (some ⟨gb, 0, none⟩) S S) := cellRow h.wr 1
  have c2 : w.cell? ⟨wb, 2, none⟩ = some (.int .i64 k) := hk ▸ cellRow h.wr 2
  have c3 : w.cell? ⟨wb, 3, none⟩ = some (.iface 43 (.pointer (some ⟨b, 0, none⟩))) := cellRow h.wr 3
  have f2 : w.frozen? ⟨wb, 2, none⟩ = false := frozen_of_row _ _ _ _ _ h.wr
  have h1 : k ≤ S := hk ▸ h.mS
  have hk1 : ¬ ((k : Int) = 0) := by omega
  have h2 : S ≤ 65536 := h.s1
  have hk2 : (0 : Int) ≤ (k : Int) := by omega
  have hk3 : (k : Int) ≤ (S : Int) := by omega
  have HK := hide hk
  have HST := hide h
  clear h hk
  go_enter Tryf.func30, Tryf.ntmps30
  go_wp2_with fail
  have HS0 : Hid (w.drew.cell? ⟨wb, 0, none⟩ = some .nilIface ∧ w.drew.cell? ⟨wb, 1, none⟩ = some (.slice (some ⟨gb, 0, none⟩) S S) ∧ w.drew.cell? ⟨wb, 2, none⟩ = some (.int .i64 k) ∧ w.drew.cell? ⟨wb, 3, none⟩ = some (.iface 43 (.pointer (some ⟨b, 0, none⟩)))) := ⟨c0, c1, c2, c3⟩
  have HSD := hide (HST.out.drew 1)
  go_region_held3 (fun w' => w'.cell? ⟨wb, 0, none⟩ = some .nilIface ∧ w'.cell? ⟨wb, 1, none⟩ = some (.slice (some ⟨gb, 0, none⟩) S S) ∧ w'.cell? ⟨wb, 2, none⟩ = some (.int .i64 k) ∧ w'.cell? ⟨wb, 3, none⟩ = some (.iface 43 (.pointer (some ⟨b, 0, none⟩))))
    (with_reducible (first | exact HS0.out | exact HS1.out))
    (first
      | (go_at_call 84; refine (f84_to b k S ⟨gb, 0, none⟩ v l m w.drew HSD.out.buf HK.out (by omega) hlim HSD.out.src HSD.out.ne1.2.1 HSD.out.ne1.2.2.2.2.2.2).mono ?_; rintro e w1 ⟨rfl, v', hb1, hf1⟩; have hkp := HSD.out.kept hf1; have HS1 : Hid (w1.cell? ⟨wb, 0, none⟩ = some .nilIface ∧ w1.cell? ⟨wb, 1, none⟩ = some (.slice (some ⟨gb, 0, none⟩) S S) ∧ w1.cell? ⟨wb, 2, none⟩ = some (.int .i64 k) ∧ w1.cell? ⟨wb, 3, none⟩ = some (.iface 43 (.pointer (some ⟨b, 0, none⟩)))) := ⟨(World.cell?_of_block hkp).trans c0, (World.cell?_of_block hkp).trans c1, (World.cell?_of_block hkp).trans c2, (World.cell?_of_block hkp).trans c3⟩; have HF2 : Hid (w1.frozen? ⟨wb, 2, none⟩ = false) := (World.frozen?_of_block hkp).trans f2; have HFL := hide (HSD.out.flushed hb1 hf1); clear hb1 hf1 hkp))
  have d0 := HS1.out.1
  have d2 := HS1.out.2.2.1
  have g2 : w1.frozen? ⟨wb, 2, none⟩ = false := HF2.out
  clear c0 c1 c2 c3 f2 HS0
  go_wp2
  go_ret
  exact ⟨rfl, v', HFL.out.1, (WFr.drew 1).trans HFL.out.2⟩
theorem f30_to (b wb gb S : Nat) (v : Value) (l m : List UInt8) (w : World) (h : Wst b wb gb S v l m w) (hlim : l.length + m.length ≤ 1099511627776) :
    Calls Tryf.prog 30 #[.pointer (some ⟨wb, 0, none⟩)] w fun e w' => e = .returned .nilIface ∧ ∃ v', Wst b wb gb S v' (l ++ m) [] w' ∧ WFr b wb gb v w w' v' := by
  cases m with
  | nil =>
    refine (f30_nil b wb gb S v l w h).mono fun e w' ⟨he, hw⟩ => ⟨he, v, ?_, ?_⟩
    · rw [hw, List.append_nil]; exact h
    · rw [hw]; exact WFr.refl _ _ _ _ _
  | cons x r => exact f30_some b wb gb S _ v l (x :: r) w h rfl (by simp) hlim
end Go.Proofs.Qxb6615679aFmt

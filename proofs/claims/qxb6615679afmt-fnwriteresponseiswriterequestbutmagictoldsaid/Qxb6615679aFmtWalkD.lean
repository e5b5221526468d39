import Derived.Test.Qxb6615679aFmtWalkC
namespace Go.Proofs.Qxb6615679aFmt
open Go.RowKit
set_option linter.unusedVariables false
set_option linter.unusedSimpArgs false

/-- (*bytes.Buffer).Write, not of nothing. -/
theorem f84_to (b n c : Nat) (ad : Addr) (v : Value) (l s : List UInt8) (w : World) (h : BSt b v l w) (hs : s.length = n) (hn : 1 ≤ n) (hlim : l.length + n ≤ 1099511627776) (hsrc : SrcA w ad s) (hab : ad.block ≠ b) (hal : ad.block < w.heap.size) :
    Calls Tryf.prog 84 #[.pointer (some ⟨b, 0, none⟩), .slice (some ad) n c] w fun e w' => e = .returned (.tuple #[.int .i64 n, .nilIface]) ∧ ∃ v', BSt b v' (l ++ s) w' ∧ BFr b v w w' v' := by
  obtain ⟨lr, hbk⟩ := h.bk
  obtain ⟨hlen, ⟨rfl, h0⟩ | ⟨g, cap, cur, rfl, -, hg, hnc, hcm, hcs, htk⟩⟩ := h.own
  · obtain rfl : l = [] := List.eq_nil_of_length_eq_zero h0
    refine f84_grow b 0 n c ad none 0 lr [] s w hbk rfl hs hn (by omega) (by unfold maxLen; omega) (by omega) (by omega) (fun w1 hb1 _ => ?_) hsrc hab hal
    by_cases h64 : n ≤ 64
    · exact f87_small b n 0 w1 hb1 hn h64
    · exact f87_big b n 0 w1 hb1 (by omega) (by simpa using hlim)
  · rw [Nat.mul_one] at hcs htk
    have hne : l ≠ [] := fun e => by have := h.ne e; cases this
    have h0 : 0 < l.length := List.length_pos_iff.2 hne
    have hgb : g ≠ b := by rintro rfl; rw [hbk] at hg; simp at hg
    by_cases hr : l.length + n ≤ cap
    · exact f84_room b g l.length cap n c ad lr l s cur w hbk rfl hs hn hg hcs hcm htk hr hlim hsrc hab
    · exact f84_grow b l.length n c ad _ cap lr l s w hbk rfl hs hn hnc hcm (by omega) hlim (fun w1 hb1 ho => f87_row b n g l.length cap l 0 cur w1 hb1 rfl ((ho g hgb).trans hg) hcs h0 hnc htk hn (by omega) hlim) hsrc hab hal

/-- A bufio.Writer over a bytes.Buffer: l has reached the buffer, m waits in the row. -/
structure Wst (b wb gb S : Nat) (v : Value) (l m : List UInt8) (w : World) : Prop where
  buf : BSt b v l w
  wr : w.heap[wb]? = some (.cells #[.nilIface, .slice (some ⟨gb, 0, none⟩) S S, .int .i64 m.length, .iface 43 (.pointer (some ⟨b, 0, none⟩))] 91 (0, 0))
  row : ∃ cur, w.heap[gb]? = some (.cells cur 5 (0, 0)) ∧ cur.size = S ∧ cur.toList.take m.length = Lib.byteCells m
  mS : m.length ≤ S
  s0 : 0 < S
  s1 : S ≤ 65536
  apart : v.ownBlock ≠ some gb

/-- The frame of the writer. -/
structure WFr (b wb gb : Nat) (v : Value) (w w' : World) (v' : Value) : Prop where
  os : w'.os = w.os
  tape : w'.tape = w.tape
  output : w'.output = w.output
  size : w.heap.size ≤ w'.heap.size
  block : ∀ k, k < w.heap.size → k ≠ b → k ≠ wb → k ≠ gb → some k ≠ v.ownBlock → w'.heap[k]? = w.heap[k]?
  blk : v'.ownBlock = v.ownBlock ∨ ∀ k, v'.ownBlock = some k → w.heap.size ≤ k
theorem WFr.refl (b wb gb : Nat) (v : Value) (w : World) : WFr b wb gb v w w v := ⟨rfl, rfl, rfl, Nat.le_refl _, fun _ _ _ _ _ _ => rfl, .inl rfl⟩
theorem WFr.trans {b wb gb : Nat} {v v1 v2 : Value} {w w1 w2 : World} (h : WFr b wb gb v w w1 v1) (k : WFr b wb gb v1 w1 w2 v2) : WFr b wb gb v w w2 v2 := by
  refine ⟨k.os.trans h.os, k.tape.trans h.tape, k.output.trans h.output, Nat.le_trans h.size k.size, fun i hi h1 h2 h3 h4 => ?_, ?_⟩
  · rw [k.block i (Nat.lt_of_lt_of_le hi h.size) h1 h2 h3 ?_, h.block i hi h1 h2 h3 h4]
    intro e
    rcases h.blk with hb | hb
    · exact h4 (e.trans hb)
    · have := hb i e.symm; omega
  · rcases k.blk with hb | hb
    · rw [hb]; exact h.blk
    · exact .inr fun j hj => Nat.le_trans h.size (hb j hj)
theorem WFr.drew {b wb gb : Nat} {v : Value} {w : World} (n : Nat) : WFr b wb gb v w (w.drewN n) v := ⟨rfl, rfl, rfl, Nat.le_refl _, fun _ _ _ _ _ _ => rfl, .inl rfl⟩
theorem Wst.drew {b wb gb S : Nat} {v : Value} {l m : List UInt8} {w : World} (h : Wst b wb gb S v l m w) (n : Nat) : Wst b wb gb S v l m (w.drewN n) :=
  ⟨⟨h.buf.bk, h.buf.own.grown (grownBy_drewN w n none), h.buf.ne⟩, h.wr, h.row, h.mS, h.s0, h.s1, h.apart⟩

/-- A block that no writer touches. -/
structure Safe (b wb gb : Nat) (v : Value) (w : World) (k : Nat) : Prop where
  lt : k < w.heap.size
  b : k ≠ b
  wb : k ≠ wb
  gb : k ≠ gb
  v : some k ≠ v.ownBlock
theorem Safe.fr {b wb gb : Nat} {v v' : Value} {w w' : World} {k : Nat} (h : Safe b wb gb v w k) (f : WFr b wb gb v w w' v') : Safe b wb gb v' w' k := by
  refine ⟨Nat.lt_of_lt_of_le h.lt f.size, h.b, h.wb, h.gb, fun e => ?_⟩
  rcases f.blk with hb | hb
  · exact h.v (e.trans hb)
  · have := hb k e.symm; have := h.lt; omega
theorem Safe.same {b wb gb : Nat} {v v' : Value} {w w' : World} {k : Nat} (h : Safe b wb gb v w k) (f : WFr b wb gb v w w' v') : w'.heap[k]? = w.heap[k]? := f.block k h.lt h.b h.wb h.gb h.v

theorem Wst.ne1 {b wb gb S : Nat} {v : Value} {l m : List UInt8} {w : World} (h : Wst b wb gb S v l m w) : wb ≠ b ∧ gb ≠ b ∧ gb ≠ wb ∧ some wb ≠ v.ownBlock ∧ b < w.heap.size ∧ wb < w.heap.size ∧ gb < w.heap.size := by
  obtain ⟨lr, hb⟩ := h.buf.bk
  have hw := h.wr
  obtain ⟨cur, hg, -, -⟩ := h.row
  refine ⟨?_, ?_, ?_, ?_, (Array.getElem?_eq_some_iff.1 hb).1, (Array.getElem?_eq_some_iff.1 hw).1, (Array.getElem?_eq_some_iff.1 hg).1⟩
  · rintro rfl; rw [hb] at hw; simp at hw
  · rintro rfl; rw [hb] at hg; simp at hg
  · rintro rfl; rw [hw] at hg; simp at hg
  · intro e
    obtain ⟨-, ⟨rfl, -⟩ | ⟨g, cap, cur, rfl, -, hg, -⟩⟩ := h.buf.own
    · simp [Value.ownBlock] at e
    · simp [Value.ownBlock] at e
      subst e
      rw [hw] at hg; simp at hg

set_option maxRecDepth 100000 in
/-- Available. -/
theorem f43_to (b wb gb S : Nat) (v : Value) (l m : List UInt8) (w : World) (h : Wst b wb gb S v l m w) :
    Calls Tryf.prog 43 #[.pointer (some ⟨wb, 0, none⟩)] w fun e w' => e = .returned (.int .i64 ((S : Int) - m.length)) ∧ ∃ k, w' = w.drewN k := by
  have c1 : w.cell? ⟨wb, 1, none⟩ = some (.slice (some ⟨gb, 0, none⟩) S S) := cellRow h.wr 1
  have c2 : w.cell? ⟨wb, 2, none⟩ = some (.int .i64 m.length) := cellRow h.wr 2
  have h1 := h.mS
  have h2 := h.s1
  generalize m.length = k at *
  clear h
  go_enter Tryf.func43, Tryf.ntmps43
  go_wp2
  go_quiet (fail)
  go_wp2
  go_ret
  exact ⟨rfl, _, rfl⟩
/-- Buffered. -/
theorem f61_to (b wb gb S : Nat) (v : Value) (l m : List UInt8) (w : World) (h : Wst b wb gb S v l m w) :
    Calls Tryf.prog 61 #[.pointer (some ⟨wb, 0, none⟩)] w fun e w' => e = .returned (.int .i64 m.length) ∧ w' = w := by
  have c2 : w.cell? ⟨wb, 2, none⟩ = some (.int .i64 m.length) := cellRow h.wr 2
  generalize m.length = k at *
  clear h
  go_enter Tryf.func61, Tryf.ntmps61
  go_wp2
  go_ret
  exact ⟨rfl, rfl⟩
end Go.Proofs.Qxb6615679aFmt

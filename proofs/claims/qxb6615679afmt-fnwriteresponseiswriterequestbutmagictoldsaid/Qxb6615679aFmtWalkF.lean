import Derived.Test.Qxb6615679aFmtWalkE
import Derived.Deep.Slices
namespace Go.Proofs.Qxb6615679aFmt
open Go.RowKit
set_option linter.unusedVariables false
set_option linter.unusedSimpArgs false

theorem run_slice25 (ao : Option Addr) (m k cap : Nat) (hk : k ≤ m) (w : World) :
    (Instr.slice 25 (.slice ao m cap) (some (.int .i64 k)) none none).run Tryf.prog w = .ok (.slice (if cap = k then ao else ao.map (·.add k)) (m - k) (cap - k)) w := by
  have ht : Tryf.prog.underlying 25 = some (.slice (Tryf.prog.elem 25)) := by kernel_rfl
  have he : Tryf.prog.elem 25 = 5 := by kernel_rfl
  have hz : (sizeOf 5).run Tryf.prog w = .ok 1 w := by simp [sizeOf]; kernel_rfl
  rw [run_slice_l (ht := ht) (h0 := by omega) (h1 := by omega), he, hz]
  simp only [Result.andThen, sliced, Int.toNat_natCast, Nat.mul_one]

/-- p[k:]. -/
theorem sliceP (ad : Addr) (n c k : Nat) (hk : k ≤ n) (hc : n ≤ c) : ∃ ad' : Addr, ad'.block = ad.block ∧ (∀ w s, SrcA w ad s → s.length = n → SrcA w ad' (s.drop k)) ∧ ∀ w, (Instr.slice 25 (.slice (some ad) n c) (some (.int .i64 k)) none none).run Tryf.prog w = .ok (.slice (some ad') (n - k) (c - k)) w := by
  by_cases e : c = k
  · refine ⟨ad, rfl, fun w s h hl => ⟨fun j hj => ?_⟩, fun w => ?_⟩
    · simp at hj; omega
    · rw [run_slice25 _ _ _ _ hk, if_pos e]
  · refine ⟨ad.add k, addBlock _ _, fun w s h hl => ⟨fun j hj => ?_⟩, fun w => ?_⟩
    · simp at hj
      rw [Deep.add_add, h.cell _ (by omega)]
      simp [List.getD]
    · rw [run_slice25 _ _ _ _ hk, if_neg e]; rfl

theorem putAt_nil (cur : Array Value) (o : Nat) : putAt cur o [] = cur := by simp [putAt]

/-- 'copy(b.buf[b.n:], p)', whatever there is room for. -/
theorem copyTo {b wb gb S : Nat} {v : Value} {l m : List UInt8} {w : World} (h : Wst b wb gb S v l m w) (ao : Option Addr) (n c : Nat) (rest : List UInt8) (hn : rest.length = n) (hsrc : ∀ ad, ao = some ad → SrcA w ad rest) (hnil : ao = none → n = 0) :
    ∃ o' cur, w.heap[gb]? = some (.cells cur 5 (0, 0)) ∧ cur.size = S ∧ cur.toList.take m.length = Lib.byteCells m ∧
      (∀ w, (Instr.slice 25 (.slice (some ⟨gb, 0, none⟩) S S) (some (.int .i64 (m.length : Int))) none none).run Tryf.prog w = .ok (.slice (some ⟨gb, o', none⟩) (S - m.length) (S - m.length)) w) ∧
      ∀ ty, (Builtin.copy_ #[25, 25] ty #[.slice (some ⟨gb, o', none⟩) (S - m.length) (S - m.length), .slice ao n c]).run Tryf.prog w = .ok (.int .i64 (Nat.min n (S - m.length) : Nat)) (w.setRow gb (putAt cur m.length (Lib.byteCells (rest.take (S - m.length))))) := by
  obtain ⟨cur, hg, hcs, htk⟩ := h.row
  have hmS := h.mS
  by_cases e : S = m.length
  · refine ⟨0, cur, hg, hcs, htk, fun w => ?_, fun ty => ?_⟩
    · rw [run_slice25 _ _ _ _ hmS, if_pos e]
    · have e0 : S - m.length = 0 := by omega
      rw [e0, List.take_zero, show Lib.byteCells [] = [] from rfl, putAt_nil, setRow_self _ _ _ _ _ hg, show Nat.min n 0 = 0 from Nat.min_eq_right (Nat.zero_le _)]
      exact run_copy_none (P := Tryf.prog) w 25 25 ty 5 (some ⟨gb, 0, none⟩) ao 0 0 n c Tryf.underlying25 size5 (by simp)
  · refine ⟨m.length, cur, hg, hcs, htk, fun w => ?_, fun ty => ?_⟩
    · rw [run_slice25 _ _ _ _ hmS, if_neg e, Option.map_some, Addr.add_lit, Nat.zero_add]
    · cases ao with
      | none =>
        obtain rfl := hnil rfl
        obtain rfl : rest = [] := List.eq_nil_of_length_eq_zero hn
        rw [List.take_nil, show Lib.byteCells [] = [] from rfl, putAt_nil, setRow_self _ _ _ _ _ hg, show Nat.min 0 (S - m.length) = 0 from Nat.min_eq_left (Nat.zero_le _)]
        exact run_copy_none (P := Tryf.prog) w 25 25 ty 5 (some ⟨gb, m.length, none⟩) none _ _ 0 c Tryf.underlying25 size5 (by simp)
      | some ad =>
        have hs := hsrc ad rfl
        have hl : (Lib.byteCells (rest.take (S - m.length))).length = Nat.min n (S - m.length) := by rw [Lib.byteCells_length, List.length_take, hn, Nat.min_comm]
        have hle : Nat.min n (S - m.length) ≤ S - m.length := Nat.min_le_right _ _
        have hcp := run_copy_row (P := Tryf.prog) w 25 25 ty 5 gb m.length (S - m.length) (S - m.length) ad n c cur 5 (Lib.byteCells (rest.take (S - m.length))) Tryf.underlying25 size5 hg hl (fun j u hu => hs.cells j u ?_) (by rw [hl, hcs]; omega) (oneCell_bytes _)
        · rw [hcp, hl]
          unfold putAt
          rw [hl]
          rfl
        · rw [← hu]
          have hj : j < (rest.take (S - m.length)).length := by
            have := (List.getElem?_eq_some_iff.1 hu).1
            rwa [Lib.byteCells_length] at this
          simp at hj
          simp only [Lib.byteCells, List.map_take, List.getElem?_take, List.getElem?_map]
          rw [if_pos (by omega)]

/-- The row filled, the count set. -/
theorem Wst.filled {b wb gb S : Nat} {v : Value} {l m : List UInt8} {w : World} (h : Wst b wb gb S v l m w) (t : List UInt8) (ht : m.length + t.length ≤ S) (cur : Array Value) (hg : w.heap[gb]? = some (.cells cur 5 (0, 0))) (hcs : cur.size = S) (htk : cur.toList.take m.length = Lib.byteCells m) (k : Int) (hk : k = ((m ++ t).length : Int)) :
    Wst b wb gb S v l (m ++ t) ((w.setRow gb (putAt cur m.length (Lib.byteCells t))).setCell ⟨wb, 2, none⟩ (.int .i64 k)) ∧ WFr b wb gb v w ((w.setRow gb (putAt cur m.length (Lib.byteCells t))).setCell ⟨wb, 2, none⟩ (.int .i64 k)) v := by
  obtain ⟨n1, n2, n3, n4, l1, l2, l3⟩ := h.ne1
  have hl : (Lib.byteCells t).length = t.length := Lib.byteCells_length t
  subst hk
  have hb' : BSt b v l (w.setRow gb (putAt cur m.length (Lib.byteCells t))) := by
    obtain ⟨lr, hb⟩ := h.buf.bk
    refine ⟨⟨lr, (setRow_other _ _ _ _ (Ne.symm n2)).trans hb⟩, ?_, h.buf.ne⟩
    obtain ⟨hl, h0 | ⟨g, cap, cur, rfl, h1, hg, h2⟩⟩ := h.buf.own
    · exact ⟨hl, .inl h0⟩
    · refine ⟨hl, .inr ⟨g, cap, cur, rfl, h1, (setRow_other _ _ _ _ ?_).trans hg, h2⟩⟩
      intro e
      exact h.apart (by rw [Value.ownBlock]; simp; exact e)
  refine ⟨⟨hb'.set _ (Ne.symm n1) n4, rowSet ((setRow_other _ _ _ _ (Ne.symm n3)).trans h.wr) _, ⟨_, (Below.heap_setCell _ _ _ _ n3).trans (setRow_heap _ _ _ _ _ _ hg), by rw [putAt_size _ _ _ (by rw [hl]; omega)]; exact hcs, ?_⟩, by rw [List.length_append]; exact ht, h.s0, h.s1, h.apart⟩, ⟨rfl, rfl, rfl, by simp, fun k hk h1 h2 h3 h4 => (Below.heap_setCell _ _ _ _ h2).trans (setRow_other _ _ _ _ h3), .inl rfl⟩⟩
  have := putAt_take cur m.length (Lib.byteCells t) (by rw [hl]; omega)
  rw [hl] at this
  rw [List.length_append, this, htk, Lib.byteCells_append]
end Go.Proofs.Qxb6615679aFmt

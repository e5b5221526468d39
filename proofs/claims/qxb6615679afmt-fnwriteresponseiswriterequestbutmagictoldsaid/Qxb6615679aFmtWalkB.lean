import Derived.Test.Qxb6615679aFmtWalkA
namespace Go.Proofs.Qxb6615679aFmt
open Go.RowKit
set_option linter.unusedVariables false
set_option linter.unusedSimpArgs false

set_option maxHeartbeats 8000000 in
set_option maxRecDepth 100000 in
theorem f87_row (b n g m cap : Nat) (l : List UInt8) (lr : Int) (cur : Array Value) (w : World) (hbk : w.heap[b]? = some (.cells #[.slice (some ⟨g, 0, none⟩) m cap, .int .i64 0, .int .i8 lr] 65 (0, 0))) (hm : l.length = m) (hg : w.heap[g]? = some (.cells cur 5 (0, 0))) (hcs : cur.size = cap) (hm0 : 0 < m) (hmc : m ≤ cap) (htk : cur.toList.take m = Lib.byteCells l) (hn : 1 ≤ n) (hno : cap - m < n) (hlim : m + n ≤ 1099511627776) :
    Calls Tryf.prog 87 #[.pointer (some ⟨b, 0, none⟩), .int .i64 n] w fun e w' => e = .returned (.int .i64 m) ∧ Grew b n l lr w w' := by
  have c0 : w.cell? ⟨b, 0, none⟩ = some (.slice (some ⟨g, 0, none⟩) m cap) := cellRow hbk 0
  have c1 : w.cell? ⟨b, 1, none⟩ = some (.int .i64 0) := cellRow hbk 1
  have f0 : w.frozen? ⟨b, 0, none⟩ = false := frozen_of_row _ _ _ _ _ hbk
  have f1 : w.frozen? ⟨b, 1, none⟩ = false := frozen_of_row _ _ _ _ _ hbk
  have hlt : b < w.heap.size := (Array.getElem?_eq_some_iff.1 hbk).1
  have hne := fun w => Lib.run_eql_slice_nil (P := Tryf.prog) w 25 5 (some ⟨g, 0, none⟩) m cap 0 0 Tryf.underlying25
  have HBK := hide hbk
  have HG := hide hg
  have HM := hide hm
  have HCS := hide hcs
  have HTK := hide htk
  clear hbk hg hm hcs htk
  have hcl : cap ≤ 1099511627776 := by omega
  have t1 : ¬ ((n : Int) ≤ (cap : Int) / 2 - (m : Int)) := by omega
  have t2 : ¬ ((9223372036854775807 : Int) - (cap : Int) - (n : Int) < (cap : Int)) := by omega
  go_enter Tryf.func87, Tryf.ntmps87
  go_wp2_with fail
  refine (f88_to b _ m cap w c0 c1 (by omega)).mono ?_
  rintro e w1 ⟨rfl, k, hw1⟩
  have d0 : w1.cell? ⟨b, 0, none⟩ = some (.slice (some ⟨g, 0, none⟩) m cap) := hw1 ▸ c0
  have d1 : w1.cell? ⟨b, 1, none⟩ = some (.int .i64 0) := hw1 ▸ c1
  have g0 : w1.frozen? ⟨b, 0, none⟩ = false := hw1 ▸ f0
  have g1 : w1.frozen? ⟨b, 1, none⟩ = false := hw1 ▸ f1
  have hlt1 : b < w1.heap.size := hw1 ▸ hlt
  have HW1 := hide hw1
  clear hw1 c0 c1 f0 f1 hlt
  have hmne : ¬ ((m : Int) = 0) := by omega
  go_wp2_with fail
  refine (Tryf.Buffer_tryGrow_none b _ m cap n w1 d0 (by omega) (by unfold maxLen; omega) (by omega)).mono ?_
  rintro e w2 ⟨rfl, hw2⟩
  obtain rfl : w1 = w2 := hw2.symm
  go_wp2_with fail
  have hwn : IntKind.i64.wrap (n : Int) = n := by rw [IntKind.wrap_i64]; omega
  have hB1 : w1.heap[b]? = some (.cells #[.slice (some ⟨g, 0, none⟩) m cap, .int .i64 0, .int .i8 lr] 65 (0, 0)) := by rw [HW1.out]; exact HBK.out
  have HB1 := hide hB1
  have hG1 : w1.drew.heap[g]? = some (.cells cur 5 (0, 0)) := by rw [HW1.out]; exact HG.out
  have HG1 := hide hG1
  clear hB1 hG1
  go_region_with (
      go_at_call 89
      refine (Tryf.bytes_growSlice_row g m cap n cur _ HG1.out HCS.out (by omega) (by omega) (by omega) (by omega) (by rw [HTK.out]; exact oneCell_bytes l)).mono ?_
      rintro e w2 ⟨cap2, cells, rfl, hN, hcsz, htk2, hcap2, hcm2, hbel⟩
      have hbk2 : w2.heap[b]? = some (.cells #[.slice (some ⟨g, 0, none⟩) m cap, .int .i64 0, .int .i8 lr] 65 (0, 0)) := (hbel.block b hlt1).trans HB1.out
      have d0 : w2.cell? ⟨b, 0, none⟩ = some (.slice (some ⟨g, 0, none⟩) m cap) := cellRow hbk2 0
      have d1 : w2.cell? ⟨b, 1, none⟩ = some (.int .i64 0) := cellRow hbk2 1
      have e0 : w2.frozen? ⟨b, 0, none⟩ = false := frozen_of_row _ _ _ _ _ hbk2
      have e1 : w2.frozen? ⟨b, 1, none⟩ = false := frozen_of_row _ _ _ _ _ hbk2
      have HN := hide hN
      have HBK2 := hide hbk2
      have HBEL := hide hbel
      have HCS2 := hide hcsz
      have HTK2 := hide htk2
      clear hN hbk2 hbel hcsz htk2)
  all_goals (
    go_wp2
    go_ret
    refine ⟨rfl, ?_⟩
    have hlt : b < w.heap.size := (Array.getElem?_eq_some_iff.1 HBK.out).1
    have key := Grew.mk3 (l := l) (n := n) (x := .slice (some ⟨w1.drew.heap.size, 0, none⟩) m cap2) hlt HBK2.out (grown_below HW1.out HBEL.out) (g := w1.drew.heap.size) (by rw [HW1.out]; exact Nat.le_refl _) HN.out HCS2.out hcm2 (by rw [HM.out]; omega) (by rw [HM.out, HTK2.out]; exact HTK.out)
    rw [HM.out] at key
    exact key)
end Go.Proofs.Qxb6615679aFmt

import Derived.Test.Qxb6616377aDoorWalkA
namespace Go.Proofs.Qxb6616377aDoor
open Go.RowKit
set_option linter.unusedVariables false
set_option linter.unusedSimpArgs false

theorem runB_neg (a : Int) (h : 1 ≤ a) : runB (-a) = (⟨#[45]⟩ : ByteArray) ++ runB a := by
  unfold runB itoaB
  rw [itoa_sign a h]
  apply ByteArray.ext
  apply Array.ext'
  simp
theorem runB_size (a : Int) : (runB a).size = (itoaB a).size + 5 := by
  unfold runB; rw [ByteArray.size_append]; rfl

/-- One digit as a string. -/
def digB (d : Int) : ByteArray := strOfNums [48 + d]
theorem conv_dig (d : Int) (w : World) :
    (convert 25 9 (.slice (some ⟨w.heap.size, 0, none⟩) 1 1)).run Tryd.prog (w.alloc (.cells #[.int .u8 (48 + d)] 5)).drew = .ok (.string (digB d)) (w.alloc (.cells #[.int .u8 (48 + d)] 5)).drew :=
  run_convert_bytes_arg (P := Tryd.prog) (w.alloc (.cells #[.int .u8 (48 + d)] 5)).drew 25 5 Tryd.underlying25 Tryd.underlying5 w.heap.size 0 1 1 [48 + d] rfl (by
    intro t ht
    obtain rfl : t = 0 := by omega
    simp) 9 Tryd.underlying9

theorem extract_left (A B : ByteArray) : (A ++ B).extract 0 A.size = A := by
  apply ByteArray.ext
  rw [ByteArray.data_extract, ByteArray.data_append]
  apply Array.ext'
  rw [Array.toList_extract, Array.toList_append]
  have e : A.size = A.data.toList.length := rfl
  rw [e]
  simp

theorem want_eq (a d : Int) (ha : 1 ≤ a) (h0 : 0 ≤ d) (h9 : d ≤ 9) : runB (10 * a + d) = (runB a).extract 0 (itoaB a).size ++ digB d ++ (⟨#[46, 106, 115, 111, 110]⟩ : ByteArray) := by
  have e : itoaB (10 * a + d) = itoaB a ++ digB d := by
    apply ByteArray.ext
    apply Array.ext'
    unfold itoaB digB
    rw [itoa_digit a d ha h0 h9]
    have e2 : (48 + d).toNat = 48 + d.toNat := by omega
    simp [strOfNums, e2]
  rw [runB, e, runB, extract_left]
  rfl

set_option maxHeartbeats 400000 in
theorem f4_main (a d : Int) (w : World) (ha : 1 ≤ a) (hd0 : 0 ≤ d) (hd9 : d ≤ 9) (hm : 10 * a + d ≤ 9223372036854775807) (ht : Tab w) (hw : 0 < w.heap.size) :
    Calls Tryd.prog 4 #[.int .i64 a, .int .i64 d] w fun e w' => e = .returned (.bool true) ∧ Below w.heap.size w w' := by
  have hc1 := f5_any a w (by omega) (by omega) ht
  have hc2 : ∀ w1, Tab w1 → Calls Tryd.prog 5 #[.int .i64 (-a)] w1 fun e w' => e = .returned (.string ((⟨#[45]⟩ : ByteArray) ++ runB a)) ∧ Below w1.heap.size w1 w' := by
    intro w1 h1; rw [← runB_neg a ha]; exact f5_any (-a) w1 (by omega) (by omega) h1
  have hc3 : ∀ w1, Tab w1 → Calls Tryd.prog 5 #[.int .i64 (10 * a + d)] w1 fun e w' => e = .returned (.string (runB (10 * a + d))) ∧ Below w1.heap.size w1 w' := by
    intro w1 h1; exact f5_any (10 * a + d) w1 (by omega) (by omega) h1
  have hps := runB_size a
  have hpl := itoaB_size a (by omega) (by omega)
  generalize hI : itoaB a = I at hps hpl
  generalize hP : runB a = P at hc1 hc2 hps
  generalize hG : runB (10 * a + d) = G at hc3
  have HI : Hid (itoaB a = I) := hI
  have HP : Hid (runB a = P) := hP
  have HG : Hid (runB (10 * a + d) = G) := hG
  have HT : Hid (Tab w) := ht
  have HC2 : Hid (∀ w1, Tab w1 → Calls Tryd.prog 5 #[.int .i64 (-a)] w1 fun e w' => e = .returned (.string ((⟨#[45]⟩ : ByteArray) ++ P)) ∧ Below w1.heap.size w1 w') := hc2
  have HC3 : Hid (∀ w1, Tab w1 → Calls Tryd.prog 5 #[.int .i64 (10 * a + d)] w1 fun e w' => e = .returned (.string G) ∧ Below w1.heap.size w1 w') := hc3
  clear hI hP hG ht hc2 hc3
  go_enter Tryd.func4, Tryd.ntmps4
  go_wp2_with fail
  refine hc1.mono ?_
  rintro e w1 ⟨rfl, hb1⟩
  clear hc1
  have HT1 : Hid (Tab w1) := HT.out.below hb1 hw
  have hs1 := hb1.size
  go_wp2_with fail
  refine (HC2.out _ HT1.out).mono ?_
  rintro e w2 ⟨rfl, hb2⟩
  have HT2 : Hid (Tab w2) := HT1.out.below hb2 (by omega)
  have hs2 := hb2.size
  go_wp2_with fail
  refine (HC3.out _ HT2.out).mono ?_
  rintro e w3 ⟨rfl, hb3⟩
  have hs3 := hb3.size
  go_wp2
  have hcv := conv_dig d w3
  have hx : (P.extract 0 I.size).size = I.size := by rw [ByteArray.size_extract]; omega
  have hd1 : (digB d).size = 1 := rfl
  have ha1 : ∀ w, (Op.stringOp .add (P.extract 0 I.size) (digB d)).run Tryd.prog w = .ok (.string (P.extract 0 I.size ++ digB d)) w := fun w => run_string_add_sum w _ _ (by rw [hx, hd1]; omega)
  have ha2 : ∀ w, (Op.stringOp .add (P.extract 0 I.size ++ digB d) ⟨#[46, 106, 115, 111, 110]⟩).run Tryd.prog w = .ok (.string (P.extract 0 I.size ++ digB d ++ ⟨#[46, 106, 115, 111, 110]⟩)) w := fun w => run_string_add_sum w _ _ (by
    rw [ByteArray.size_append, hx, hd1, show (⟨#[46, 106, 115, 111, 110]⟩ : ByteArray).size = 5 from rfl]; omega)
  clear hx hd1
  go_region
  go_wp2
  go_ret
  refine ⟨?_, ?_⟩
  · have e := want_eq a d ha hd0 hd9
    rw [HG.out, HP.out, HI.out] at e
    rw [e]
    simp
  · exact ((((hb1.trans (hb2.mono hs1)).trans (hb3.mono (Nat.le_trans hs1 hs2))).alloc (by omega) _).drew)

set_option maxHeartbeats 400000 in
theorem f4_out (a d : Int) (w : World) (h : a < 1 ∨ d < 0 ∨ 9 < d) :
    Calls Tryd.prog 4 #[.int .i64 a, .int .i64 d] w fun e w' => e = .returned (.bool true) ∧ Below w.heap.size w w' := by
  by_cases h1 : a < 1
  · go_enter Tryd.func4, Tryd.ntmps4
    go_wp2
    go_ret
    exact ⟨rfl, Below.refl _ _⟩
  · by_cases h2 : d < 0
    · go_enter Tryd.func4, Tryd.ntmps4
      go_wp2
      go_ret
      exact ⟨rfl, Below.refl _ _⟩
    · have h3 : 9 < d := by omega
      go_enter Tryd.func4, Tryd.ntmps4
      go_wp2
      go_ret
      exact ⟨rfl, Below.refl _ _⟩

set_option maxHeartbeats 400000 in
theorem f4_big (a d : Int) (w : World) (ha : 1 ≤ a) (hd0 : 0 ≤ d) (hd9 : d ≤ 9) (hm : 9223372036854775807 < 10 * a + d) :
    Calls Tryd.prog 4 #[.int .i64 a, .int .i64 d] w fun e w' => e = .returned (.bool true) ∧ Below w.heap.size w w' := by
  have h : (9223372036854775807 - d) / 10 < a := by omega
  clear hm
  go_enter Tryd.func4, Tryd.ntmps4
  go_wp2
  go_ret
  exact ⟨rfl, Below.refl _ _⟩

theorem f4_any (a d : Int) (w : World) (wa : (Lit.int .i64 a).wf = true) (wd : (Lit.int .i64 d).wf = true) (ht : Tab w) (hw : 0 < w.heap.size) :
    Calls Tryd.prog 4 #[.int .i64 a, .int .i64 d] w fun e w' => e = .returned (.bool true) ∧ Below w.heap.size w w' := by
  by_cases h : a < 1 ∨ d < 0 ∨ 9 < d
  · exact f4_out a d w h
  · by_cases hm : 10 * a + d ≤ 9223372036854775807
    · exact f4_main a d w (by omega) (by omega) (by omega) hm ht hw
    · exact f4_big a d w (by omega) (by omega) (by omega) (by omega)
end Go.Proofs.Qxb6616377aDoor

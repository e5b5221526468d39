/- 'Rows.FnWriteResponseIsWriteRequestButMagicToldSaid' PROVED: the row (fmt's text told) and the card (told and tied). The walk: Qxb6615679aFmtShelf, App, WalkA to WalkP. -/
import Derived.Test.Qxb6615679aFmtRows
import Derived.Test.Qxb6615679aFmtTie
import Derived.Test.Qxb6615679aFmtCards
import Derived.Test.Qxb6615679aFmtWalkP
import Derived.ProofKit
import Derived.OpenShut
import Derived.ChangeOld
import Derived.Below
import Derived.LaidMore
import Derived.Deep.DeepWitnessRef
import Derived.Stop.JoinedTold
import Derived.Stop.Joined
import Derived.SevenTiedAt
namespace Go.Proofs.Qxb6615679aFmt.fnWriteResponseIsWriteRequestButMagic
open Go.ChangeShapes Go.WideShapes Go.ChangeAt Go.RowKit
open Go.Extern.Stop Go.Stop Go.Extern
set_option linter.unusedVariables false
set_option linter.unusedSimpArgs false

theorem own : ownKnob Tryf.prog.godebug = none := by kernel_rfl
theorem laidOut : laidOutB Tryf.pinned.checked.prog = true := by kernel_rfl
theorem laidOutP : laidOutB Tryf.prog = true := laidOut
theorem stops : Tryf.pinned.checked.prog.stops = ["fmt.Sprintf, its operands' methods called", "fmt.errorf"] := by kernel_rfl
theorem stopKnobs : Tryf.pinned.checked.prog.stopKnobs = [] := by kernel_rfl
theorem quiet (os : Os) : Stop.quiet Tryf.pinned.checked.prog os := by
  intro k hk
  rw [stopKnobs] at hk
  cases hk

theorem wf_u8 {n : Int} (h : (Lit.int .u8 n).wf = true) : 0 ≤ n ∧ n < 256 := by
  have h' : (decide (IntKind.u8.min ≤ n) && decide (n ≤ IntKind.u8.max)) = true := h
  simp only [Bool.and_eq_true, decide_eq_true_eq] at h'
  have e1 : IntKind.u8.min = 0 := by decide
  have e2 : IntKind.u8.max = 255 := by decide
  omega
theorem wf_u16 {n : Int} (h : (Lit.int .u16 n).wf = true) : 0 ≤ n ∧ n < 65536 := by
  have h' : (decide (IntKind.u16.min ≤ n) && decide (n ≤ IntKind.u16.max)) = true := h
  simp only [Bool.and_eq_true, decide_eq_true_eq] at h'
  have e1 : IntKind.u16.min = 0 := by decide
  have e2 : IntKind.u16.max = 65535 := by decide
  omega
theorem wf_u32 {n : Int} (h : (Lit.int .u32 n).wf = true) : 0 ≤ n ∧ n < 4294967296 := by
  have h' : (decide (IntKind.u32.min ≤ n) && decide (n ≤ IntKind.u32.max)) = true := h
  simp only [Bool.and_eq_true, decide_eq_true_eq] at h'
  have e1 : IntKind.u32.min = 0 := by decide
  have e2 : IntKind.u32.max = 4294967295 := by decide
  omega
theorem wf_u64 {n : Int} (h : (Lit.int .u64 n).wf = true) : 0 ≤ n ∧ n < 18446744073709551616 := by
  have h' : (decide (IntKind.u64.min ≤ n) && decide (n ≤ IntKind.u64.max)) = true := h
  simp only [Bool.and_eq_true, decide_eq_true_eq] at h'
  have e1 : IntKind.u64.min = 0 := by decide
  have e2 : IntKind.u64.max = 18446744073709551615 := by decide
  omega

section
variable {H : Type} {enc : TypeId × Value → H} {P : Program} {w : World} {base : Nat} {spare : Nat → Bool} {held : Bool}
theorem open_bytes {t e : TypeId} {fuel : Nat} {v : Value} {x : DataW H × List MemPlace} (ht : P.underlying t = some (.slice e)) (he : P.underlying e = some (.int .u8)) (hc : P.cellsOf e = 1)
    (h : DataW.trod enc P w base spare held fuel t [v] = some x) : ∃ da dn dc, ∃ s : List UInt8, v = .slice da dn dc ∧ Raw w da dn dc s ∧ dn ≤ maxLen := by
  rcases open_ints ht he hc h with ⟨hcs, _⟩ | ⟨a, l, c, zs, hcs, _, hl, hm, hz, _, hcell, hwz⟩
  · simp at hcs
    exact ⟨none, 0, 0, [], hcs, ⟨rfl, Nat.le_refl _, (fun _ => ⟨rfl, rfl⟩), (fun ad hd => by cases hd)⟩, Nat.zero_le _⟩
  · simp at hcs
    have hlz : l ≤ zs.length := by rw [hz]; split <;> omega
    refine ⟨some a, l, c, (zs.take l).map (fun z => UInt8.ofNat z.toNat), hcs, ⟨by simp; omega, by omega, (fun hn => by cases hn), (fun ad hd => ?_)⟩, by omega⟩
    cases hd
    refine ⟨fun i hi => ?_⟩
    have hi : i < l := by simp at hi; omega
    rw [hcell i (by omega)]
    have hiz : i < zs.length := by omega
    have hr := wf_u8 (hwz zs[i] (List.getElem_mem hiz))
    have e1 : zs.getD i 0 = zs[i] := by simp [List.getD, hiz]
    have e2 : ((zs.take l).map (fun z => UInt8.ofNat z.toNat)).getD i 0 = UInt8.ofNat zs[i].toNat := by simp [List.getD, hiz, hi]
    rw [e1, e2]
    congr 2
    simp
    omega
end

theorem below {W W' : World} (h : W.grownBy W' none) : Below W.heap.size W W' := ⟨h.os, h.tape, h.output, h.size, fun k hk => h.block k hk (by simp)⟩

/-- The door's own heap meets the condition. -/
theorem door_met (os : Os) (args : Array Value) : laidMetH Tryf.prog Rows.fnWriteResponseIsWriteRequestButMagicRow.laid ((World.doorLaid Tryf.prog 147 os).forCall (fun _ _ => 0) ⟨#[], args, []⟩).memory :=
  laidMetH_of_parts3 (fuel := 8) (laidMet_of_run' 8 (by kernel_rfl) (by kernel_rfl)) (by kernel_rfl) (by kernel_rfl)

set_option maxRecDepth 100000 in
theorem lifted (os : Os) (started : os.Started) (H : Type) (enc : TypeId × Value → H) :
    ReturnsInTold none {} Tryf.checked os 5 .any Input.okWide ((OpenSpec.ofChange Rows.fnWriteResponseIsWriteRequestButMagicSpec).preRow enc Tryf.prog Tryf.f5 [] false Rows.fnWriteResponseIsWriteRequestButMagicRow.laid)
      (fun F => ((OpenSpec.ofChange Rows.fnWriteResponseIsWriteRequestButMagicSpec).at F).post enc Tryf.prog Tryf.f5 false true false false) (aloneAtReturn Tryf.prog) nothingAlways := by
  refine returnsInTold_of_row (C := Tryf.checked) (s := OpenSpec.ofChange Rows.fnWriteResponseIsWriteRequestButMagicSpec) (by kernel_rfl) own started (by kernel_rfl) Tryf.func5
    (OpenSpec.witness_stopped_atRef (enc := enc) (C := Tryf.checked) false (World.doorLaid Tryf.prog 147 os) #[.int .i64 0, .int .u8 0, .int .u16 0, .int .u32 0, .int .u64 0, .slice none 0 0, .slice none 0 0, .slice none 0 0] rfl (by kernel_rfl) (by kernel_rfl) (by kernel_rfl)
      (OpenSpec.preRow_of_B rfl 8 (by kernel_rfl) (by kernel_rfl) (door_met os _))) ?_
  intro F W base args ds gs before _ hF hval0 hW _ _ _ hL _
  have hval : ∀ (j : Nat) t v, Tryf.f5.params[j]? = some t → args[j]? = some v → Value.okWide Tryf.prog W .any base t v := hval0
  have hW' := hW
  obtain ⟨p, q, hA0, hV, rfl, hfz, hnd⟩ := hW
  have hA : DataW.TrodAll enc Tryf.prog W 0 (fun _ => true) true Tryf.f5.params.toList args.toList ds p := hA0
  rw [Tryf.params5] at hA hval
  obtain ⟨v0, vs0, d0, ds0, p0, q0, hargs, rfl, rfl, h0, r0⟩ := trodAll_cons hA
  obtain ⟨v1, vs1, d1, ds1, p1, q1, rfl, rfl, rfl, h1, r1⟩ := trodAll_cons r0
  obtain ⟨v2, vs2, d2, ds2, p2, q2, rfl, rfl, rfl, h2, r2⟩ := trodAll_cons r1
  obtain ⟨v3, vs3, d3, ds3, p3, q3, rfl, rfl, rfl, h3, r3⟩ := trodAll_cons r2
  obtain ⟨v4, vs4, d4, ds4, p4, q4, rfl, rfl, rfl, h4, r4⟩ := trodAll_cons r3
  obtain ⟨v5, vs5, d5, ds5, p5, q5, rfl, rfl, rfl, h5, r5⟩ := trodAll_cons r4
  obtain ⟨v6, vs6, d6, ds6, p6, q6, rfl, rfl, rfl, h6, r6⟩ := trodAll_cons r5
  obtain ⟨v7, vs7, d7, ds7, p7, q7, rfl, rfl, rfl, h7, r7⟩ := trodAll_cons r6
  obtain ⟨rfl, rfl, rfl⟩ := trodAll_nil r7
  obtain rfl : args = #[v0, v1, v2, v3, v4, v5, v6, v7] := by cases args; simp_all
  obtain ⟨rfl, rfl⟩ := trodVars_none hV
  obtain ⟨a5, n5, c5, rfl⟩ := okWide_slice Tryf.underlying25 (hval 5 25 v5 rfl rfl)
  obtain ⟨a6, n6, c6, rfl⟩ := okWide_slice Tryf.underlying25 (hval 6 25 v6 rfl rfl)
  obtain ⟨a7, n7, c7, rfl⟩ := okWide_slice Tryf.underlying25 (hval 7 25 v7 rfl rfl)
  have k5 := h5
  have lt5 : ∀ x ∈ p5, x.block < W.heap.size := by obtain ⟨m, hm⟩ := k5; exact DataW.trod_lt m _ _ _ hm
  have k6 := h6
  have lt6 : ∀ x ∈ p6, x.block < W.heap.size := by obtain ⟨m, hm⟩ := k6; exact DataW.trod_lt m _ _ _ hm
  have k7 := h7
  have lt7 : ∀ x ∈ p7, x.block < W.heap.size := by obtain ⟨m, hm⟩ := k7; exact DataW.trod_lt m _ _ _ hm
  obtain ⟨s5, w5, m5⟩ : ∃ s : List UInt8, Raw W a5 n5 c5 s ∧ n5 ≤ maxLen := by
    obtain ⟨fuel, hf⟩ := h5
    obtain ⟨da, dn, dc, s, e, hs, hm⟩ := open_bytes Tryf.underlying25 Tryf.underlying5 (by kernel_rfl) (show DataW.trod enc Tryf.prog W 0 (fun _ => true) true fuel 25 [.slice a5 n5 c5] = some (d5, p5) from hf)
    simp at e
    obtain ⟨rfl, rfl, rfl⟩ := e
    exact ⟨s, hs, hm⟩
  obtain ⟨s6, w6, m6⟩ : ∃ s : List UInt8, Raw W a6 n6 c6 s ∧ n6 ≤ maxLen := by
    obtain ⟨fuel, hf⟩ := h6
    obtain ⟨da, dn, dc, s, e, hs, hm⟩ := open_bytes Tryf.underlying25 Tryf.underlying5 (by kernel_rfl) (show DataW.trod enc Tryf.prog W 0 (fun _ => true) true fuel 25 [.slice a6 n6 c6] = some (d6, p6) from hf)
    simp at e
    obtain ⟨rfl, rfl, rfl⟩ := e
    exact ⟨s, hs, hm⟩
  obtain ⟨s7, w7, m7⟩ : ∃ s : List UInt8, Raw W a7 n7 c7 s ∧ n7 ≤ maxLen := by
    obtain ⟨fuel, hf⟩ := h7
    obtain ⟨da, dn, dc, s, e, hs, hm⟩ := open_bytes Tryf.underlying25 Tryf.underlying5 (by kernel_rfl) (show DataW.trod enc Tryf.prog W 0 (fun _ => true) true fuel 25 [.slice a7 n7 c7] = some (d7, p7) from hf)
    simp at e
    obtain ⟨rfl, rfl, rfl⟩ := e
    exact ⟨s, hs, hm⟩
  obtain ⟨a0, rfl, rfl, rfl, w0⟩ := open_int Tryf.underlying3 (hval 0 3 v0 rfl rfl) h0
  obtain ⟨a1, rfl, rfl, rfl, w1⟩ := open_int Tryf.underlying5 (hval 1 5 v1 rfl rfl) h1
  obtain ⟨a2, rfl, rfl, rfl, w2⟩ := open_int Tryf.underlying22 (hval 2 22 v2 rfl rfl) h2
  obtain ⟨a3, rfl, rfl, rfl, w3⟩ := open_int Tryf.underlying23 (hval 3 23 v3 rfl rfl) h3
  obtain ⟨a4, rfl, rfl, rfl, w4⟩ := open_int Tryf.underlying24 (hval 4 24 v4 rfl rfl) h4
  have walk : Calls Tryf.prog 5 #[.int .i64 a0, .int .u8 a1, .int .u16 a2, .int .u32 a3, .int .u64 a4, .slice a5 n5 c5, .slice a6 n6 c6, .slice a7 n7 c7] W fun e w' => e = .returned (.bool true) ∧ W.grownBy w' none := by
    obtain ⟨u1, u1'⟩ := wf_u8 w1
    obtain ⟨u2, u2'⟩ := wf_u16 w2
    obtain ⟨u3, u3'⟩ := wf_u32 w3
    obtain ⟨u4, u4'⟩ := wf_u64 w4
    obtain ⟨b1, e1⟩ := Int.eq_ofNat_of_zero_le u1
    obtain ⟨b2, e2⟩ := Int.eq_ofNat_of_zero_le u2
    obtain ⟨b3, e3⟩ := Int.eq_ofNat_of_zero_le u3
    obtain ⟨b4, e4⟩ := Int.eq_ofNat_of_zero_le u4
    rw [e1, e2, e3, e4]
    exact f5_to F.told a0 b1 b2 b3 b4 a5 a6 a7 n5 n6 n7 c5 c6 c7 s5 s6 s7 W hF ⟨w5, w6, w7, m5, m6, m7⟩ (by omega) (by omega) (by omega) (by omega)
  clear hA0 hval0
  refine walk.mono fun e W' ⟨he, hgr⟩ => ?_
  have bel := below hgr
  subst he
  exact ⟨_, rfl, _, _, _, [], _, [], hW', trodAll_mk1 (shut_bool Tryf.underlying4 _),
    (trodAll_cons_mk (shut_int Tryf.underlying3 w0) (trodAll_cons_mk (shut_int Tryf.underlying5 w1) (trodAll_cons_mk (shut_int Tryf.underlying22 w2) (trodAll_cons_mk (shut_int Tryf.underlying23 w3) (trodAll_cons_mk (shut_int Tryf.underlying24 w4)
      (trodAll_cons_mk (Below.trod laidOutP (by kernel_rfl) (of_decide_eq_true (by kernel_rfl)) k5 bel lt5) (trodAll_cons_mk (Below.trod laidOutP (by kernel_rfl) (of_decide_eq_true (by kernel_rfl)) k6 bel lt6)
        (trodAll_cons_mk (Below.trod laidOutP (by kernel_rfl) (of_decide_eq_true (by kernel_rfl)) k7 bel lt7) trodAll_mk0)))))))), rfl, bel.frame _, fun h => by cases h⟩

/-- ████ THE STATEMENT: THE TOLD AND TIED CARD ████ -/
theorem proved : Rows.FnWriteResponseIsWriteRequestButMagicToldSaid :=
  Claim7.holds_of_told_tied_any_at .later 5 Tryf.f5 "fmt.Sprintf, its operands' methods called" ["fmt.errorf"] [] _ _ _ _ _ (by kernel_rfl) rfl rfl rfl laidOut (by kernel_rfl) rfl ⟨rfl, rfl, rfl, rfl, rfl, rfl, rfl⟩ rfl rfl (by kernel_rfl) (by kernel_rfl) Tryf.func5 (by kernel_rfl)
    (of_decide_eq_true (by kernel_rfl)) (by unfold Func.isWrapper; first | (rw [if_pos (by decide +kernel)]; kernel_rfl) | (rw [if_neg (by decide +kernel)]; exact ⟨rfl, rfl⟩)) stops.symm rfl stopKnobs.symm (by kernel_rfl)
    (by kernel_rfl) (by kernel_rfl) (by kernel_rfl) (by kernel_rfl) (by kernel_rfl) (by kernel_rfl) (by kernel_rfl) (by kernel_rfl) (by kernel_rfl) rfl (by kernel_rfl) rfl rfl
    rfl rfl
    rfl (by kernel_rfl) (by kernel_rfl) (by kernel_rfl) (by decide) (by kernel_rfl) fnWriteResponseIsWriteRequestButMagic_row_tie
    (OpenClaim.moreEntering_of (by kernel_rfl) (by kernel_rfl) (by kernel_rfl) (by kernel_rfl) (by kernel_rfl) (by kernel_rfl) (by kernel_rfl) (by kernel_rfl) (by kernel_rfl) (by kernel_rfl))
    ⟨_, WideRow.started_initial, quiet _⟩
    (fun os started _ H enc _ => lifted os started H enc)
end Go.Proofs.Qxb6615679aFmt.fnWriteResponseIsWriteRequestButMagic

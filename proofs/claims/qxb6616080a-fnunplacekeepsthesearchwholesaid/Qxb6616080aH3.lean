import Derived.Test.Qxb6616080aT3b
import Derived.Test.Qxb6616080aG5
namespace Go.Proofs.Qxb6616080a
open Go.RowKit
set_option linter.unusedVariables false
set_option linter.unusedSimpArgs false
set_option maxRecDepth 100000

theorem In.below3 {w w' : World} {T : Ad} {L : Nat → Nat} {E : Env} {D : Dyn} (h : In w T L E D) (hb : Below w.heap.size w w') : In w' T L E D := by
  have hx : ∀ {a : Addr} {v : Value}, w.cell? a = some v → w'.cell? a = some v := fun {a v} hc => (hb.cell (World.block_lt_of_cell? w a hc)).trans hc
  exact { h with
    row := fun i h1 h2 h3 => ⟨(h.row i h1 h2 h3).1, (h.row i h1 h2 h3).2.1, fun j hj => hx ((h.row i h1 h2 h3).2.2 j hj)⟩
    chn := fun c hc => ⟨(h.chn c hc).1, (h.chn c hc).2.1, fun k hk => hx ((h.chn c hc).2.2 k hk)⟩
    lvl := fun c hc => ⟨(h.lvl c hc).1, (h.lvl c hc).2.1, fun k hk => hx ((h.lvl c hc).2.2 k hk)⟩
    o0 := fun i hi => hx (h.o0 i hi), o1 := fun i hi => (by obtain ⟨x, h1, h2⟩ := h.o1 i hi; exact ⟨x, hx h1, h2⟩)
    o2 := fun i hi => hx (h.o2 i hi), o3 := fun i hi => hx (h.o3 i hi), o4 := fun i hi => (by obtain ⟨x, h1, h2⟩ := h.o4 i hi; exact ⟨x, hx h1, h2⟩)
    o5 := fun i hi => hx (h.o5 i hi) }

set_option maxHeartbeats 32000000 in
theorem f3_to {w : World} {T : Ad} {L : Nat → Nat} {E : Env} {D : Dyn} {cc p : Int} (hI : In w T L E D) (hcc : i64 cc) (hp : i32 p) :
    Calls Try.prog 3 #[.slice T.oA E.n T.oc, .agg (rval T.A L T.cap E.only D.toPlace E.seed D.hash), .int .i64 cc, .int .i32 p] w fun e w' => e = .returned (.bool true) ∧ Below w.heap.size w w' := by
  have hbox := box_r T.A L T.cap E.only D.toPlace E.seed D.hash w
  have hsz : (Try.prog.info? 30).map (·.size) = some (rval T.A L T.cap E.only D.toPlace E.seed D.hash).size := Try.info30'
  have h16 := fun (w : World) (h : In w T L E D) => f5_to (only := E.only) (tp := D.toPlace) (seed := E.seed) (hash := D.hash) (cc := cc) (pp := p) h.rw
  have h6 := fun (w : World) (h : In w T L E D) => f6_to (only := E.only) (tp := D.toPlace) (seed := E.seed) (hash := D.hash) h.rw
  have hbad := fun (w : World) (h : ¬ LenOk L E.n) => f7_bad (T := T) (L := L) (n := E.n) (only := E.only) (tp := D.toPlace) (seed := E.seed) (hash := D.hash) (w := w) h
  have hgood := fun (w : World) (h : In w T L E D) (hL : LenOk L E.n) (hs : Es E) => f7_to (h.rd hL hs)
  have h8 := fun (w : World) (h : In w T L E D) (hL : LenOk L E.n) (hs : Es E) (hH : Holds E D zmix) => f8_to (h.rd hL hs) hH hcc hp
  have H8 := hide h8
  clear h8 hcc hp
  have hVs := fun (hL : LenOk L E.n) => hI.sval hL
  obtain ⟨V, hV⟩ : ∃ V, rval T.A L T.cap E.only D.toPlace E.seed D.hash = V := ⟨_, rfl⟩
  rw [hV] at hbox hsz h16 h6 hbad hVs ⊢
  obtain ⟨W, hW⟩ : ∃ W, w.alloc (.cells V 30) = W := ⟨_, rfl⟩
  obtain ⟨g, hg⟩ : ∃ g, w.heap.size = g := ⟨_, rfl⟩
  have hbW : Below w.heap.size w W := hW ▸ (Below.refl _ _).alloc (Nat.le_refl _) _
  have hrow : W.heap[g]? = some (.cells V 30 (0, 0)) := by rw [← hW, ← hg]; exact heap_alloc_new w _
  have hgW : g < W.heap.size := by rw [← hW, ← hg]; simp
  have HI := hide (hI.below3 hbW)
  have HI0 := hide hI
  have HB := hide hbW
  have HRow := hide hrow
  have HSz := hide hsz
  have H16 := hide h16
  have H6 := hide h6
  have HBad := hide hbad
  have HGood := hide hgood
  have HVs := hide hVs
  have HVe := hide hV
  have HG := hide hg
  have HGW := hide hgW
  clear hI hbW hrow hsz h16 h6 hbad hgood hVs hV hgW
  go_enter Try.func3, Try.ntmps3
  go_wp2_with (refine wpList_load_row rfl 30 _ rfl g rfl 30 V (0, 0) _ HRow.out Try.underlying30 rfl HSz.out ?_)
  refine (H16.out _ HI.out).mono ?_
  rintro e w1 ⟨r1, rfl, hb1⟩
  have HB1 := hide (HB.out.trans (hb1.mono (by have := HB.out.size; omega)))
  have HI1 := hide (HI.out.below3 hb1)
  have HRow1 : Hid (w1.heap[g]? = some (.cells V 30 (0, 0))) := (hb1.block g HGW.out).trans HRow.out
  have HG1 : Hid (g < w1.heap.size) := Nat.lt_of_lt_of_le HGW.out hb1.size
  clear hb1 HI HB HRow H16 HGW
  cases r1
  · go_wp2_with fail
    go_ret
    exact ⟨rfl, HB1.out⟩
  go_wp2_with (refine wpList_load_row rfl 30 _ rfl g rfl 30 V (0, 0) _ HRow1.out Try.underlying30 rfl HSz.out ?_)
  refine (H6.out _ HI1.out).mono ?_
  rintro e w2 ⟨r2, rfl, hb2, hbd⟩
  have HB2 := hide (HB1.out.trans (hb2.mono (by have := HB1.out.size; omega)))
  have HI2 := hide (HI1.out.below3 hb2)
  have HRow2 : Hid (w2.heap[g]? = some (.cells V 30 (0, 0))) := (hb2.block g HG1.out).trans HRow1.out
  have HG2 : Hid (g < w2.heap.size) := Nat.lt_of_lt_of_le HG1.out hb2.size
  have HBd := hide hbd
  clear hb2 hbd HI1 HB1 HRow1 H6 HG1
  clear w1
  cases r2
  case true =>
    go_wp2_with fail
    go_ret
    exact ⟨rfl, HB2.out⟩
  have hbd := HBd.out rfl
  have HEs : Hid (L 5 = E.nv → Es E) := fun e5 => ⟨hbd.1, by rw [← HI2.out.e1]; exact hbd.2.1, by rw [← e5]; exact hbd.2.2.1, fun c hc => hbd.2.2.2.2.1 c (by rw [HI2.out.e1]; exact hc), by rw [← HI2.out.e16]; exact hbd.2.2.2.1, fun l hl => hbd.2.2.2.2.2 l (by rw [HI2.out.e16]; exact hl)⟩
  have HES : Hid (Es E) := HEs.out HI2.out.e5
  clear hbd HBd HEs
  go_wp2_with (refine wpList_load_row rfl 30 _ rfl g rfl 30 V (0, 0) _ HRow2.out Try.underlying30 rfl HSz.out ?_)
  by_cases hL : LenOk L E.n
  case neg =>
    refine (HBad.out w2 hL).mono ?_
    rintro e w3 ⟨rfl, hb3⟩
    have HB3 := hide (HB2.out.trans (hb3.mono (by have := HB2.out.size; omega)))
    clear hb3
    go_wp2_with fail
    go_ret
    exact ⟨rfl, HB3.out⟩
  have hVe := HVs.out hL
  have h7 := HGood.out w2 HI2.out hL HES.out
  rw [← hVe] at h7
  refine h7.mono ?_
  rintro e w3 ⟨r3, rfl, hb3, hiff⟩
  have HB3 := hide (HB2.out.trans (hb3.mono (by have := HB2.out.size; omega)))
  have HI3 := hide (HI2.out.below3 hb3)
  have HRow3 : Hid (w3.heap[g]? = some (.cells V 30 (0, 0))) := (hb3.block g HG2.out).trans HRow2.out
  have HG3 : Hid (g < w3.heap.size) := Nat.lt_of_lt_of_le HG2.out hb3.size
  have HIff := hide hiff
  have HL := hide hL
  have HVE := hide hVe
  clear hb3 hiff h7 hVe hL HI2 HB2 HRow2 HG2 HBad HGood HVs
  clear w2
  cases r3
  · go_wp2_with fail
    go_ret
    exact ⟨rfl, HB3.out⟩
  have HH : Hid (Holds E D zmix) := HIff.out.1 rfl
  clear HIff
  go_wp2_with (refine wpList_load_row rfl 30 _ rfl g rfl 30 V (0, 0) _ HRow3.out Try.underlying30 rfl HSz.out ?_)
  have h8 := H8.out w3 HI3.out HL.out HES.out HH.out
  rw [← HVE.out] at h8
  refine h8.mono ?_
  rintro e w8 ⟨r8, rfl, hb8, hprem⟩
  have HB8 := hide (HB3.out.trans (hb8.mono (by have := HB3.out.size; omega)))
  have HI8 := hide (HI3.out.below3 hb8)
  have HRow8 : Hid (w8.heap[g]? = some (.cells V 30 (0, 0))) := (hb8.block g HG3.out).trans HRow3.out
  have HG8 : Hid (g < w8.heap.size) := Nat.lt_of_lt_of_le HG3.out hb8.size
  have HPrem := hide hprem
  clear hb8 hprem h8 HI3 HB3 HRow3 HG3 H8
  clear w3
  cases r8
  · go_wp2_with fail
    go_ret
    exact ⟨rfl, HB8.out⟩
  have HPm : Hid (Prem E D cc p) := HPrem.out rfl
  clear HPrem
  obtain ⟨c0, rfl⟩ : ∃ c : Nat, cc = (c : Int) := by obtain ⟨c, e, _⟩ := HPm.out; exact ⟨c, e⟩
  obtain ⟨w3, hw83⟩ : ∃ w3, w8 = w3 := ⟨_, rfl⟩
  subst hw83
  have HB3 := hide HB8.out
  have HI3 := hide HI8.out
  have HRow3 : Hid (w8.heap[g]? = some (.cells V 30 (0, 0))) := HRow8.out
  have HG3 : Hid (g < w8.heap.size) := HG8.out
  clear HB8 HI8 HRow8 HG8
  go_wp2_with (refine wpList_load_row rfl 30 _ rfl g rfl 30 V (0, 0) _ HRow3.out Try.underlying30 rfl HSz.out ?_)
  have h9 := f9_to (HI3.out.rd HL.out HES.out) (fun i h1 h2 h3 hA => by rw [← HI3.out.len HL.out h1 h2 h3]; exact (HI3.out.row i h1 h2 h3).1 hA) (fun c hc => (HI3.out.chn c hc).1) (fun l hl => (HI3.out.lvl l hl).1)
  rw [← HVE.out] at h9
  refine h9.mono ?_
  rintro e w4 ⟨τ, T1, rfl, hT1, hb4, hz0, hz1, hO⟩
  clear h9
  obtain ⟨g5, hg5⟩ : ∃ g5, w4.heap.size = g5 := ⟨_, rfl⟩
  have hrz : (w4.alloc (.cells #[.int .i32 0, .slice none 0 0, .slice none 0 0, .int .i64 0, .slice none 0 0, .slice none 0 0, .slice none 0 0, .slice none 0 0, .slice none 0 0, .slice none 0 0, .slice none 0 0, .slice none 0 0, .slice none 0 0, .slice none 0 0, .slice none 0 0, .slice none 0 0, .slice none 0 0, .int .u64 0, .int .u64 0] 30)).heap[g5]? = some (.cells #[.int .i32 0, .slice none 0 0, .slice none 0 0, .int .i64 0, .slice none 0 0, .slice none 0 0, .slice none 0 0, .slice none 0 0, .slice none 0 0, .slice none 0 0, .slice none 0 0, .slice none 0 0, .slice none 0 0, .slice none 0 0, .slice none 0 0, .slice none 0 0, .slice none 0 0, .int .u64 0, .int .u64 0] 30 (0, 0)) := by rw [← hg5]; exact heap_alloc_new w4 _
  have hone1 : (sval T1 E D).all (·.oneCell') = true := sval_one T1 E D
  have hsz1 : (Try.prog.info? 30).map (·.size) = some (sval T1 E D).size := Try.info30'
  have hold1 : (#[.int .i32 0, .slice none 0 0, .slice none 0 0, .int .i64 0, .slice none 0 0, .slice none 0 0, .slice none 0 0, .slice none 0 0, .slice none 0 0, .slice none 0 0, .slice none 0 0, .slice none 0 0, .slice none 0 0, .slice none 0 0, .slice none 0 0, .slice none 0 0, .slice none 0 0, .int .u64 0, .int .u64 0] : Array Value).size = (sval T1 E D).size := rfl
  have hb45 : Below w4.heap.size w4 ((w4.alloc (.cells #[.int .i32 0, .slice none 0 0, .slice none 0 0, .int .i64 0, .slice none 0 0, .slice none 0 0, .slice none 0 0, .slice none 0 0, .slice none 0 0, .slice none 0 0, .slice none 0 0, .slice none 0 0, .slice none 0 0, .slice none 0 0, .slice none 0 0, .slice none 0 0, .slice none 0 0, .int .u64 0, .int .u64 0] 30)).setRow g5 (sval T1 E D)) := by
    refine ⟨rfl, rfl, rfl, by simp, fun k hk => ?_⟩
    rw [setRow_other _ _ _ _ (by omega)]
    exact Below.heap_alloc w4 _ k hk
  have hr5 : ((w4.alloc (.cells #[.int .i32 0, .slice none 0 0, .slice none 0 0, .int .i64 0, .slice none 0 0, .slice none 0 0, .slice none 0 0, .slice none 0 0, .slice none 0 0, .slice none 0 0, .slice none 0 0, .slice none 0 0, .slice none 0 0, .slice none 0 0, .slice none 0 0, .slice none 0 0, .slice none 0 0, .int .u64 0, .int .u64 0] 30)).setRow g5 (sval T1 E D)).heap[g5]? = some (.cells (sval T1 E D) 30 (0, 0)) := setRow_heap _ _ _ _ _ _ hrz
  have hs5 : ((w4.alloc (.cells #[.int .i32 0, .slice none 0 0, .slice none 0 0, .int .i64 0, .slice none 0 0, .slice none 0 0, .slice none 0 0, .slice none 0 0, .slice none 0 0, .slice none 0 0, .slice none 0 0, .slice none 0 0, .slice none 0 0, .slice none 0 0, .slice none 0 0, .slice none 0 0, .slice none 0 0, .int .u64 0, .int .u64 0] 30)).setRow g5 (sval T1 E D)).heap.size = g5 + 1 := by rw [← hg5]; simp
  obtain ⟨W5, hW5⟩ : ∃ W5, (w4.alloc (.cells #[.int .i32 0, .slice none 0 0, .slice none 0 0, .int .i64 0, .slice none 0 0, .slice none 0 0, .slice none 0 0, .slice none 0 0, .slice none 0 0, .slice none 0 0, .slice none 0 0, .slice none 0 0, .slice none 0 0, .slice none 0 0, .slice none 0 0, .slice none 0 0, .slice none 0 0, .int .u64 0, .int .u64 0] 30)).setRow g5 (sval T1 E D) = W5 := ⟨_, rfl⟩
  rw [hW5] at hb45 hr5 hs5
  obtain ⟨V1, hV1⟩ : ∃ V1, sval T1 E D = V1 := ⟨_, rfl⟩
  have hc5 : ∀ w', Below W5.heap.size W5 w' → Sb w' g5 T1 E D := fun w' hb => Sb.of_row ((hb.block g5 (by omega)).trans hr5)
  have HS5 := hide hs5
  have Hr5 := hide hr5
  rw [hV1] at hW5 hone1 hsz1 hold1
  have HRZ := hide hrz
  have HOne := hide hone1
  have HSz1 := hide hsz1
  have HOld := hide hold1
  have HZ0 := hide hz0
  have HT5 := hide (hT1.below hb45)
  have HZ1 : Hid (∀ b, w4.heap.size ≤ b → τ b = 0) := hz1
  have HB34 := hide hb4
  have HB45 := hide hb45
  have HO := hide hO
  have HV1 := hide hV1
  have HC5 := hide hc5
  have HG5 := hide hg5
  have HI5 := hide ((HI3.out.below3 hb4).below3 hb45)
  have HB5 := hide ((HB3.out.trans (hb4.mono (by have := HB3.out.size; omega))).trans (hb45.mono (by have := HB3.out.size; have := hb4.size; omega)))
  have HRow5 : Hid (W5.heap[g]? = some (.cells V 30 (0, 0))) := (hb45.block g (Nat.lt_of_lt_of_le HG3.out hb4.size)).trans ((hb4.block g HG3.out).trans HRow3.out)
  clear hrz hone1 hsz1 hold1 hb45 hr5 hs5 hV1 hc5 hT1 hz0 hz1 hb4 hO HI3 HRow3 HB3
  rw [HV1.out]
  go_wp2_with (refine wpList_store_row rfl 30 _ _ rfl g5 V1 rfl rfl 30 #[.int .i32 0, .slice none 0 0, .slice none 0 0, .int .i64 0, .slice none 0 0, .slice none 0 0, .slice none 0 0, .slice none 0 0, .slice none 0 0, .slice none 0 0, .slice none 0 0, .slice none 0 0, .slice none 0 0, .slice none 0 0, .slice none 0 0, .slice none 0 0, .slice none 0 0, .int .u64 0, .int .u64 0] HRZ.out HSz1.out HOld.out HOne.out ?_)
  rw [hW5]
  have HK : Hid (∀ w9, Below W5.heap.size W5 w9 → w9.cell? ⟨g5, 0, none⟩ = some (.int .i32 E.only) ∧ w9.cell? ⟨g5, 1, none⟩ = some (.slice (T1.A 1) E.nc (T1.cap 1)) ∧ w9.cell? ⟨g5, 2, none⟩ = some (.slice (T1.A 2) E.nc (T1.cap 2)) ∧ w9.cell? ⟨g5, 3, none⟩ = some (.int .i64 D.toPlace) ∧ w9.cell? ⟨g5, 4, none⟩ = some (.slice (T1.A 4) E.n (T1.cap 4)) ∧ w9.cell? ⟨g5, 5, none⟩ = some (.slice (T1.A 5) E.nv (T1.cap 5)) ∧ w9.cell? ⟨g5, 6, none⟩ = some (.slice (T1.A 6) E.n (T1.cap 6)) ∧ w9.cell? ⟨g5, 7, none⟩ = some (.slice (T1.A 7) E.n (T1.cap 7)) ∧ w9.cell? ⟨g5, 8, none⟩ = some (.slice (T1.A 8) E.nv (T1.cap 8)) ∧ w9.cell? ⟨g5, 9, none⟩ = some (.slice (T1.A 9) E.nv (T1.cap 9)) ∧ w9.cell? ⟨g5, 10, none⟩ = some (.slice (T1.A 10) E.n (T1.cap 10)) ∧ w9.cell? ⟨g5, 11, none⟩ = some (.slice (T1.A 11) E.nv (T1.cap 11)) ∧ w9.cell? ⟨g5, 12, none⟩ = some (.slice (T1.A 12) E.nv (T1.cap 12)) ∧ w9.cell? ⟨g5, 13, none⟩ = some (.slice (T1.A 13) E.nc (T1.cap 13)) ∧ w9.cell? ⟨g5, 14, none⟩ = some (.slice (T1.A 14) E.nc (T1.cap 14)) ∧ w9.cell? ⟨g5, 15, none⟩ = some (.slice (T1.A 15) E.nc (T1.cap 15)) ∧ w9.cell? ⟨g5, 16, none⟩ = some (.slice (T1.A 16) E.nl (T1.cap 16)) ∧ w9.cell? ⟨g5, 17, none⟩ = some (.int .u64 (E.seed : Nat)) ∧ w9.cell? ⟨g5, 18, none⟩ = some (.int .u64 (D.hash : Nat))) := fun w9 hb => ⟨HC5.out w9 hb 0 (by decide), HC5.out w9 hb 1 (by decide), HC5.out w9 hb 2 (by decide), HC5.out w9 hb 3 (by decide), HC5.out w9 hb 4 (by decide), HC5.out w9 hb 5 (by decide), HC5.out w9 hb 6 (by decide), HC5.out w9 hb 7 (by decide), HC5.out w9 hb 8 (by decide), HC5.out w9 hb 9 (by decide), HC5.out w9 hb 10 (by decide), HC5.out w9 hb 11 (by decide), HC5.out w9 hb 12 (by decide), HC5.out w9 hb 13 (by decide), HC5.out w9 hb 14 (by decide), HC5.out w9 hb 15 (by decide), HC5.out w9 hb 16 (by decide), HC5.out w9 hb 17 (by decide), HC5.out w9 hb 18 (by decide)⟩
  have H11 : Hid (∀ w9, Same W5 w9 → Calls Try.prog 11 #[.slice T.oA E.n T.oc] w9 (Post11 E W5)) := fun w9 hsm => by
    have hbs : Below W5.heap.size W5 w9 := ⟨hsm.os, hsm.tape, hsm.output, by rw [hsm.heap]; exact Nat.le_refl _, fun k _ => by rw [hsm.heap]⟩
    have hR := (HI5.out.below3 hbs).rd HL.out HES.out
    refine (f11_to hR).mono ?_
    rintro e w6 ⟨H, a, b, c, rfl, h1, h2, h3, h4, h5, h6⟩
    rw [hsm.heap] at h1 h2 h5
    exact ⟨H, a, b, c, rfl, hbs.trans h1, h2, h3, h4, h5, h6⟩
  go_region_held3 (fun w' => w'.cell? ⟨g5, 0, none⟩ = some (.int .i32 E.only) ∧ w'.cell? ⟨g5, 1, none⟩ = some (.slice (T1.A 1) E.nc (T1.cap 1)) ∧ w'.cell? ⟨g5, 2, none⟩ = some (.slice (T1.A 2) E.nc (T1.cap 2)) ∧ w'.cell? ⟨g5, 3, none⟩ = some (.int .i64 D.toPlace) ∧ w'.cell? ⟨g5, 4, none⟩ = some (.slice (T1.A 4) E.n (T1.cap 4)) ∧ w'.cell? ⟨g5, 5, none⟩ = some (.slice (T1.A 5) E.nv (T1.cap 5)) ∧ w'.cell? ⟨g5, 6, none⟩ = some (.slice (T1.A 6) E.n (T1.cap 6)) ∧ w'.cell? ⟨g5, 7, none⟩ = some (.slice (T1.A 7) E.n (T1.cap 7)) ∧ w'.cell? ⟨g5, 8, none⟩ = some (.slice (T1.A 8) E.nv (T1.cap 8)) ∧ w'.cell? ⟨g5, 9, none⟩ = some (.slice (T1.A 9) E.nv (T1.cap 9)) ∧ w'.cell? ⟨g5, 10, none⟩ = some (.slice (T1.A 10) E.n (T1.cap 10)) ∧ w'.cell? ⟨g5, 11, none⟩ = some (.slice (T1.A 11) E.nv (T1.cap 11)) ∧ w'.cell? ⟨g5, 12, none⟩ = some (.slice (T1.A 12) E.nv (T1.cap 12)) ∧ w'.cell? ⟨g5, 13, none⟩ = some (.slice (T1.A 13) E.nc (T1.cap 13)) ∧ w'.cell? ⟨g5, 14, none⟩ = some (.slice (T1.A 14) E.nc (T1.cap 14)) ∧ w'.cell? ⟨g5, 15, none⟩ = some (.slice (T1.A 15) E.nc (T1.cap 15)) ∧ w'.cell? ⟨g5, 16, none⟩ = some (.slice (T1.A 16) E.nl (T1.cap 16)) ∧ w'.cell? ⟨g5, 17, none⟩ = some (.int .u64 (E.seed : Nat)) ∧ w'.cell? ⟨g5, 18, none⟩ = some (.int .u64 (D.hash : Nat)))
    (first | exact HK.out _ hb57.out | exact HK.out _ hb56.out | exact HK.out _ ⟨rfl, rfl, rfl, Nat.le_refl _, fun _ _ => rfl⟩)
    (first
      | (go_at_call 11; refine (H11.out _ (by exact ⟨rfl, rfl, rfl, rfl⟩)).mono ?_; rintro e w6 ⟨H, oa, ob, oc, rfl, hb56', hH0, hH1, hHc, hon, hops⟩; have hb56 := hide hb56'; have HH0 := hide hH0; have HH1 := hide hH1; have HHc := hide hHc; have Hon := hide hon; have Hops := hide hops; clear hb56' hH0 hH1 hHc hon hops)
      | (go_at_call 10; refine (f10_to T1 E H D.toPlace D.hash _).mono ?_; rintro e w7 ⟨vv, rfl, hb67', hs7, hX, hXV⟩; have hb57 : Hid (Below W5.heap.size W5 w7) := hide (hb56.out.trans (hb67'.mono hb56.out.size)); have hb67 := hide hb67'; have Hs7 := hide hs7; have HX := hide hX; have HXV := hide hXV; clear hb67' hs7 hX hXV))
  go_step
  go_step
  obtain ⟨τ2, hInv, hτ2⟩ := Inv.start HT5.out (fun b hb => HZ1.out b (by have := HS5.out; have := HG5.out; omega)) hb56.out HH0.out HH1.out HHc.out Hon.out Hops.out hb67.out Hs7.out HX.out HXV.out HH.out (Sz.of HI0.out HES.out) (HI0.out.rg HL.out).kr
  have s5 := HS5.out
  have g5e := HG5.out
  have s57 := hb57.out.size
  have s34 := HB34.out.size
  have gw3 := HG3.out
  have sw5 := HB5.out.size
  have sw := HG.out
  have hM : Md w g g5 τ2 w7 w6.heap.size H T { T1 with oA := oa, ob := ob, oo := 0, oc := oc } L E D := {
    inp := HI0.out, len := HL.out, es := HES.out
    hb := HB5.out.trans (hb57.out.mono sw5)
    inv := hInv
    t0 := fun b hb => (hτ2 b (by omega)).trans (HZ0.out b (by omega))
    tg := (hτ2 g (by omega)).trans (HZ0.out g gw3)
    tg5 := (hτ2 g5 (by omega)).trans (HZ1.out g5 (by omega))
    lg := by omega
    lg5 := by omega
    l0 := by omega
    ne := by omega
    sb := Sb.of_row ((hb57.out.block g (by omega)).trans (HVE.out ▸ HRow5.out))
    tb := (hb57.out.block g5 (by omega)).trans Hr5.out
    o := HO.out }
  refine tail3 hM HPm.out ?_ ?_ ?_ ?_ ?_ ?_ ?_ (by kernel_rfl) ?_
  iterate 7 · rfl
  intro a f w' hD hV h4 hb
  exact ret_f (N := 179) (s := 8) rfl hD hV (by omega) ⟨by rw [h4], hb⟩
end Go.Proofs.Qxb6616080a

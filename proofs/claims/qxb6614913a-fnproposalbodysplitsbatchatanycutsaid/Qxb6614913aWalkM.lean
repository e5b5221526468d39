import Derived.Test.Qxb6614913aWalkL
namespace Go.Proofs.Qxb6614913a
open Go.RowKit
set_option linter.unusedVariables false
set_option linter.unusedSimpArgs false

/-- The entries that came in, in memory. -/
structure PIn (W : World) (b off : Nat) (Ps : List PEnt) : Prop where
  cell : ∀ i (h : i < Ps.length) j, j < 17 → W.cell? ⟨b, off + i * 17 + j, none⟩ = Ps[i].vals[j]?
  inW : ∀ p ∈ Ps, p.inW W

set_option maxHeartbeats 16000000 in
set_option maxRecDepth 100000 in
theorem f7_to (b off n c : Nat) (Ps : List PEnt) (W : World) (hn : n ≤ 1048576) (hl : Ps.length = n) (hP : PIn W b off Ps) :
    Calls Try.prog 7 #[.slice (some ⟨b, off, none⟩) n c] W fun e w' => ∃ g, e = .returned (.slice (some ⟨g, 0, none⟩) n n) ∧ W.grownBy w' none ∧ BatAt w'.heap.size w' g 0 (Ps.map PEnt.ent) := by
  have HP : Hid (PIn W b off Ps) := hP
  clear hP
  obtain ⟨z, hmk⟩ := mk28 n hn
  go_enter Try.func7, Try.ntmps7
  go_wp2
  clear hmk
  have hst := Conv.start W n Ps z
  obtain ⟨g, hgg⟩ : ∃ g, W.heap.size = g := ⟨_, rfl⟩
  rw [hgg] at hst ⊢
  clear hgg
  have HST : Hid (Conv W g n Ps 0 (W.alloc (.cells (madeCells z (n * 8)) 41))) := hst
  clear hst
  go_loopw [4, 5] (fun s4 s5 wr => ∃ k : Nat, k ≤ n ∧ s4 = .int .i64 k ∧ Conv W g n Ps k wr) (fun s4 s5 wr => n - (intOf s4).toNat)
  case atStart => exact ⟨0, by omega, rfl, HST.out⟩
  case round =>
    obtain ⟨k, hk, rfl, hconv⟩ := hrel
    have HCV : Hid (Conv W g n Ps k wr) := hconv
    by_cases hkn : k < n
    · have hkP : k < Ps.length := by omega
      obtain ⟨p, hp⟩ : ∃ p : PEnt, Ps[k] = p := ⟨_, rfl⟩
      have hcell : ∀ j, j < 17 → wr.cell? ⟨b, off + k * 17 + j, none⟩ = p.vals[j]? := fun j hj => by
        have h := HP.out.cell k hkP j hj
        rw [hp] at h
        rw [← h]
        have hj' : j < p.vals.size := hj
        exact World.cell?_of_block (hconv.grown.block b (World.block_lt_of_cell? W ⟨b, off + k * 17 + j, none⟩ (u := p.vals[j]) (h.trans (Array.getElem?_eq_getElem hj'))) (by simp))
      have c0 : wr.cell? ⟨b, off + k * 17, none⟩ = some (.string p.frm) := hcell 0 (by omega)
      have c1 : wr.cell? ⟨b, off + k * 17 + 1, none⟩ = some (.int .u64 p.seq) := hcell 1 (by omega)
      have c2 : wr.cell? ⟨b, off + k * 17 + 2, none⟩ = some (.slice p.da p.dn p.dc) := hcell 2 (by omega)
      have c3 : wr.cell? ⟨b, off + k * 17 + 3, none⟩ = some (.bool p.hc) := hcell 3 (by omega)
      have c4 : wr.cell? ⟨b, off + k * 17 + 4, none⟩ = some (.bool p.join) := hcell 4 (by omega)
      have c5 : wr.cell? ⟨b, off + k * 17 + 5, none⟩ = some (.string p.name) := hcell 5 (by omega)
      have c6 : wr.cell? ⟨b, off + k * 17 + 6, none⟩ = some (.string p.addr) := hcell 6 (by omega)
      have c7 : wr.cell? ⟨b, off + k * 17 + 7, none⟩ = some (.bool p.hf) := hcell 7 (by omega)
      have c8 : wr.cell? ⟨b, off + k * 17 + 8, none⟩ = some (.slice p.sa p.sn p.sc) := hcell 8 (by omega)
      have c9 : wr.cell? ⟨b, off + k * 17 + 9, none⟩ = some (.bool p.hs) := hcell 9 (by omega)
      have c10 : wr.cell? ⟨b, off + k * 17 + 10, none⟩ = some (.bool p.read) := hcell 10 (by omega)
      have c11 : wr.cell? ⟨b, off + k * 17 + 11, none⟩ = some (.string p.elem) := hcell 11 (by omega)
      have c12 : wr.cell? ⟨b, off + k * 17 + 12, none⟩ = some (.bool p.remove) := hcell 12 (by omega)
      have c13 : wr.cell? ⟨b, off + k * 17 + 13, none⟩ = some (.bool p.same) := hcell 13 (by omega)
      have c14 : wr.cell? ⟨b, off + k * 17 + 14, none⟩ = some (.int .u64 p.at_) := hcell 14 (by omega)
      have c15 : wr.cell? ⟨b, off + k * 17 + 15, none⟩ = some (.bool p.spread) := hcell 15 (by omega)
      have c16 : wr.cell? ⟨b, off + k * 17 + 16, none⟩ = some (.bool p.ref) := hcell 16 (by omega)
      have hpin : p.inW W := HP.out.inW p (hp ▸ List.getElem_mem hkP)
      have HPE : Hid (Ps[k] = p) := hp
      have HPIN : Hid (p.inW W) := hpin
      clear hp hcell hconv hpin
      go_wp2
      clear c0 c1 c2 c3 c4 c5 c6 c7 c8 c9 c10 c11 c12 c13 c14 c15 c16
      obtain ⟨W1, hW1⟩ : ∃ W1, wr.alloc (.cells #[.string p.frm, .int .u64 p.seq, .slice p.da p.dn p.dc, .bool p.hc, .bool p.join, .string p.name, .string p.addr, .bool p.hf, .slice p.sa p.sn p.sc, .bool p.hs, .bool p.read, .string p.elem, .bool p.remove, .bool p.same, .int .u64 p.at_, .bool p.spread, .bool p.ref] 36) = W1 := ⟨_, rfl⟩
      have hgr1 : wr.grownBy W1 none := hW1 ▸ World.grownBy_alloc _ _ _
      rw [hW1]
      have hbx : ∀ j, W1.cell? ⟨wr.heap.size, j, none⟩ = #[.string p.frm, .int .u64 p.seq, .slice p.da p.dn p.dc, .bool p.hc, .bool p.join, .string p.name, .string p.addr, .bool p.hf, .slice p.sa p.sn p.sc, .bool p.hs, .bool p.read, .string p.elem, .bool p.remove, .bool p.same, .int .u64 p.at_, .bool p.spread, .bool p.ref][j]? := fun j => by rw [← hW1]; exact World.cell?_alloc_new _ _ _ _
      have hne : g ≠ wr.heap.size := by have := HCV.out.lt; omega
      obtain ⟨eb, heb⟩ : ∃ eb, wr.heap.size = eb := ⟨_, rfl⟩
      rw [heb] at hbx hne ⊢
      have HGR1 : Hid (wr.grownBy W1 none) := hgr1
      clear hW1 heb hgr1
      have HNE : Hid (g ≠ eb) := hne
      clear hne
      have hsame : ∀ w', W1.grownBy w' (some g) → Same W.heap.size W w' := fun w' hw' i hi => by
        have h1 := HCV.out.grown.size
        have h2 := HGR1.out.size
        have h3 := HCV.out.gs
        exact (hw'.block i (by omega) (by simp; omega)).trans ((HGR1.out.block i (by omega) (by simp)).trans (HCV.out.grown.block i hi (by simp)))
      have HB : Hid (∀ w', W1.grownBy w' (some g) → SliB w' p.da p.dn p.dc p.data) := fun w' hw' => HPIN.out.d.same (hsame w' hw')
      have HU : Hid (∀ w', W1.grownBy w' (some g) → SliU w' p.sa p.sn p.sc p.stable) := fun w' hw' => HPIN.out.u.same (hsame w' hw')
      have HDL : Hid (p.data.length ≤ 1048576) := HPIN.out.dl
      have HUL : Hid (p.stable.length ≤ 1048576) := HPIN.out.ul
      clear hsame
      have HROW : Hid (∀ w', W1.grownBy w' none → ∃ cur, w'.heap[g]? = some (.cells cur 41 (0, 0)) ∧ cur.size = n * 8) := fun w' hw' => by
        obtain ⟨cur, hcur, hsz⟩ := HCV.out.row
        have h1 := HCV.out.lt
        have h2 := HGR1.out.size
        exact ⟨cur, (hw'.block g (by omega) (by simp)).trans ((HGR1.out.block g h1 (by simp)).trans hcur), hsz⟩
      have HOUT : Hid (∀ w', W1.grownBy w' none → ∀ j, j < 8 → ∃ v, w'.cell? ⟨g, k * 8 + j, none⟩ = some v ∧ w'.frozen? ⟨g, k * 8 + j, none⟩ = false) := fun w' hw' j hj => by
        obtain ⟨cur, hcur, hsz⟩ := HROW.out w' hw'
        have hlt : k * 8 + j < cur.size := by omega
        exact ⟨cur[k * 8 + j], by rw [cellRow hcur]; exact Array.getElem?_eq_getElem hlt, frozen_of_row _ _ _ _ _ hcur⟩
      have HS0 : Hid (W1.grownBy W1.drew (some g) ∧ W1.drew.cell? ⟨eb, 0, none⟩ = some (.string p.frm) ∧ W1.drew.cell? ⟨eb, 1, none⟩ = some (.int .u64 p.seq) ∧ W1.drew.cell? ⟨eb, 2, none⟩ = some (.slice p.da p.dn p.dc) ∧ W1.drew.cell? ⟨eb, 3, none⟩ = some (.bool p.hc) ∧ W1.drew.cell? ⟨eb, 4, none⟩ = some (.bool p.join) ∧ W1.drew.cell? ⟨eb, 5, none⟩ = some (.string p.name) ∧ W1.drew.cell? ⟨eb, 6, none⟩ = some (.string p.addr) ∧ W1.drew.cell? ⟨eb, 7, none⟩ = some (.bool p.hf) ∧ W1.drew.cell? ⟨eb, 8, none⟩ = some (.slice p.sa p.sn p.sc) ∧ W1.drew.cell? ⟨eb, 9, none⟩ = some (.bool p.hs) ∧ W1.drew.cell? ⟨eb, 10, none⟩ = some (.bool p.read) ∧ W1.drew.cell? ⟨eb, 11, none⟩ = some (.string p.elem) ∧ W1.drew.cell? ⟨eb, 12, none⟩ = some (.bool p.remove) ∧ W1.drew.cell? ⟨eb, 13, none⟩ = some (.bool p.same) ∧ W1.drew.cell? ⟨eb, 14, none⟩ = some (.int .u64 p.at_) ∧ W1.drew.cell? ⟨eb, 15, none⟩ = some (.bool p.spread) ∧ W1.drew.cell? ⟨eb, 16, none⟩ = some (.bool p.ref)) := sreg_start hbx
      have HG0 : Hid (W1.grownBy W1.drew none) := grownBy_drewN W1 1 none
      clear hbx
      have hk0 : (0 : Int) ≤ (k : Int) := Int.natCast_nonneg _
      have hk1 : (k : Int) < (n : Int) := by omega
      go_region_held3 (fun w' => W1.grownBy w' (some g) ∧ w'.cell? ⟨eb, 0, none⟩ = some (.string p.frm) ∧ w'.cell? ⟨eb, 1, none⟩ = some (.int .u64 p.seq) ∧ w'.cell? ⟨eb, 2, none⟩ = some (.slice p.da p.dn p.dc) ∧ w'.cell? ⟨eb, 3, none⟩ = some (.bool p.hc) ∧ w'.cell? ⟨eb, 4, none⟩ = some (.bool p.join) ∧ w'.cell? ⟨eb, 5, none⟩ = some (.string p.name) ∧ w'.cell? ⟨eb, 6, none⟩ = some (.string p.addr) ∧ w'.cell? ⟨eb, 7, none⟩ = some (.bool p.hf) ∧ w'.cell? ⟨eb, 8, none⟩ = some (.slice p.sa p.sn p.sc) ∧ w'.cell? ⟨eb, 9, none⟩ = some (.bool p.hs) ∧ w'.cell? ⟨eb, 10, none⟩ = some (.bool p.read) ∧ w'.cell? ⟨eb, 11, none⟩ = some (.string p.elem) ∧ w'.cell? ⟨eb, 12, none⟩ = some (.bool p.remove) ∧ w'.cell? ⟨eb, 13, none⟩ = some (.bool p.same) ∧ w'.cell? ⟨eb, 14, none⟩ = some (.int .u64 p.at_) ∧ w'.cell? ⟨eb, 15, none⟩ = some (.bool p.spread) ∧ w'.cell? ⟨eb, 16, none⟩ = some (.bool p.ref))
        (with_reducible (first | exact HS0.out | exact HSa.out | exact HSb.out | exact HSc.out | (refine sreg_set HNE.out _ _ ?_; refine sreg_set HNE.out _ _ ?_; refine sreg_set HNE.out _ _ ?_; refine sreg_set HNE.out _ _ ?_; refine sreg_set HNE.out _ _ ?_; refine sreg_set HNE.out _ _ ?_; refine sreg_set HNE.out _ _ ?_; refine sreg_set HNE.out _ _ ?_; exact HSc.out)))
        (first
          | (go_at_call 6; refine (f6_to _ _ _ p.data _ (HB.out _ HS0.out.1) HDL.out).mono ?_; rintro e wa ⟨da', dc', rfl, hga, hda⟩; have HSa := hide (sreg_step hga HS0.out); have HDA := hide hda; clear hda)
          | (go_at_call 12; refine (f12_to _ _ _ p.stable _ (HU.out _ HSa.out.1) HUL.out).mono ?_; rintro e wb ⟨sa', sc', rfl, hgb, hdb⟩; have HSb := hide (sreg_step hgb HSa.out); have HDB := hide hdb; clear hdb)
          | (go_at_call 11; refine (f11_any _ _ _ _ _ _ _ _ _ _ _ _ _ _ _ _ _ _ _ _ _ _).mono ?_; rintro e wc ⟨co, fo, so, rfl, hnew⟩; have hgc := hnew.grown; have HSc := hide (sreg_step hgc HSb.out); have hgall := grownBy_trans_none HG0.out (grownBy_trans_none hga (grownBy_trans_none hgb hgc)); have HNEW := hide hnew; clear hnew; obtain ⟨o0, ho0, fz0⟩ := HOUT.out wc hgall 0 (by omega); obtain ⟨o1, ho1, fz1⟩ := HOUT.out wc hgall 1 (by omega); obtain ⟨o2, ho2, fz2⟩ := HOUT.out wc hgall 2 (by omega); obtain ⟨o3, ho3, fz3⟩ := HOUT.out wc hgall 3 (by omega); obtain ⟨o4, ho4, fz4⟩ := HOUT.out wc hgall 4 (by omega); obtain ⟨o5, ho5, fz5⟩ := HOUT.out wc hgall 5 (by omega); obtain ⟨o6, ho6, fz6⟩ := HOUT.out wc hgall 6 (by omega); obtain ⟨o7, ho7, fz7⟩ := HOUT.out wc hgall 7 (by omega); simp only [Nat.add_zero] at ho0 fz0))
      have h8 := eight (HROW.out wc hgall) (o := k * 8) (by omega) (.string p.frm) (.int .u64 p.seq) (.slice da' p.dn dc') (.pointer co) (.pointer fo) (.pointer so) (.bool p.spread) (.bool p.ref)
      have H8 := hide (Conv.step HCV.out hkP HPE.out hl (grownBy_trans_none HGR1.out HG0.out) hga HDA.out hgb HDB.out HNEW.out h8)
      clear h8 HSa HSb HSc HS0 ho0 fz0 ho1 fz1 ho2 fz2 ho3 fz3 ho4 fz4 ho5 fz5 ho6 fz6 ho7 fz7 HOUT HROW
      go_wp2
      go_roundw
      case rel => exact ⟨k + 1, by omega, by simp, H8.out⟩
      case measure => simp [intOf]; omega
    · have hkn' : k = n := by omega
      subst hkn'
      have hb := hconv.bat hl
      have hg := hconv.grown
      clear HCV hconv
      have HBX := hide hb
      have HGX := hide hg
      clear hb hg
      go_wp2
      go_ret
      exact ⟨g, rfl, HGX.out, HBX.out⟩

set_option maxHeartbeats 4000000 in
theorem f7_nil (a : Option Addr) (c : Nat) (W : World) :
    Calls Try.prog 7 #[.slice a 0 c] W fun e w' => ∃ g, e = .returned (.slice (some ⟨g, 0, none⟩) 0 0) ∧ W.grownBy w' none ∧ BatAt w'.heap.size w' g 0 [] := by
  obtain ⟨z, hmk⟩ := mk28 0 (by omega)
  simp only [Nat.zero_mul, Int.ofNat_zero, Int.natCast_zero] at hmk
  go_enter Try.func7, Try.ntmps7
  go_wp2
  go_loopw [4, 5] (fun s4 s5 wr => s4 = .int .i64 0 ∧ wr = W.alloc (.cells (madeCells z 0) 41)) (fun s4 s5 wr => 0)
  case atStart => exact ⟨rfl, rfl⟩
  case round =>
    obtain ⟨rfl, rfl⟩ := hrel
    go_wp2
    go_ret
    exact ⟨_, rfl, World.grownBy_alloc _ _ _, by simp [World.size_alloc], fun i hi => absurd hi (by simp)⟩
end Go.Proofs.Qxb6614913a

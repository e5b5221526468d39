import Derived.Test.Qxb6614913aWalkM
namespace Go.Proofs.Qxb6614913a
open Go.RowKit
set_option linter.unusedVariables false
set_option linter.unusedSimpArgs false

/-- What the bound counts of an entry. -/
def PEnt.sz (p : PEnt) : Nat := p.frm.size + p.dn + p.name.size + p.addr.size + p.elem.size + 8 * p.sn
def szs : List PEnt → Nat
  | [] => 0
  | p :: r => p.sz + szs r
theorem szs_app (a b : List PEnt) : szs (a ++ b) = szs a + szs b := by
  induction a with
  | nil => simp [szs]
  | cons p r ih => simp [szs, ih]; omega
theorem szs_snoc (l : List PEnt) (k : Nat) (h : k < l.length) : szs (l.take (k + 1)) = szs (l.take k) + l[k].sz := by
  rw [← List.take_append_getElem h, szs_app]
  simp [szs]
theorem szs_mem {l : List PEnt} {p : PEnt} (h : p ∈ l) : p.sz ≤ szs l := by
  induction l with
  | nil => cases h
  | cons q r ih =>
    rcases List.mem_cons.1 h with rfl | h
    · simp [szs]
    · have := ih h
      simp [szs]
      omega
/-- The lengths are Go's own. -/
structure PEnt.len (p : PEnt) : Prop where
  f : p.frm.size ≤ maxLen
  d : p.dn ≤ maxLen
  n : p.name.size ≤ maxLen
  a : p.addr.size ≤ maxLen
  e : p.elem.size ≤ maxLen
  s : p.sn ≤ maxLen
/-- The entries' cells. -/
structure PCell (W : World) (b off : Nat) (Ps : List PEnt) : Prop where
  cell : ∀ i (h : i < Ps.length) j, j < 17 → W.cell? ⟨b, off + i * 17 + j, none⟩ = Ps[i].vals[j]?
  len : ∀ p ∈ Ps, p.len
theorem PCell.at {W wr : World} {b off : Nat} {Ps : List PEnt} (h : PCell W b off Ps) (hg : W.grownBy wr none) {k : Nat} (hk : k < Ps.length) {p : PEnt} (hp : Ps[k] = p) (j : Nat) (hj : j < 17) : wr.cell? ⟨b, off + k * 17 + j, none⟩ = p.vals[j]? := by
  have h := h.cell k hk j hj
  rw [hp] at h
  rw [← h]
  have hj' : j < p.vals.size := hj
  exact World.cell?_of_block (hg.block b (World.block_lt_of_cell? W ⟨b, off + k * 17 + j, none⟩ (u := p.vals[j]) (h.trans (Array.getElem?_eq_getElem hj'))) (by simp))

/-- k entries are counted. -/
structure Fits (W : World) (bn n : Nat) (Ps : List PEnt) (k t : Nat) (wr : World) : Prop where
  sum : t = bn + 128 * n + szs (Ps.take k)
  lim : t ≤ 1048576
  grown : W.grownBy wr none

set_option maxRecDepth 100000 in
set_option maxHeartbeats 16000000 in
theorem f5_some (ba : Option Addr) (bn bc : Nat) (b off n c : Nat) (Ps : List PEnt) (W : World) (hb : bn ≤ maxLen) (hn : n ≤ maxLen) (hl : Ps.length = n) (hP : PCell W b off Ps) :
    Calls Try.prog 5 #[.slice ba bn bc, .slice (some ⟨b, off, none⟩) n c] W fun e w' => ∃ r, e = .returned (.bool r) ∧ W.grownBy w' none ∧ (r = true → bn + 128 * n + szs Ps ≤ 1048576) := by
  have HP : Hid (PCell W b off Ps) := hP
  clear hP
  go_enter Try.func5, Try.ntmps5
  go_wp2
  · go_ret; exact ⟨false, rfl, World.grownBy.refl _ _, by simp⟩
  · go_ret; exact ⟨false, rfl, World.grownBy.refl _ _, by simp⟩
  go_loopw [5, 6, 7] (fun s5 s6 s7 wr => ∃ k t : Nat, k ≤ n ∧ s5 = .int .i64 t ∧ s6 = .int .i64 k ∧ Fits W bn n Ps k t wr) (fun s5 s6 s7 wr => n - (intOf s6).toNat)
  case atStart => exact ⟨0, bn + 128 * n, by omega, by simp, rfl, ⟨by simp [szs], by omega, World.grownBy.refl _ _⟩⟩
  case round =>
    obtain ⟨k, t, hk, rfl, rfl, hfit⟩ := hrel
    have HF : Hid (Fits W bn n Ps k t wr) := hfit
    have hlim := hfit.lim
    by_cases hkn : k < n
    · have hkP : k < Ps.length := by omega
      obtain ⟨p, hp⟩ : ∃ p : PEnt, Ps[k] = p := ⟨_, rfl⟩
      have hcell := HP.out.at hfit.grown hkP hp
      have c0 : wr.cell? ⟨b, off + k * 17, none⟩ = some (.string p.frm) := hcell 0 (by omega)
      have c1 : wr.cell? ⟨b, off + k * 17 + 1, none⟩ = some (.int .u64 p.seq) := hcell 1 (by omega)
      have c2 : wr.cell? ⟨b, off + k * 17 + 2, none⟩ = some (.slice p.da p.dn p.dc) := hcell 2 (by omega)
      have c3 : wr.cell? ⟨b, off + k * 17 + 3, none⟩ = some (.bool p.hc) := hcell 3 (by omega)
      have c4 : wr.cell? ⟨b, off + k * 17 + 4, none⟩ = some (.bool p.join) := hcell 4 (by omega)
      have c5 : wr.cell? ⟨b, off + k * 17 + 5, none⟩ = some (.string p.name) := hcell 5 (by omega)
      have c6 : wr.cell? ⟨b, off + k * 17 + 6, none⟩ = some (.string p.addr) := hcell 6 (by omega)
      have c7 : wr.cell? ⟨b, off + k * 17 + 7, none⟩ = some (.bool p.hf) := hcell 7 (by omega)
      have c8 : wr.cell? ⟨b, off + k * 17 + 8, none⟩ = some (.slice p.sa p.sn p.sc) := hcell 8 (by omega)
      have c9 : wr.cell? ⟨b, off + k * 17 + 9, none⟩ = some (.bool p.hs) := hcell 9 (by omega)
      have c10 : wr.cell? ⟨b, off + k * 17 + 10, none⟩ = some (.bool p.read) := hcell 10 (by omega)
      have c11 : wr.cell? ⟨b, off + k * 17 + 11, none⟩ = some (.string p.elem) := hcell 11 (by omega)
      have c12 : wr.cell? ⟨b, off + k * 17 + 12, none⟩ = some (.bool p.remove) := hcell 12 (by omega)
      have c13 : wr.cell? ⟨b, off + k * 17 + 13, none⟩ = some (.bool p.same) := hcell 13 (by omega)
      have c14 : wr.cell? ⟨b, off + k * 17 + 14, none⟩ = some (.int .u64 p.at_) := hcell 14 (by omega)
      have c15 : wr.cell? ⟨b, off + k * 17 + 15, none⟩ = some (.bool p.spread) := hcell 15 (by omega)
      have c16 : wr.cell? ⟨b, off + k * 17 + 16, none⟩ = some (.bool p.ref) := hcell 16 (by omega)
      have hlen : p.len := HP.out.len p (hp ▸ List.getElem_mem hkP)
      have l0 := hlen.f
      have l1 := hlen.d
      have l2 := hlen.n
      have l3 := hlen.a
      have l4 := hlen.e
      have l5 := hlen.s
      have HPE : Hid (Ps[k] = p) := hp
      clear hp hcell hfit hlen
      go_wp2
      iterate 6
        · go_ret; exact ⟨false, rfl, grownBy_alloc_of HF.out.grown _, by simp⟩
      go_roundw
      case rel =>
        refine ⟨k + 1, t + p.sz, by omega, by simp [PEnt.sz]; omega, by simp, ⟨?_, ?_, grownBy_alloc_of HF.out.grown _⟩⟩
        · rw [szs_snoc Ps k hkP, HPE.out, HF.out.sum]; omega
        · unfold PEnt.sz; omega
      case measure => simp [intOf]; omega
    · obtain rfl : k = n := by omega
      go_wp2
      go_ret
      refine ⟨true, rfl, hfit.grown, fun _ => ?_⟩
      have h1 := hfit.sum
      rw [List.take_of_length_le (by omega)] at h1
      omega

set_option maxRecDepth 100000 in
set_option maxHeartbeats 16000000 in
theorem f4_some (ba : Option Addr) (bn bc : Nat) (view m inst : Int) (b off n c : Nat) (kk : Int) (Ps : List PEnt) (W : World) (hb : bn ≤ maxLen) (hn : n ≤ maxLen) (hl : Ps.length = n) (hP : PCell W b off Ps) :
    Calls Try.prog 4 #[.slice ba bn bc, .int .u64 view, .int .u64 m, .int .u64 inst, .slice (some ⟨b, off, none⟩) n c, .int .i64 kk] W fun e w' => ∃ r, e = .returned (.bool r) ∧ w' = W := by
  have HP : Hid (PCell W b off Ps) := hP
  clear hP
  go_enter Try.func4, Try.ntmps4
  go_wp2
  · go_ret; exact ⟨false, rfl, rfl⟩
  · go_ret; exact ⟨false, rfl, rfl⟩
  · go_ret; exact ⟨false, rfl, rfl⟩
  go_loopw [13, 14] (fun s13 s14 wr => ∃ k t : Nat, k ≤ n ∧ s13 = .int .i64 t ∧ s14 = .int .i64 k ∧ t ≤ 1048576 ∧ wr = W) (fun s13 s14 wr => n - (intOf s14).toNat)
  case atStart => exact ⟨0, bn + n, by omega, by simp, rfl, by omega, rfl⟩
  case round =>
    obtain ⟨k, t, hk, rfl, rfl, hlim, hwr⟩ := hrel
    by_cases hkn : k < n
    · have hkP : k < Ps.length := by omega
      obtain ⟨p, hp⟩ : ∃ p : PEnt, Ps[k] = p := ⟨_, rfl⟩
      have hcell := HP.out.at (wr := wr) (by rw [hwr]; exact World.grownBy.refl _ _) hkP hp
      have c0 : wr.cell? ⟨b, off + k * 17, none⟩ = some (.string p.frm) := hcell 0 (by omega)
      have c2 : wr.cell? ⟨b, off + k * 17 + 2, none⟩ = some (.slice p.da p.dn p.dc) := hcell 2 (by omega)
      have c5 : wr.cell? ⟨b, off + k * 17 + 5, none⟩ = some (.string p.name) := hcell 5 (by omega)
      have c6 : wr.cell? ⟨b, off + k * 17 + 6, none⟩ = some (.string p.addr) := hcell 6 (by omega)
      have c8 : wr.cell? ⟨b, off + k * 17 + 8, none⟩ = some (.slice p.sa p.sn p.sc) := hcell 8 (by omega)
      have c11 : wr.cell? ⟨b, off + k * 17 + 11, none⟩ = some (.string p.elem) := hcell 11 (by omega)
      have hlen : p.len := HP.out.len p (hp ▸ List.getElem_mem hkP)
      have l0 := hlen.f
      have l1 := hlen.d
      have l2 := hlen.n
      have l3 := hlen.a
      have l4 := hlen.e
      have l5 := hlen.s
      have HW : Hid (wr = W) := hwr
      clear hp hcell hlen hwr
      go_wp2
      iterate 12
        · go_ret; exact ⟨false, rfl, HW.out⟩
      go_roundw
      case rel => exact ⟨k + 1, t + p.frm.size + p.dn + p.name.size + p.addr.size + p.sn + p.elem.size, by omega, by simp, by simp, by omega, HW.out⟩
      case measure => simp [intOf]; omega
    · obtain rfl : k = n := by omega
      go_wp2
      go_ret
      exact ⟨true, rfl, rfl⟩

set_option maxHeartbeats 4000000 in
theorem f5_nil (ba : Option Addr) (bn bc : Nat) (a : Option Addr) (c : Nat) (W : World) (hb : bn ≤ maxLen) :
    Calls Try.prog 5 #[.slice ba bn bc, .slice a 0 c] W fun e w' => ∃ r, e = .returned (.bool r) ∧ W.grownBy w' none ∧ (r = true → bn ≤ 1048576) := by
  go_enter Try.func5, Try.ntmps5
  go_wp2
  · go_ret; exact ⟨false, rfl, World.grownBy.refl _ _, by simp⟩
  go_loopw [5, 6, 7] (fun s5 s6 s7 wr => s6 = .int .i64 0 ∧ wr = W) (fun s5 s6 s7 wr => 0)
  case atStart => exact ⟨rfl, rfl⟩
  case round =>
    obtain ⟨rfl, rfl⟩ := hrel
    go_wp2
    go_ret
    exact ⟨true, rfl, World.grownBy.refl _ _, fun _ => by omega⟩
set_option maxHeartbeats 4000000 in
theorem f4_nil (ba : Option Addr) (bn bc : Nat) (view m inst : Int) (a : Option Addr) (c : Nat) (kk : Int) (W : World) (hb : bn ≤ maxLen) :
    Calls Try.prog 4 #[.slice ba bn bc, .int .u64 view, .int .u64 m, .int .u64 inst, .slice a 0 c, .int .i64 kk] W fun e w' => ∃ r, e = .returned (.bool r) ∧ w' = W := by
  go_enter Try.func4, Try.ntmps4
  go_wp2
  · go_ret; exact ⟨false, rfl, rfl⟩
  go_loopw [13, 14] (fun s13 s14 wr => s14 = .int .i64 0 ∧ wr = W) (fun s13 s14 wr => 0)
  case atStart => exact ⟨rfl, rfl⟩
  case round =>
    obtain ⟨rfl, rfl⟩ := hrel
    go_wp2
    go_ret
    exact ⟨true, rfl, rfl⟩
end Go.Proofs.Qxb6614913a

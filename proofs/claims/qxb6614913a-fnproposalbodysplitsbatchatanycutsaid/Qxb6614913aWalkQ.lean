import Derived.Test.Qxb6614913aWalkP
import Derived.ProofKit
import Derived.OpenShut
import Derived.ShutString
import Derived.ChangeOld
import Derived.Below
import Derived.Deep.Fields
import Derived.Deep.Slices
namespace Go.Proofs.Qxb6614913a
open Go.RowKit Go.ChangeShapes Go.WideShapes
set_option linter.unusedVariables false
set_option linter.unusedSimpArgs false

/-- What the reading of an entry gives. -/
structure PEnt.full (p : PEnt) (w : World) : Prop where
  d : SliB w p.da p.dn p.dc p.data
  u : SliU w p.sa p.sn p.sc p.stable
  len : p.len
  s0 : 0 ≤ p.seq
  s1 : p.seq < 18446744073709551616
  a0 : 0 ≤ p.at_
  a1 : p.at_ < 18446744073709551616
  us : ∀ n ∈ p.stable, 0 ≤ n ∧ n < 18446744073709551616

theorem wf_u64 {n : Int} (h : (Lit.int .u64 n).wf = true) : 0 ≤ n ∧ n < 18446744073709551616 := by
  have h' : (decide (IntKind.u64.min ≤ n) && decide (n ≤ IntKind.u64.max)) = true := h
  simp only [Bool.and_eq_true, decide_eq_true_eq] at h'
  have e1 : IntKind.u64.min = 0 := by decide
  have e2 : IntKind.u64.max = 18446744073709551615 := by decide
  omega
theorem wf_u8 {n : Int} (h : (Lit.int .u8 n).wf = true) : 0 ≤ n ∧ n < 256 := by
  have h' : (decide (IntKind.u8.min ≤ n) && decide (n ≤ IntKind.u8.max)) = true := h
  simp only [Bool.and_eq_true, decide_eq_true_eq] at h'
  have e1 : IntKind.u8.min = 0 := by decide
  have e2 : IntKind.u8.max = 255 := by decide
  omega

section
variable {H : Type} {enc : TypeId × Value → H} {P : Program} {w : World} {base : Nat} {spare : Nat → Bool} {held : Bool}

theorem open_bytes {t e : TypeId} {fuel : Nat} {v : Value} {x : DataW H × List MemPlace} (ht : P.underlying t = some (.slice e)) (he : P.underlying e = some (.int .u8)) (hc : P.cellsOf e = 1)
    (h : DataW.trod enc P w base spare held fuel t [v] = some x) : ∃ da dn dc, ∃ s : List UInt8, v = .slice da dn dc ∧ SliB w da dn dc s ∧ dn ≤ maxLen := by
  rcases open_ints ht he hc h with ⟨hcs, _⟩ | ⟨a, l, c, zs, hcs, _, hl, hm, hz, _, hcell, hwz⟩
  · simp at hcs
    exact ⟨none, 0, 0, [], hcs, ⟨rfl, .inl ⟨rfl, rfl, rfl⟩⟩, Nat.zero_le _⟩
  · simp at hcs
    have hlz : l ≤ zs.length := by rw [hz]; split <;> omega
    refine ⟨some a, l, c, (zs.take l).map (fun z => UInt8.ofNat z.toNat), hcs, ⟨by simp; omega, .inr ⟨a, rfl, fun i hi => ?_⟩⟩, by omega⟩
    rw [hcell i (by omega)]
    have hiz : i < zs.length := by omega
    have hr := wf_u8 (hwz zs[i] (List.getElem_mem hiz))
    have e1 : zs.getD i 0 = zs[i] := by simp [List.getD, hiz]
    have e2 : ((zs.take l).map (fun z => UInt8.ofNat z.toNat)).getD i 0 = UInt8.ofNat zs[i].toNat := by simp [List.getD, hiz, hi]
    rw [e1, e2]
    congr 2
    simp
    omega
theorem open_u64s {t e : TypeId} {fuel : Nat} {v : Value} {x : DataW H × List MemPlace} (ht : P.underlying t = some (.slice e)) (he : P.underlying e = some (.int .u64)) (hc : P.cellsOf e = 1)
    (h : DataW.trod enc P w base spare held fuel t [v] = some x) : ∃ da dn dc, ∃ s : List Int, v = .slice da dn dc ∧ SliU w da dn dc s ∧ dn ≤ maxLen ∧ ∀ n ∈ s, 0 ≤ n ∧ n < 18446744073709551616 := by
  rcases open_ints ht he hc h with ⟨hcs, _⟩ | ⟨a, l, c, zs, hcs, _, hl, hm, hz, _, hcell, hwz⟩
  · simp at hcs
    exact ⟨none, 0, 0, [], hcs, ⟨rfl, .inl ⟨rfl, rfl, rfl⟩⟩, Nat.zero_le _, fun n hn => by cases hn⟩
  · simp at hcs
    have hlz : l ≤ zs.length := by rw [hz]; split <;> omega
    refine ⟨some a, l, c, zs.take l, hcs, ⟨by simp; omega, .inr ⟨a, rfl, fun i hi => ?_⟩⟩, by omega, fun n hn => wf_u64 (hwz n (List.mem_of_mem_take hn))⟩
    rw [hcell i (by omega)]
    simp [List.getD, hi]

theorem open_fields {ts : TypeId} {fs : Array Field} {fuel : Nat} {cs : List Value} {x : DataW H × List MemPlace} (hs : P.underlying ts = some (.struct fs))
    (hone : ∀ (i : Nat) (f : Field), fs[i]? = some f → f.offset = i ∧ P.cellsOf f.type = 1) (hC : P.cellsOf ts = fs.size) (h : DataW.trod enc P w base spare held fuel ts cs = some x) :
    cs.length = fs.size ∧ ∃ n, ∀ (i : Nat) (f : Field), fs[i]? = some f → ∃ y, DataW.trod enc P w base spare held n f.type [cs.getD i undef] = some y := by
  obtain ⟨xs, n, _, _, hlen, hxl, hf⟩ := DataW.trod_struct hs h
  rw [hC] at hlen
  refine ⟨hlen, n, fun i f hi => ?_⟩
  have hlt : i < fs.size := (Array.getElem?_eq_some_iff.1 hi).1
  obtain ⟨ho, hc1⟩ := hone i f hi
  have g := hf i f hi
  rw [ho, hc1, Deep.take1_drop cs i undef (by omega), List.getElem?_eq_getElem (by omega)] at g
  exact ⟨_, g⟩
end

set_option maxRecDepth 100000 in
theorem open_pent {H : Type} {enc : TypeId × Value → H} {w : World} {base : Nat} {spare : Nat → Bool} {held : Bool} {fuel : Nat} {cs : List Value} {x : DataW H × List MemPlace}
    (h : DataW.trod enc Try.prog w base spare held fuel 36 cs = some x) : ∃ p : PEnt, cs.length = 17 ∧ (∀ j, j < 17 → cs[j]? = p.vals[j]?) ∧ p.full w := by
  obtain ⟨hlen, n, hf⟩ := open_fields Try.underlying36 (Deep.hone_of (by kernel_rfl)) (by kernel_rfl) h
  obtain ⟨y0, g0⟩ := hf 0 _ rfl
  obtain ⟨frm, e0, -, w0⟩ := DataW.trod_string Try.underlying9 g0
  obtain ⟨y1, g1⟩ := hf 1 _ rfl
  obtain ⟨seq, e1, -, w1⟩ := DataW.trod_int Try.underlying23 g1
  obtain ⟨y2, g2⟩ := hf 2 _ rfl
  obtain ⟨da, dn, dc, data, e2, w2, m2⟩ := open_bytes Try.underlying22 Try.underlying5 (by kernel_rfl) g2
  obtain ⟨y3, g3⟩ := hf 3 _ rfl
  obtain ⟨hc, e3, -⟩ := DataW.trod_bool Try.underlying4 g3
  obtain ⟨y4, g4⟩ := hf 4 _ rfl
  obtain ⟨join, e4, -⟩ := DataW.trod_bool Try.underlying4 g4
  obtain ⟨y5, g5⟩ := hf 5 _ rfl
  obtain ⟨name, e5, -, w5⟩ := DataW.trod_string Try.underlying9 g5
  obtain ⟨y6, g6⟩ := hf 6 _ rfl
  obtain ⟨addr, e6, -, w6⟩ := DataW.trod_string Try.underlying9 g6
  obtain ⟨y7, g7⟩ := hf 7 _ rfl
  obtain ⟨hf', e7, -⟩ := DataW.trod_bool Try.underlying4 g7
  obtain ⟨y8, g8⟩ := hf 8 _ rfl
  obtain ⟨sa, sn, sc, stable, e8, w8, m8, r8⟩ := open_u64s Try.underlying34 Try.underlying23 (by kernel_rfl) g8
  obtain ⟨y9, g9⟩ := hf 9 _ rfl
  obtain ⟨hs, e9, -⟩ := DataW.trod_bool Try.underlying4 g9
  obtain ⟨y10, g10⟩ := hf 10 _ rfl
  obtain ⟨read, e10, -⟩ := DataW.trod_bool Try.underlying4 g10
  obtain ⟨y11, g11⟩ := hf 11 _ rfl
  obtain ⟨elem, e11, -, w11⟩ := DataW.trod_string Try.underlying9 g11
  obtain ⟨y12, g12⟩ := hf 12 _ rfl
  obtain ⟨remove, e12, -⟩ := DataW.trod_bool Try.underlying4 g12
  obtain ⟨y13, g13⟩ := hf 13 _ rfl
  obtain ⟨same, e13, -⟩ := DataW.trod_bool Try.underlying4 g13
  obtain ⟨y14, g14⟩ := hf 14 _ rfl
  obtain ⟨at_, e14, -, w14⟩ := DataW.trod_int Try.underlying23 g14
  obtain ⟨y15, g15⟩ := hf 15 _ rfl
  obtain ⟨spread, e15, -⟩ := DataW.trod_bool Try.underlying4 g15
  obtain ⟨y16, g16⟩ := hf 16 _ rfl
  obtain ⟨ref, e16, -⟩ := DataW.trod_bool Try.underlying4 g16
  have hl17 : cs.length = 17 := hlen
  refine ⟨⟨frm, seq, da, dn, dc, hc, join, name, addr, hf', sa, sn, sc, hs, read, elem, remove, same, at_, spread, ref, data, stable⟩, hl17, ?_, ⟨w2, w8, ⟨w0, m2, w5, w6, w11, m8⟩, (wf_u64 w1).1, (wf_u64 w1).2, (wf_u64 w14).1, (wf_u64 w14).2, r8⟩⟩
  intro j hj
  have key : ∀ v, [cs.getD j undef] = [v] → cs[j]? = some v := by
    intro v hv
    simp at hv
    rw [List.getElem?_eq_getElem (by omega)]
    rw [← hv]
    simp [List.getElem?_eq_getElem (show j < cs.length by omega)]
  have hc17 : j = 0 ∨ j = 1 ∨ j = 2 ∨ j = 3 ∨ j = 4 ∨ j = 5 ∨ j = 6 ∨ j = 7 ∨ j = 8 ∨ j = 9 ∨ j = 10 ∨ j = 11 ∨ j = 12 ∨ j = 13 ∨ j = 14 ∨ j = 15 ∨ j = 16 := by omega
  rcases hc17 with rfl | rfl | rfl | rfl | rfl | rfl | rfl | rfl | rfl | rfl | rfl | rfl | rfl | rfl | rfl | rfl | rfl
  · exact key _ e0
  · exact key _ e1
  · exact key (.slice da dn dc) (congrArg (fun v => [v]) e2)
  · exact key _ e3
  · exact key _ e4
  · exact key _ e5
  · exact key _ e6
  · exact key _ e7
  · exact key (.slice sa sn sc) (congrArg (fun v => [v]) e8)
  · exact key _ e9
  · exact key _ e10
  · exact key _ e11
  · exact key _ e12
  · exact key _ e13
  · exact key _ e14
  · exact key _ e15
  · exact key _ e16

/-- The whole batch that came in. -/
structure PAll (W : World) (b off : Nat) (Ps : List PEnt) : Prop where
  cell : ∀ i (h : i < Ps.length) j, j < 17 → W.cell? ⟨b, off + i * 17 + j, none⟩ = Ps[i].vals[j]?
  full : ∀ p ∈ Ps, p.full W
theorem PAll.pcell {W : World} {b off : Nat} {Ps : List PEnt} (h : PAll W b off Ps) : PCell W b off Ps := ⟨h.cell, fun p hp => (h.full p hp).len⟩
theorem PAll.pin {W w : World} {b off : Nat} {Ps : List PEnt} (h : PAll W b off Ps) (hg : W.grownBy w none) (hz : szs Ps ≤ 1048576) : PIn w b off Ps := by
  refine ⟨fun i hi j hj => h.pcell.at hg hi rfl j hj, fun p hp => ?_⟩
  have f := h.full p hp
  have hs := szs_mem hp
  have e1 := f.d.1
  have e2 := f.u.1
  unfold PEnt.sz at hs
  exact PEnt.inW.mono ⟨f.d, f.u, by omega, by omega⟩ (Same.grown hg (Nat.le_refl _))
theorem PAll.ok {W : World} {b off : Nat} {Ps : List PEnt} (h : PAll W b off Ps) (hz : szs Ps ≤ 1048576) : ∀ E ∈ Ps.map PEnt.ent, E.ok := by
  intro E hE
  obtain ⟨p, hp, rfl⟩ := List.mem_map.1 hE
  have f := h.full p hp
  have hs := szs_mem hp
  have e1 := f.d.1
  have e2 := f.u.1
  unfold PEnt.sz at hs
  refine ⟨by show p.frm.size ≤ _; omega, f.s0, f.s1, by show p.data.length ≤ _; omega, fun j n a hc => ?_, fun ns hn => ?_, fun d hd => ?_⟩
  · simp only [PEnt.ent] at hc
    split at hc
    · simp at hc
      obtain ⟨-, rfl, rfl⟩ := hc
      omega
    · cases hc
  · simp only [PEnt.ent] at hn
    split at hn
    · simp at hn
      subst hn
      exact ⟨by omega, f.us⟩
    · cases hn
  · simp only [PEnt.ent] at hd
    split at hd
    · simp at hd
      subst hd
      exact ⟨by show p.elem.size ≤ _; omega, f.a0, f.a1⟩
    · cases hd

theorem f3_some (ba : Option Addr) (bn bc : Nat) (s : List UInt8) (view nn inst : Int) (b off n c : Nat) (kk : Int) (Ps : List PEnt) (W : World)
    (hsl : SliB W ba bn bc s) (hbm : bn ≤ maxLen) (hnm : n ≤ maxLen)
    (a0 : 0 ≤ view) (a1 : view < 18446744073709551616) (b0 : 0 ≤ nn) (b1 : nn < 18446744073709551616) (c0 : 0 ≤ inst) (c1 : inst < 18446744073709551616) (hl : Ps.length = n) (hP : PAll W b off Ps) :
    Calls Try.prog 3 #[.slice ba bn bc, .int .u64 view, .int .u64 nn, .int .u64 inst, .slice (some ⟨b, off, none⟩) n c, .int .i64 kk] W fun e w' => e = .returned (.bool true) ∧ W.grownBy w' none :=
  f3_core ba bn bc s view nn inst (some ⟨b, off, none⟩) n c kk (Ps.map PEnt.ent) W (bn + 128 * n + szs Ps ≤ 1048576) hsl hsl.1.symm a0 a1 b0 b1 c0 c1 (by simp [hl])
    (f4_some ba bn bc view nn inst b off n c kk Ps W hbm hnm hl hP.pcell) (f5_some ba bn bc b off n c Ps W hbm hnm hl hP.pcell)
    (fun h => by omega) (fun h => hP.ok (by omega)) (fun h w hg => f7_to b off n c Ps w (by omega) hl (hP.pin hg (by omega)))
theorem f3_none (ba : Option Addr) (bn bc : Nat) (s : List UInt8) (view nn inst : Int) (a : Option Addr) (c : Nat) (kk : Int) (W : World)
    (hsl : SliB W ba bn bc s) (hbm : bn ≤ maxLen)
    (a0 : 0 ≤ view) (a1 : view < 18446744073709551616) (b0 : 0 ≤ nn) (b1 : nn < 18446744073709551616) (c0 : 0 ≤ inst) (c1 : inst < 18446744073709551616) :
    Calls Try.prog 3 #[.slice ba bn bc, .int .u64 view, .int .u64 nn, .int .u64 inst, .slice a 0 c, .int .i64 kk] W fun e w' => e = .returned (.bool true) ∧ W.grownBy w' none :=
  f3_core ba bn bc s view nn inst a 0 c kk [] W (bn ≤ 1048576) hsl hsl.1.symm a0 a1 b0 b1 c0 c1 rfl
    (f4_nil ba bn bc view nn inst a c kk W hbm) (f5_nil ba bn bc a c W hbm)
    (fun h => by omega) (fun h E hE => by cases hE) (fun h w hg => f7_nil a c w)

/-- The batch opened. -/
theorem open_batch {H : Type} {enc : TypeId × Value → H} {w : World} {base : Nat} {spare : Nat → Bool} {held : Bool} {fuel : Nat} {v : Value} {x : DataW H × List MemPlace}
    (h : DataW.trod enc Try.prog w base spare held fuel 24 [v] = some x) :
    (∃ a c, v = .slice a 0 c) ∨ ∃ b off n c Ps, v = .slice (some ⟨b, off, none⟩) n c ∧ n ≤ maxLen ∧ List.length Ps = n ∧ PAll w b off Ps := by
  rcases Deep.open_slice Try.underlying24 h with ⟨h0, _⟩ | ⟨a, len, cap, m, n, D, Pl, hcs, hb, hl, hm, hmm, _, hx⟩
  · simp at h0
    exact .inl ⟨none, 0, h0⟩
  · simp at hcs
    subst hcs
    by_cases h0 : len = 0
    · subst h0
      exact .inl ⟨some a, cap, rfl⟩
    right
    have hlm : len ≤ m := by rw [hmm]; split <;> omega
    have h17 : Try.prog.cellsOf 36 = 17 := by kernel_rfl
    rw [h17] at hx
    have each : ∀ i, i < len → ∃ p : PEnt, (∀ j, j < 17 → w.cell? (a.add (i * 17 + j)) = p.vals[j]?) ∧ p.full w := by
      intro i hi
      obtain ⟨cs', h1, h2⟩ := hx i (by omega)
      obtain ⟨_, hlen, hcell⟩ := World.cells?_some h1
      obtain ⟨p, _, hv, hf⟩ := open_pent h2
      refine ⟨p, fun j hj => ?_, hf⟩
      rw [← Deep.add_add, hcell j hj, hv j hj]
    have first := (each 0 (by omega))
    obtain ⟨p0, hp0, -⟩ := first
    obtain ⟨b, off, rfl⟩ : ∃ b off, a = ⟨b, off, none⟩ := by
      have h00 : w.cell? (a.add 0) = some (.string p0.frm) := hp0 0 (by omega)
      exact spot_none h00
    obtain ⟨f, hf⟩ := @Deep.choose_lt PEnt ⟨p0⟩ len _ each
    refine ⟨b, off, len, cap, (List.range len).map f, rfl, by omega, by simp, ⟨fun i hi j hj => ?_, fun p hp => ?_⟩⟩
    · have hi' : i < len := by simpa using hi
      have := (hf i hi').1 j hj
      rw [Addr.add_lit, ← Nat.add_assoc] at this
      simpa using this
    · obtain ⟨i, hi, rfl⟩ := List.mem_map.1 hp
      exact (hf i (List.mem_range.1 hi)).2
end Go.Proofs.Qxb6614913a

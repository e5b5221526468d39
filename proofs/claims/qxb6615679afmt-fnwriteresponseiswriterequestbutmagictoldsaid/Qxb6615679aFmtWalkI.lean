import Derived.Test.Qxb6615679aFmtWalkH
namespace Go.Proofs.Qxb6615679aFmt
open Go.RowKit
set_option linter.unusedVariables false
set_option linter.unusedSimpArgs false

set_option maxRecDepth 100000 in
/-- AvailableBuffer of a writer that holds nothing. -/
theorem f44_to (b wb gb S : Nat) (v : Value) (l : List UInt8) (w : World) (h : Wst b wb gb S v l [] w) :
    Calls Tryf.prog 44 #[.pointer (some ⟨wb, 0, none⟩)] w fun e w' => e = .returned (.slice (some ⟨gb, 0, none⟩) 0 S) ∧ ∃ k, w' = w.drewN k := by
  have c1 : w.cell? ⟨wb, 1, none⟩ = some (.slice (some ⟨gb, 0, none⟩) S S) := cellRow h.wr 1
  have c2 : w.cell? ⟨wb, 2, none⟩ = some (.int .i64 0) := cellRow h.wr 2
  have h0 := h.s0
  have hs : ∀ w, (Instr.slice 25 (.slice (some ⟨gb, 0, none⟩) S S) (some (.int .i64 0)) none none).run Tryf.prog w = .ok (.slice (some ⟨gb, 0, none⟩) S S) w := fun w => by
    have := slice25o gb 0 S S 0 (by omega) (by omega) w
    simpa using this
  clear h
  go_enter Tryf.func44, Tryf.ntmps44
  go_wp2
  go_quiet (fail)
  go_wp2
  go_ret
  exact ⟨rfl, _, rfl⟩

set_option maxHeartbeats 4000000 in
set_option maxRecDepth 100000 in
/-- Write of what fits: its source may be the row itself. -/
theorem f46_fits (b wb gb S : Nat) (v : Value) (l s : List UInt8) (w : World) (ad : Addr) (n c : Nat) (h : Wst b wb gb S v l [] w) (hn : s.length = n) (hfit : n ≤ S) (hsrc : SrcA w ad s) :
    Calls Tryf.prog 46 #[.pointer (some ⟨wb, 0, none⟩), .slice (some ad) n c] w fun e w' => e = .returned (.tuple #[.int .i64 n, .nilIface]) ∧ Wst b wb gb S v l s w' ∧ WFr b wb gb v w w' v := by
  have HST := hide h
  have HN := hide hn
  have HSRC := hide hsrc
  have hS : S ≤ 65536 := h.s1
  clear h hn hsrc
  go_enter Tryf.func46, Tryf.ntmps46
  go_wp2
  go_loopw [1, 4, 6] (fun s1 s4 s6 wr => s1 = .slice (some ad) n c ∧ s4 = .int .i64 0 ∧ wr = w) (fun s1 s4 s6 wr => 0)
  case atStart => exact ⟨rfl, rfl, rfl⟩
  case round =>
    obtain ⟨rfl, rfl, rfl⟩ := hrel
    go_wp2_with fail
    refine (f43_to b wb gb S v l [] wr HST.out).mono ?_
    rintro e w1 ⟨rfl, j, hw1⟩
    rw [show ((S : Int) - (([] : List UInt8).length : Int)) = (S : Int) by simp]
    have hst0 : Wst b wb gb S v l [] w1 := by rw [hw1]; exact HST.out.drew j
    have hst1 : Wst b wb gb S v l [] w1.drew := hst0.drew 1
    have hsr1 : SrcA w1.drew ad s := by rw [hw1]; exact HSRC.out.same rfl
    have c0 : w1.cell? ⟨wb, 0, none⟩ = some .nilIface := cellRow hst0.wr 0
    have c1 : w1.cell? ⟨wb, 1, none⟩ = some (.slice (some ⟨gb, 0, none⟩) S S) := cellRow hst0.wr 1
    have c2 : w1.cell? ⟨wb, 2, none⟩ = some (.int .i64 0) := cellRow hst0.wr 2
    have f2 : w1.frozen? ⟨wb, 2, none⟩ = false := frozen_of_row _ _ _ _ _ hst0.wr
    obtain ⟨o', cur, hg, hcs, htk, hslb, hcp⟩ := copyTo hst1 (some ad) n c s HN.out (fun a e => by cases e; exact hsr1) (by simp)
    simp only [List.length_nil, Nat.sub_zero, Int.natCast_zero, Int.ofNat_zero] at hslb hcp htk
    rw [List.take_of_length_le (by rw [HN.out]; exact hfit), show Nat.min n S = n from Nat.min_eq_left hfit] at hcp
    have hfil := hst1.filled s (by rw [HN.out]; simp; exact hfit) cur hg hcs htk (n : Int) (by simp [HN.out])
    simp only [List.nil_append, List.length_nil] at hfil
    have HFIL := hide hfil
    have HS0 : Hid (w1.drew.cell? ⟨wb, 1, none⟩ = some (.slice (some ⟨gb, 0, none⟩) S S) ∧ w1.drew.cell? ⟨wb, 2, none⟩ = some (.int .i64 0)) := ⟨c1, c2⟩
    have hgw : gb ≠ wb := hst1.ne1.2.2.1
    have hset : ∀ x : Array Value, (w1.drew.setRow gb x).heap[wb]? = w1.drew.heap[wb]? := fun x => setRow_other _ _ _ _ (Ne.symm hgw)
    have HS1 : Hid (∀ x : Array Value, (w1.drew.setRow gb x).cell? ⟨wb, 1, none⟩ = some (.slice (some ⟨gb, 0, none⟩) S S) ∧ (w1.drew.setRow gb x).cell? ⟨wb, 2, none⟩ = some (.int .i64 0)) := fun x => ⟨(World.cell?_of_block (hset x)).trans c1, (World.cell?_of_block (hset x)).trans c2⟩
    have HF1 : Hid (∀ x : Array Value, (w1.drew.setRow gb x).frozen? ⟨wb, 2, none⟩ = false) := fun x => (World.frozen?_of_block (hset x)).trans f2
    have HW1 := hide hw1
    have hge : ¬ ((S : Int) < (n : Int)) := by omega
    clear hst0 hst1 hsr1 hg hcs htk hfil hset hw1
    go_wp2_with fail
    go_region_held3 (fun w' => w'.cell? ⟨wb, 1, none⟩ = some (.slice (some ⟨gb, 0, none⟩) S S) ∧ w'.cell? ⟨wb, 2, none⟩ = some (.int .i64 0))
      (with_reducible (first | exact HS0.out | exact HS1.out _))
      (fail)
    obtain ⟨X, hX⟩ : ∃ X, putAt cur 0 (Lib.byteCells s) = X := ⟨_, rfl⟩
    have d2 := (HS1.out X).2
    have g2 := HF1.out X
    have hfil := HFIL.out
    rw [hX] at hfil ⊢
    have HF2 := hide hfil
    clear hX hfil HFIL hcp
    go_wp2
    go_ret2
    refine ⟨rfl, HF2.out.1, ?_⟩
    have hfr0 : WFr b wb gb v wr w1 v := by rw [HW1.out]; exact WFr.drew j
    exact hfr0.trans ((WFr.drew 1).trans HF2.out.2)

/-- append into a row that has room: the same row, the same capacity. -/
theorem run_append_fit (w : World) (ty : TypeId) (g k cap : Nat) (l : List UInt8) (hl : l.length = k) (hv : Buf w (.slice (some ⟨g, 0, none⟩) k cap) l) (ao : Option Addr) (n c : Nat) (s : List UInt8) (hs : s.length = n) (hnil : ao = none → n = 0 ∧ c = 0) (hsrc : ∀ ad, ao = some ad → SrcA w ad s) (hroom : k + n ≤ cap) :
    ∃ w', (Builtin.append_ #[25, 25] ty #[.slice (some ⟨g, 0, none⟩) k cap, .slice ao n c]).run Tryf.prog w = .ok (.slice (some ⟨g, 0, none⟩) (k + n) cap) w' ∧ Buf w' (.slice (some ⟨g, 0, none⟩) (k + n) cap) (l ++ s) ∧ w.grownBy w' (some g) := by
  subst hl
  obtain ⟨i, hi, hz, hs1, hb⟩ := info_parts Tryf.info5
  cases ao with
  | none =>
    obtain ⟨rfl, rfl⟩ := hnil rfl
    obtain rfl : s = [] := List.eq_nil_of_length_eq_zero hs
    refine ⟨w, run_append_owned_none (P := Tryf.prog) w 0 25 ty 5 i 1 Tryf.underlying25 hi _ l.length _ hv, by rw [List.append_nil]; exact hv, World.grownBy.refl _ _⟩
  | some ad =>
    subst hs
    have h1 : (Lib.byteCells s).length = s.length * 1 := by rw [Lib.byteCells_length]; omega
    obtain ⟨w2, hr2, ho, hg⟩ := run_append_fits (P := Tryf.prog) w 0 25 ty 5 i 1 Tryf.underlying25 hi hs1 g l.length cap _ hv ad s.length c (Lib.byteCells s) h1 (hsrc ad rfl).cells (oneCell_bytes s) hroom
    refine ⟨w2, hr2, ?_, hg⟩
    unfold Buf
    rw [List.length_append, Lib.byteCells_append]
    exact ho
theorem wpList_append_fit {w : World} {ops : Array Oper} {rest : List Oper} {o : Oper} {a : Act} {Q : Exit → Act → World → Prop} (hgd : o.guard = none) (sv x : Operand)
    (ho : o.op = .call { callee := .builtin .append, args := #[sv, x], argTypes := #[25, 25] }) (g k cap : Nat) (l : List UInt8) (hs : a.eval sv = .slice (some ⟨g, 0, none⟩) k cap) (hl : l.length = k) (hv : Buf w (.slice (some ⟨g, 0, none⟩) k cap) l) (ao : Option Addr) (n c : Nat) (s : List UInt8) (hxv : a.eval x = .slice ao n c) (hsn : s.length = n) (hnil : ao = none → n = 0 ∧ c = 0) (hsrc : ∀ ad, ao = some ad → SrcA w ad s) (hroom : k + n ≤ cap) (r : Nat) (hkr : k + n = r)
    (h : ∀ w', Buf w' (.slice (some ⟨g, 0, none⟩) r cap) (l ++ s) → w.grownBy w' (some g) → wpList Tryf.prog ops Q rest (a.put o.dst (.slice (some ⟨g, 0, none⟩) r cap)) w') : wpList Tryf.prog ops Q (o :: rest) a w := by
  refine wpList_plain hgd fun K hK => ?_
  subst hkr
  obtain ⟨w', hr, h2, h3⟩ := run_append_fit w o.type g k cap l hl hv ao n c s hsn hnil hsrc hroom
  unfold Oper.wp execOp
  simp only [ho, resolve, invoke, builtin, Sem.run_bind, Sem.run_pure, Result.andThen_ok, List.map_toArray, List.map_cons, List.map_nil, hs, hxv, hr]
  exact hK _ _ (h w' h2 h3)
end Go.Proofs.Qxb6615679aFmt

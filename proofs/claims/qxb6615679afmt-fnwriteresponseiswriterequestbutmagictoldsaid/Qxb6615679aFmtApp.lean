import Derived.Test.Qxb6615679aFmtShelf
import Derived.WalkKit
import Derived.WalkLawsBesides
import Derived.Handy
import Derived.WalkSpells
import Derived.Deep.LoopGhost
import Derived.Deep.QuietTactic
import Derived.BigQuiet
import Derived.Lib.ConvBytes
import Derived.Maps.AppendAt
namespace Go.Proofs.Qxb6615679aFmt
open Go.RowKit
set_option linter.unusedVariables false
set_option linter.unusedSimpArgs false

theorem Tryf.info5 : (Tryf.prog.info? 5).map (fun i => (i.zero, i.size, i.bytes)) = some (some (.int .u8 0), 1, 1) := by kernel_rfl

/-- v IS A SLICE OF BYTES AT THE HEAD OF A ROW OF ITS OWN, and holds l. -/
def Buf (w : World) (v : Value) (l : List UInt8) : Prop := w.ownsRow 0 5 1 v l.length (Lib.byteCells l)

/-- THE FRAME OF AN APPENDER: only v's row may have been written; what comes back lies there or in new memory. -/
structure Fr (w : World) (v : Value) (w' : World) (v' : Value) : Prop where
  grown : w.grownBy w' v.ownBlock
  blk : v'.ownBlock = v.ownBlock ∨ ∀ k, v'.ownBlock = some k → w.heap.size ≤ k

theorem Fr.refl (w : World) (v : Value) : Fr w v w v := ⟨World.grownBy.refl _ _, .inl rfl⟩

theorem Fr.trans {w w1 w2 : World} {v v1 v2 : Value} (h : Fr w v w1 v1) (k : Fr w1 v1 w2 v2) : Fr w v w2 v2 := by
  refine ⟨⟨k.grown.os.trans h.grown.os, k.grown.tape.trans h.grown.tape, k.grown.output.trans h.grown.output, Nat.le_trans h.grown.size k.grown.size, fun i hi hne => ?_⟩, ?_⟩
  · rw [k.grown.block i (Nat.lt_of_lt_of_le hi h.grown.size) ?_, h.grown.block i hi hne]
    intro e
    rcases h.blk with hb | hb
    · exact hne (e.trans hb)
    · have := hb i e.symm; omega
  · rcases k.blk with hb | hb
    · rw [hb]; exact h.blk
    · exact .inr fun j hj => Nat.le_trans h.grown.size (hb j hj)

/-- New memory beside it. -/
theorem grownBy_trans_none {w w1 w2 : World} {r : Option Nat} (h : w.grownBy w1 none) (k : w1.grownBy w2 r) : w.grownBy w2 r :=
  ⟨k.os.trans h.os, k.tape.trans h.tape, k.output.trans h.output, Nat.le_trans h.size k.size, fun i hi hne => (k.block i (Nat.lt_of_lt_of_le hi h.size) hne).trans (h.block i hi (by simp))⟩
theorem Fr.pre {w w1 w2 : World} {v v2 : Value} (h : w.grownBy w1 none) (k : Fr w1 v w2 v2) : Fr w v w2 v2 :=
  ⟨grownBy_trans_none h k.grown, k.blk.imp id fun hb j hj => Nat.le_trans h.size (hb j hj)⟩
theorem Fr.post {w w1 w2 : World} {v v1 : Value} (h : Fr w v w1 v1) (k : w1.grownBy w2 none) : Fr w v w2 v1 :=
  ⟨⟨k.os.trans h.grown.os, k.tape.trans h.grown.tape, k.output.trans h.grown.output, Nat.le_trans h.grown.size k.size, fun i hi hne => (k.block i (Nat.lt_of_lt_of_le hi h.grown.size) (by simp)).trans (h.grown.block i hi hne)⟩, h.blk⟩
theorem grownBy_drewN (w : World) (n : Nat) (r : Option Nat) : w.grownBy (w.drewN n) r := ⟨rfl, rfl, rfl, Nat.le_refl _, fun _ _ _ => rfl⟩
theorem grownBy_bytes (w : World) (s : ByteArray) (r : Option Nat) : w.grownBy (Lib.bytesWorld w 5 s) r :=
  ⟨by simp only [Lib.bytesWorld, World.freeze]; split <;> rfl, by simp only [Lib.bytesWorld, World.freeze]; split <;> rfl, by simp only [Lib.bytesWorld, World.freeze]; split <;> rfl, by rw [Lib.bytesWorld_size]; omega, fun k hk _ => Lib.bytesWorld_at_old w 5 s k hk⟩

theorem Fr.cell {w w' : World} {v v' : Value} (h : Fr w v w' v') {a : Addr} (ha : a.block < w.heap.size) (hne : some a.block ≠ v.ownBlock) : w'.cell? a = w.cell? a :=
  World.cell?_of_block (h.grown.block a.block ha hne)
theorem Fr.sep {w w' : World} {v v' : Value} (h : Fr w v w' v') {k : Nat} (hk : k < w.heap.size) (hne : some k ≠ v.ownBlock) : some k ≠ v'.ownBlock := by
  intro e
  rcases h.blk with hb | hb
  · exact hne (e.trans hb)
  · have := hb k e.symm; omega

theorem Buf.lt {w : World} {v : Value} {l : List UInt8} (h : Buf w v l) : ∀ k, v.ownBlock = some k → k < w.heap.size := fun k hk => (World.ownsRow.lt h k hk).2
theorem Buf.new {w : World} {v : Value} {l : List UInt8} (h : Buf w v l) : some w.heap.size ≠ v.ownBlock := fun e => by have := h.lt _ e.symm; omega
theorem Buf.grown {w w' : World} {v : Value} {l : List UInt8} (h : Buf w v l) (hg : w.grownBy w' none) : Buf w' v l :=
  World.ownsRow.kept h hg (by cases hv : v.ownBlock <;> simp)
theorem Buf.alloc {w : World} {v : Value} {l : List UInt8} (h : Buf w v l) (o : Obj) : Buf (w.alloc o) v l := h.grown (World.grownBy_alloc w o none)

/-- WHAT IS APPENDED: a slice value that reads as s: nil, empty or not; its cells lie apart from v's row. -/
structure SrcB (w : World) (v : Value) (x : Value) (s : List UInt8) : Prop where
  shape : ∃ ao c, x = .slice ao s.length c ∧ (ao = none → c = 0) ∧ ∀ ad, ao = some ad → (∀ j u, (Lib.byteCells s)[j]? = some u → w.cell? (ad.add j) = some u)
  nil : ∀ n c, x = .slice none n c → s.length = 0

theorem oneCell_bytes (l : List UInt8) : ∀ u ∈ Lib.byteCells l, u.oneCell' = true := by
  intro u hu
  obtain ⟨b, _, rfl⟩ := List.mem_map.1 hu
  rfl

theorem run_append_buf (w : World) (ty : TypeId) (v : Value) (l : List UInt8) (hv : Buf w v l) (x : Value) (s : List UInt8) (hx : SrcB w v x s) (hlim : l.length + s.length ≤ 1099511627776) :
    ∃ v' w', (Builtin.append_ #[25, 25] ty #[v, x]).run Tryf.prog w = .ok v' w' ∧ Buf w' v' (l ++ s) ∧ Fr w v w' v' := by
  obtain ⟨i, hi, hz, hs, hb⟩ := info_parts Tryf.info5
  obtain ⟨ao, c, rfl, hnil, hsrc⟩ := hx.shape
  have hlen : (Lib.byteCells (l ++ s)).length = (l.length + s.length) * 1 := by rw [Lib.byteCells_length]; simp
  have happ : Lib.byteCells (l ++ s) = Lib.byteCells l ++ Lib.byteCells s := Lib.byteCells_append _ _
  cases ao with
  | none =>
    obtain rfl := hnil rfl
    have hs0 : s.length = 0 := hx.nil _ _ rfl
    obtain rfl : s = [] := List.eq_nil_of_length_eq_zero hs0
    refine ⟨v, w, run_append_owned_none (P := Tryf.prog) w 0 25 ty 5 i 1 Tryf.underlying25 hi v l.length _ hv, by rw [List.append_nil]; exact hv, Fr.refl _ _⟩
  | some ad =>
    have hnews := hsrc ad rfl
    have hl : (Lib.byteCells s).length = s.length * 1 := by rw [Lib.byteCells_length]; omega
    obtain ⟨v', w', hr, h2, h3, _⟩ := run_append_own (P := Tryf.prog) w 0 25 ty 5 i (.int .u8 0) 1 1 Tryf.underlying25 hi hz hs hb rfl (by decide) v l.length _ hv ad s.length c (Lib.byteCells s) hl hnews (oneCell_bytes s) (by unfold maxLen; omega) (by omega) (Nat.zero_le _)
    refine ⟨v', w', hr, ?_, h3, ?_⟩
    · unfold Buf; rw [happ, List.length_append]; exact h2
    · rcases hv.2 with ⟨rfl, h0⟩ | ⟨g, cap, cur, rfl, hb0, hgg, hnc, hcm, hcs, htake⟩
      · have hn := World.ownsRow_nil w w.heap.size 5 1
        obtain ⟨v2, w2, hr2, k2, _⟩ := run_append_own (P := Tryf.prog) w w.heap.size 25 ty 5 i (.int .u8 0) 1 1 Tryf.underlying25 hi hz hs hb rfl (by decide) (.slice none 0 0) 0 [] hn ad s.length c (Lib.byteCells s) hl hnews (oneCell_bytes s) (by unfold maxLen; omega) (by omega) (Nat.le_refl _)
        rw [hr] at hr2
        cases hr2
        exact .inr fun k hk => (k2.lt k hk).1
      · by_cases hroom : l.length + s.length ≤ cap
        · obtain ⟨w2, hr2, _⟩ := run_append_fits (P := Tryf.prog) w 0 25 ty 5 i 1 Tryf.underlying25 hi hs g l.length cap _ hv ad s.length c (Lib.byteCells s) hl hnews (oneCell_bytes s) hroom
          rw [hr] at hr2
          cases hr2
          exact .inl rfl
        · have hr2 := run_append_grow (P := Tryf.prog) w 25 ty 5 i (.int .u8 0) Tryf.underlying25 hi hz ⟨g, 0, none⟩ l.length cap (Lib.byteCells l) (by rw [hs]; exact hv.1) (World.ownsRow.cells hv (g := g) rfl) ad s.length c (Lib.byteCells s) (by rw [hs]; exact hl) hnews (by omega) (by omega) (growslice_fits (by omega) (by rw [hb]; omega))
          rw [hr] at hr2
          cases hr2
          refine .inr fun k hk => ?_
          simp [Value.ownBlock] at hk
          omega

/-- THE LAW FOR THE WALK. -/
theorem wpList_append_buf {w : World} {ops : Array Oper} {rest : List Oper} {o : Oper} {a : Act} {Q : Exit → Act → World → Prop} (hgd : o.guard = none) (sv x : Operand)
    (ho : o.op = .call { callee := .builtin .append, args := #[sv, x], argTypes := #[25, 25] }) (v : Value) (l : List UInt8) (hs : a.eval sv = v) (hv : Buf w v l) (xv : Value) (s : List UInt8) (hxv : a.eval x = xv) (hx : SrcB w v xv s) (hlim : l.length + s.length ≤ 1099511627776) (r : List UInt8) (hr : l ++ s = r)
    (h : ∀ v' w', Buf w' v' r → Fr w v w' v' → wpList Tryf.prog ops Q rest (a.put o.dst v') w') : wpList Tryf.prog ops Q (o :: rest) a w := by
  refine wpList_plain hgd fun K hK => ?_
  subst hr
  obtain ⟨v', w', hr, h2, h3⟩ := run_append_buf w o.type v l hv xv s hx hlim
  unfold Oper.wp execOp
  simp only [ho, resolve, invoke, builtin, Sem.run_bind, Sem.run_pure, Result.andThen_ok, List.map_toArray, List.map_cons, List.map_nil, hs, hxv, hr]
  exact hK _ _ (h v' w' h2 h3)

/-- One byte. -/
theorem src_one (w : World) (v : Value) (b : UInt8) : SrcB (w.alloc (.cells #[.int .u8 b.toNat] 5)) v (.slice (some ⟨w.heap.size, 0, none⟩) 1 1) [b] :=
  ⟨⟨some ⟨w.heap.size, 0, none⟩, 1, rfl, by simp, fun ad e => by cases e; exact cell_one_new _ _ _⟩, by simp⟩

/-- A string's bytes. -/
theorem src_bytes (w : World) (v : Value) (s : ByteArray) : SrcB (Lib.bytesWorld w 5 s) v (.slice (some ⟨w.heap.size, 0, none⟩) s.size (grownCap w s.size 0 5)) s.data.toList := by
  have hlen : s.data.toList.length = s.size := rfl
  refine ⟨⟨some ⟨w.heap.size, 0, none⟩, _, rfl, (fun h => by cases h), fun ad e => ?_⟩, (fun _ _ h => by cases h)⟩
  cases e
  intro j u hu
  have hj : j < s.size := by
    have := (List.getElem?_eq_some_iff.1 hu).1
    rwa [Lib.byteCells_length, hlen] at this
  rw [Addr.add_lit, Nat.zero_add, Lib.bytesWorld_cell w 5 s j hj, ← hu]
  have : j < s.data.toList.length := by rw [hlen]; exact hj
  simp [Lib.byteCells, List.getD, List.getElem?_eq_getElem this]
end Go.Proofs.Qxb6615679aFmt

/-
  DERIVED: THE SHELF's CONTRACTS AT THIS DUMP, IN PLAIN WORDS (tools/lay-plain.mjs out of 'TryfShelf.lean', which tools/lay-shelf.mjs wrote): THE SAME DECLARATIONS UNDER THE SAME NAMES: 'import', 'namespace', 'open', 'def', 'theorem' AND NOTHING ELSE: no command of the shelf's: FOR A HAND-IN. Each laying: the table of numbers ('.._ren') and one theorem, a field a fact of the dump's own or the kernel's comparison; each contract: ONE APPLICATION.
-/
import Derived.Shelf.LaysM
import Derived.Shelf.Bytes.TryGrow
import Derived.Shelf.Bytes.GrowSliceCatch
import Derived.Shelf.Bytes.GrowSlice
import Derived.Shelf.Bin.BEPutUint16
import Derived.Shelf.Bin.BEPutUint32
import Derived.Shelf.Bin.BEPutUint64
import Derived.Test.Qxb6615679aFmtProg
namespace Go.Proofs
open Go.Shelf
def Tryf.laysM251_ren : Go.Shelf.Ren := ⟨fun | 251 => 86 | n => n, fun | 130 => 43 | 3 => 3 | 4 => 4 | 0 => 0 | 93 => 65 | 37 => 25 | 91 => 63 | 5 => 5 | n => n, fun | n => n⟩
theorem Tryf.laysM251 : Go.Proofs.LaysM.n251 Tryf.prog Tryf.laysM251_ren := {
  mixed := by kernel_rfl
  f251 := Tryf.func86.trans (congrArg some (by kernel_rfl))
  t0 := Tryf.underlying0
  a0 := Tryf.isAgg0
  z0 := Tryf.sizeOf0
  v0 := Tryf.zeroValue0
  t3 := Tryf.underlying3
  a3 := Tryf.isAgg3
  z3 := Tryf.sizeOf3
  v3 := Tryf.zeroValue3
  t4 := Tryf.underlying4
  a4 := Tryf.isAgg4
  z4 := Tryf.sizeOf4
  v4 := Tryf.zeroValue4
  t37 := Tryf.underlying25
  a37 := Tryf.isAgg25
  z37 := Tryf.sizeOf25
  v37 := Tryf.zeroValue25
  t93 := Tryf.underlying65
  a93 := Tryf.isAgg65
  z93 := Tryf.sizeOf65
  v93 := Tryf.zeroValue65
  t130 := Tryf.underlying43
  a130 := Tryf.isAgg43
  z130 := Tryf.sizeOf43
  v130 := Tryf.zeroValue43
  t5 := Tryf.underlying5
  a5 := Tryf.isAgg5
  z5 := Tryf.sizeOf5
  v5 := Tryf.zeroValue5
  t91 := Tryf.underlying63
  a91 := Tryf.isAgg63
  z91 := Tryf.sizeOf63
  v91 := Tryf.zeroValue63
  i0 := by kernel_rfl
  i3 := by kernel_rfl
  i4 := by kernel_rfl
  i5 := by kernel_rfl
  i37 := by kernel_rfl
  i91 := by kernel_rfl
  i93 := by kernel_rfl
  i130 := by kernel_rfl }
open Go.RowKit in
/-- (*bytes.Buffer).tryGrowByReslice: "tryGrowByReslice is an inlineable version of grow for the fast-case where the internal buffer only needs to be resliced. It returns the index where bytes should be written and whether it succeeded.": THERE IS ROOM: 'buf' is resliced to l + n. (LAID: no walk: one application.) -/
theorem Tryf.Buffer_tryGrow_room (b : Nat) (ao : Option Addr) (l cap n : Nat) (w : World) (c0 : w.cell? ⟨b, 0, none⟩ = some (.slice ao l cap)) (f0 : w.frozen? ⟨b, 0, none⟩ = false) (hlc : l ≤ cap) (hcap : cap ≤ maxLen) (hn : n ≤ cap - l) :
    Calls Tryf.prog 86 #[.pointer (some ⟨b, 0, none⟩), .int .i64 n] w fun e w' => e = .returned (.tuple #[.int .i64 l, .bool true]) ∧ w' = w.setCell ⟨b, 0, none⟩ (.slice ao (l + n) cap) := Any.Buffer_tryGrow_room Tryf.laysM251 b ao l cap n w c0 f0 hlc hcap hn
open Go.RowKit in
/-- .. THERE IS NONE: nothing turns. (LAID: no walk: one application.) -/
theorem Tryf.Buffer_tryGrow_none (b : Nat) (ao : Option Addr) (l cap n : Nat) (w : World) (c0 : w.cell? ⟨b, 0, none⟩ = some (.slice ao l cap)) (hlc : l ≤ cap) (hcap : cap ≤ maxLen) (hn : cap - l < n) :
    Calls Tryf.prog 86 #[.pointer (some ⟨b, 0, none⟩), .int .i64 n] w fun e w' => e = .returned (.tuple #[.int .i64 0, .bool false]) ∧ w' = w := Any.Buffer_tryGrow_none Tryf.laysM251 b ao l cap n w c0 hlc hcap hn
def Tryf.laysM290_ren : Go.Shelf.Ren := ⟨fun | 290 => 89 | 324 => 90 | n => n, fun | 37 => 25 | 3 => 3 | 0 => 0 | 4 => 4 | 20 => 20 | 75 => 47 | 5 => 5 | 80 => 125 | 9 => 9 | n => n, fun | 14 => 7 | n => n⟩
theorem Tryf.laysM290 : Go.Proofs.LaysM.n290 Tryf.prog Tryf.laysM290_ren := {
  mixed := by kernel_rfl
  f290 := Tryf.func89.trans (congrArg some (by kernel_rfl))
  f324 := Tryf.func90.trans (congrArg some (by kernel_rfl))
  t0 := Tryf.underlying0
  a0 := Tryf.isAgg0
  z0 := Tryf.sizeOf0
  v0 := Tryf.zeroValue0
  t3 := Tryf.underlying3
  a3 := Tryf.isAgg3
  z3 := Tryf.sizeOf3
  v3 := Tryf.zeroValue3
  t4 := Tryf.underlying4
  a4 := Tryf.isAgg4
  z4 := Tryf.sizeOf4
  v4 := Tryf.zeroValue4
  t20 := Tryf.underlying20
  a20 := Tryf.isAgg20
  z20 := Tryf.sizeOf20
  v20 := Tryf.zeroValue20
  t37 := Tryf.underlying25
  a37 := Tryf.isAgg25
  z37 := Tryf.sizeOf25
  v37 := Tryf.zeroValue25
  t75 := Tryf.underlying47
  a75 := Tryf.isAgg47
  z75 := Tryf.sizeOf47
  v75 := Tryf.zeroValue47
  g14 := by kernel_rfl
  t5 := Tryf.underlying5
  a5 := Tryf.isAgg5
  z5 := Tryf.sizeOf5
  v5 := Tryf.zeroValue5
  t9 := Tryf.underlying9
  a9 := Tryf.isAgg9
  z9 := Tryf.sizeOf9
  v9 := Tryf.zeroValue9
  t80 := Tryf.underlying125
  a80 := Tryf.isAgg125
  z80 := Tryf.sizeOf125
  v80 := Tryf.zeroValue125
  i0 := by kernel_rfl
  i3 := by kernel_rfl
  i4 := by kernel_rfl
  i5 := by kernel_rfl
  i9 := by kernel_rfl
  i20 := by kernel_rfl
  i37 := by kernel_rfl
  i75 := by kernel_rfl
  i80 := by kernel_rfl
  m14 := by kernel_rfl }
open Go.RowKit in
/-- bytes.growSlice: "growSlice grows b by n, preserving the original content of b.": OF A SLICE THAT LIES AT THE HEAD OF A ROW: a new row, number 'w.heap.size': it begins with b's l cells; its capacity has room for n more; whatever lay below is as it was. (LAID: no walk: one application.) -/
theorem Tryf.bytes_growSlice_row (g l c n : Nat) (cur : Array Value) (w : World) (hg : w.heap[g]? = some (.cells cur 5 (0, 0))) (hcs : cur.size = c) (hlc : l ≤ c) (hn : 1 ≤ n) (hlim : l + n ≤ 140737488355328) (hc2 : c ≤ 140737488355328) (h1 : ∀ v ∈ cur.toList.take l, v.oneCell' = true) :
    Calls Tryf.prog 89 #[.slice (some ⟨g, 0, none⟩) l c, .int .i64 n] w fun e w' => ∃ cap2 cells, e = .returned (.slice (some ⟨w.heap.size, 0, none⟩) l cap2) ∧ w'.heap[w.heap.size]? = some (.cells cells 5 (0, 0)) ∧
      cells.size = cap2 ∧ cells.toList.take l = cur.toList.take l ∧ l + n ≤ cap2 ∧ cap2 ≤ maxLen ∧ Below w.heap.size w w' := Any.bytes_growSlice_row Tryf.laysM290 g l c n cur w hg hcs hlc hn hlim hc2 h1
open Go.RowKit in
/-- .. OF THE NIL SLICE: a new row with room for n. (LAID: no walk: one application.) -/
theorem Tryf.bytes_growSlice_nil (n : Nat) (w : World) (hn : 1 ≤ n) (hlim : n ≤ 140737488355328) :
    Calls Tryf.prog 89 #[.slice none 0 0, .int .i64 n] w fun e w' => ∃ cap2 cells, e = .returned (.slice (some ⟨w.heap.size, 0, none⟩) 0 cap2) ∧ w'.heap[w.heap.size]? = some (.cells cells 5 (0, 0)) ∧
      cells.size = cap2 ∧ n ≤ cap2 ∧ cap2 ≤ maxLen ∧ Below w.heap.size w w' := Any.bytes_growSlice_nil Tryf.laysM290 n w hn hlim
def Tryf.laysBin37_ren : Go.Shelf.Ren := ⟨fun | 37 => 58 | n => n, fun | 37 => 83 | 22 => 25 | 23 => 22 | 0 => 0 | 5 => 5 | 45 => 115 | n => n, fun | n => n⟩
theorem Tryf.laysBin37 : Go.Proofs.LaysBin.n37 Tryf.prog Tryf.laysBin37_ren := {
  mixed := by kernel_rfl
  f37 := Tryf.func58.trans (congrArg some (by kernel_rfl))
  t0 := Tryf.underlying0
  a0 := Tryf.isAgg0
  z0 := Tryf.sizeOf0
  v0 := Tryf.zeroValue0
  i0 := by kernel_rfl
  t5 := Tryf.underlying5
  a5 := Tryf.isAgg5
  z5 := Tryf.sizeOf5
  v5 := Tryf.zeroValue5
  i5 := by kernel_rfl
  t22 := Tryf.underlying25
  a22 := Tryf.isAgg25
  z22 := Tryf.sizeOf25
  v22 := Tryf.zeroValue25
  i22 := by kernel_rfl
  t23 := Tryf.underlying22
  a23 := Tryf.isAgg22
  z23 := Tryf.sizeOf22
  v23 := Tryf.zeroValue22
  i23 := by kernel_rfl
  t37 := Tryf.underlying83
  a37 := Tryf.isAgg83
  z37 := Tryf.sizeOf83
  v37 := Tryf.zeroValue83
  i37 := by kernel_rfl
  t45 := Tryf.underlying115
  a45 := Tryf.isAgg115
  z45 := Tryf.sizeOf115
  v45 := Tryf.zeroValue115
  i45 := by kernel_rfl }
open Go.RowKit in
/-- binary.BigEndian.PutUint16: "PutUint16 stores v into b[0:2].": v's 2 BYTES, the greatest first ('Lib.beBytes 2 v'), ARE LAID IN THE SLICE's FIRST 2 CELLS ('World.setCells'); nothing else turns (the receiver, an empty struct, is laid in a new block without cells). (LAID: no walk: one application.) -/
theorem Tryf.binary_BE_PutUint16 (g o n c v : Nat) (hv : v < 65536) (x0 x1 : Value) (w : World) (hn : 2 ≤ n) (c0 : w.cell? ⟨g, o, none⟩ = some x0) (c1 : w.cell? ⟨g, o + 1, none⟩ = some x1) (f0 : w.frozen? ⟨g, o, none⟩ = false) (f1 : w.frozen? ⟨g, o + 1, none⟩ = false) :
    Calls Tryf.prog 58 #[.agg #[], .slice (some ⟨g, o, none⟩) n c, .int .u16 v] w fun e w' => e = .returned (.tuple #[]) ∧ w' = (w.alloc (.cells #[] 83)).setCells g o (Lib.byteCells (Lib.beBytes 2 v)) := Any.binary_BE_PutUint16 Tryf.laysBin37 g o n c v hv x0 x1 w hn c0 c1 f0 f1
def Tryf.laysBin40_ren : Go.Shelf.Ren := ⟨fun | 40 => 59 | n => n, fun | 37 => 83 | 22 => 25 | 29 => 23 | 0 => 0 | 5 => 5 | 45 => 115 | n => n, fun | n => n⟩
theorem Tryf.laysBin40 : Go.Proofs.LaysBin.n40 Tryf.prog Tryf.laysBin40_ren := {
  mixed := by kernel_rfl
  f40 := Tryf.func59.trans (congrArg some (by kernel_rfl))
  t0 := Tryf.underlying0
  a0 := Tryf.isAgg0
  z0 := Tryf.sizeOf0
  v0 := Tryf.zeroValue0
  i0 := by kernel_rfl
  t5 := Tryf.underlying5
  a5 := Tryf.isAgg5
  z5 := Tryf.sizeOf5
  v5 := Tryf.zeroValue5
  i5 := by kernel_rfl
  t22 := Tryf.underlying25
  a22 := Tryf.isAgg25
  z22 := Tryf.sizeOf25
  v22 := Tryf.zeroValue25
  i22 := by kernel_rfl
  t29 := Tryf.underlying23
  a29 := Tryf.isAgg23
  z29 := Tryf.sizeOf23
  v29 := Tryf.zeroValue23
  i29 := by kernel_rfl
  t37 := Tryf.underlying83
  a37 := Tryf.isAgg83
  z37 := Tryf.sizeOf83
  v37 := Tryf.zeroValue83
  i37 := by kernel_rfl
  t45 := Tryf.underlying115
  a45 := Tryf.isAgg115
  z45 := Tryf.sizeOf115
  v45 := Tryf.zeroValue115
  i45 := by kernel_rfl }
open Go.RowKit in
/-- binary.BigEndian.PutUint32: "PutUint32 stores v into b[0:4].": v's 4 BYTES, the greatest first ('Lib.beBytes 4 v'), ARE LAID IN THE SLICE's FIRST 4 CELLS ('World.setCells'); nothing else turns (the receiver, an empty struct, is laid in a new block without cells). (LAID: no walk: one application.) -/
theorem Tryf.binary_BE_PutUint32 (g o n c v : Nat) (hv : v < 4294967296) (x0 x1 x2 x3 : Value) (w : World) (hn : 4 ≤ n) (c0 : w.cell? ⟨g, o, none⟩ = some x0) (c1 : w.cell? ⟨g, o + 1, none⟩ = some x1) (c2 : w.cell? ⟨g, o + 2, none⟩ = some x2) (c3 : w.cell? ⟨g, o + 3, none⟩ = some x3) (f0 : w.frozen? ⟨g, o, none⟩ = false) (f1 : w.frozen? ⟨g, o + 1, none⟩ = false) (f2 : w.frozen? ⟨g, o + 2, none⟩ = false) (f3 : w.frozen? ⟨g, o + 3, none⟩ = false) :
    Calls Tryf.prog 59 #[.agg #[], .slice (some ⟨g, o, none⟩) n c, .int .u32 v] w fun e w' => e = .returned (.tuple #[]) ∧ w' = (w.alloc (.cells #[] 83)).setCells g o (Lib.byteCells (Lib.beBytes 4 v)) := Any.binary_BE_PutUint32 Tryf.laysBin40 g o n c v hv x0 x1 x2 x3 w hn c0 c1 c2 c3 f0 f1 f2 f3
def Tryf.laysBin43_ren : Go.Shelf.Ren := ⟨fun | 43 => 60 | n => n, fun | 37 => 83 | 22 => 25 | 33 => 24 | 0 => 0 | 5 => 5 | 45 => 115 | n => n, fun | n => n⟩
theorem Tryf.laysBin43 : Go.Proofs.LaysBin.n43 Tryf.prog Tryf.laysBin43_ren := {
  mixed := by kernel_rfl
  f43 := Tryf.func60.trans (congrArg some (by kernel_rfl))
  t0 := Tryf.underlying0
  a0 := Tryf.isAgg0
  z0 := Tryf.sizeOf0
  v0 := Tryf.zeroValue0
  i0 := by kernel_rfl
  t5 := Tryf.underlying5
  a5 := Tryf.isAgg5
  z5 := Tryf.sizeOf5
  v5 := Tryf.zeroValue5
  i5 := by kernel_rfl
  t22 := Tryf.underlying25
  a22 := Tryf.isAgg25
  z22 := Tryf.sizeOf25
  v22 := Tryf.zeroValue25
  i22 := by kernel_rfl
  t33 := Tryf.underlying24
  a33 := Tryf.isAgg24
  z33 := Tryf.sizeOf24
  v33 := Tryf.zeroValue24
  i33 := by kernel_rfl
  t37 := Tryf.underlying83
  a37 := Tryf.isAgg83
  z37 := Tryf.sizeOf83
  v37 := Tryf.zeroValue83
  i37 := by kernel_rfl
  t45 := Tryf.underlying115
  a45 := Tryf.isAgg115
  z45 := Tryf.sizeOf115
  v45 := Tryf.zeroValue115
  i45 := by kernel_rfl }
open Go.RowKit in
/-- binary.BigEndian.PutUint64: "PutUint64 stores v into b[0:8].": v's 8 BYTES, the greatest first ('Lib.beBytes 8 v'), ARE LAID IN THE SLICE's FIRST 8 CELLS ('World.setCells'); nothing else turns (the receiver, an empty struct, is laid in a new block without cells). (LAID: no walk: one application.) -/
theorem Tryf.binary_BE_PutUint64 (g o n c v : Nat) (hv : v < 18446744073709551616) (x0 x1 x2 x3 x4 x5 x6 x7 : Value) (w : World) (hn : 8 ≤ n) (c0 : w.cell? ⟨g, o, none⟩ = some x0) (c1 : w.cell? ⟨g, o + 1, none⟩ = some x1) (c2 : w.cell? ⟨g, o + 2, none⟩ = some x2) (c3 : w.cell? ⟨g, o + 3, none⟩ = some x3) (c4 : w.cell? ⟨g, o + 4, none⟩ = some x4) (c5 : w.cell? ⟨g, o + 5, none⟩ = some x5) (c6 : w.cell? ⟨g, o + 6, none⟩ = some x6) (c7 : w.cell? ⟨g, o + 7, none⟩ = some x7) (f0 : w.frozen? ⟨g, o, none⟩ = false) (f1 : w.frozen? ⟨g, o + 1, none⟩ = false) (f2 : w.frozen? ⟨g, o + 2, none⟩ = false) (f3 : w.frozen? ⟨g, o + 3, none⟩ = false) (f4 : w.frozen? ⟨g, o + 4, none⟩ = false) (f5 : w.frozen? ⟨g, o + 5, none⟩ = false) (f6 : w.frozen? ⟨g, o + 6, none⟩ = false) (f7 : w.frozen? ⟨g, o + 7, none⟩ = false) :
    Calls Tryf.prog 60 #[.agg #[], .slice (some ⟨g, o, none⟩) n c, .int .u64 v] w fun e w' => e = .returned (.tuple #[]) ∧ w' = (w.alloc (.cells #[] 83)).setCells g o (Lib.byteCells (Lib.beBytes 8 v)) := Any.binary_BE_PutUint64 Tryf.laysBin43 g o n c v hv x0 x1 x2 x3 x4 x5 x6 x7 w hn c0 c1 c2 c3 c4 c5 c6 c7 f0 f1 f2 f3 f4 f5 f6 f7
end Go.Proofs

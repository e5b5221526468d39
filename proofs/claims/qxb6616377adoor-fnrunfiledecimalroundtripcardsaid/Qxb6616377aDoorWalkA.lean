import Derived.Test.Qxb6616377aDoorRows
import Derived.Test.Qxb6616377aDoorShelf
import Derived.Test.Qxb6616377aDoorPlain
import Derived.WalkKit
import Derived.WalkLawsBesides
import Derived.Handy
import Derived.WalkSpells
import Derived.Deep.LoopGhost
import Derived.Deep.QuietTactic
import Derived.BigQuiet
namespace Go.Proofs.Qxb6616377aDoor
open Go.RowKit
set_option linter.unusedVariables false
set_option linter.unusedSimpArgs false

/-- The table's name, as the row types it. -/
def tabName : String := Rows.fnRunFileDecimalRoundTripRow.named.headD (String.ofList [])
/-- The table of powers of ten lies as listed. -/
def Tab (w : World) : Prop := Lib.TabIs Tryd.prog w tabName .u64 Lib.pow10Tab
theorem tabG : Tryd.prog.globalNamed tabName = some 0 := by kernel_rfl

theorem Tab.below {w w' : World} {B : Nat} (h : Tab w) (hb : Below B w w') (hB : 0 < B) : Tab w' := var?_below hb tabG hB h

/-- The numeral as a string. -/
def itoaB (n : Int) : ByteArray := ⟨(Lib.itoa n).toArray⟩
def jsonB : ByteArray := ⟨#[46, 106, 115, 111, 110]⟩
/-- The file's name. -/
def runB (n : Int) : ByteArray := itoaB n ++ jsonB

theorem itoaB_size (n : Int) (h0 : -9223372036854775808 ≤ n) (h1 : n ≤ 9223372036854775807) : (itoaB n).size ≤ 21 := by
  have := Lib.itoa_length_le n h0 h1
  simpa [itoaB, ByteArray.size] using this

theorem below_grow0 (w : World) (k : Nat) (os : Array Obj) : Below w.heap.size w (Sort.grow (w.drewN k) os) :=
  ⟨rfl, rfl, rfl, by simp [Sort.grow], fun i hi => by simp [Sort.grow, Array.getElem?_append, hi]⟩

theorem f8_any (n : Int) (w : World) (h0 : -9223372036854775808 ≤ n) (h1 : n ≤ 9223372036854775807) (ht : Tab w) :
    Calls Tryd.prog 8 #[.int .i64 n] w fun e w' => e = .returned (.string (itoaB n)) ∧ Below w.heap.size w w' :=
  (Any.strconv_Itoa Tryd.laysM171 n h0 h1 w ht).mono fun e w' ⟨he, k, os, hw⟩ => ⟨he, by rw [hw]; exact below_grow0 w k os⟩

set_option maxHeartbeats 400000 in
theorem f7_any (n : Int) (w : World) (h0 : -9223372036854775808 ≤ n) (h1 : n ≤ 9223372036854775807) (ht : Tab w) :
    Calls Tryd.prog 7 #[.int .i64 n] w fun e w' => e = .returned (.string (runB n)) ∧ Below w.heap.size w w' := by
  have hc := f8_any n w h0 h1 ht
  have hs := itoaB_size n h0 h1
  clear ht
  generalize hS : itoaB n = S at hc hs
  have HS : Hid (itoaB n = S) := hS
  clear hS
  go_enter Tryd.func7, Tryd.ntmps7
  go_wp2_with (go_at_call 8; refine hc.mono ?_; rintro e w1 ⟨rfl, hb⟩)
  go_ret
  exact ⟨by rw [runB, HS.out]; rfl, hb⟩

set_option maxHeartbeats 400000 in
theorem f5_any (n : Int) (w : World) (h0 : -9223372036854775808 ≤ n) (h1 : n ≤ 9223372036854775807) (ht : Tab w) :
    Calls Tryd.prog 5 #[.int .i64 n] w fun e w' => e = .returned (.string (runB n)) ∧ Below w.heap.size w w' := by
  have hc := f7_any n w h0 h1 ht
  clear ht
  generalize runB n = S at hc ⊢
  go_enter Tryd.func5, Tryd.ntmps5
  go_wp2_with (go_at_call 7; refine hc.mono ?_; rintro e w1 ⟨rfl, hb⟩)
  go_ret
  exact ⟨rfl, hb⟩
end Go.Proofs.Qxb6616377aDoor

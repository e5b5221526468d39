import Derived.Test.Qxb6615679aFmtWalkJ
import Derived.Stop.CallBack
import Derived.Stop.IfaceNil
import GoSem.ClaimData
namespace Go.Proofs.Qxb6615679aFmt
open Go.RowKit Go.Extern.Stop Go.Stop Go.Extern
set_option linter.unusedVariables false
set_option linter.unusedSimpArgs false

/-- The format of the refusal. -/
def fmtS : ByteArray := ⟨#[112, 97, 99, 107, 101, 116, 32, 111, 102, 32, 37, 100, 32, 98, 121, 116, 101, 115, 32, 111, 102, 32, 101, 120, 116, 114, 97, 115, 44, 32, 37, 100, 32, 111, 102, 32, 107, 101, 121, 32, 97, 110, 100, 32, 37, 100, 32, 111, 102, 32, 118, 97, 108, 117, 101, 32, 105, 115, 32, 98, 101, 121, 111, 110, 100, 32, 116, 104, 101, 32, 108, 105, 109, 105, 116, 115]⟩
def shape3 : List UInt8 := [5, 3, 0, 0, 0, 0, 0, 0, 0, 105, 110, 116]
theorem call56 (args : Array Value) (w : World) : (callFunc 56 args).run Tryf.prog w = ((FmtStop.errorf #[9, 106] #[47] args).run Tryf.prog w).andThen fun v w' => .ok (.value v) w' :=
  run_callFunc_extern Tryf.func56 (by kernel_rfl) (by kernel_rfl) (by kernel_rfl) (by kernel_rfl) args w
theorem guardF (name : String) (w : World) : (FmtStop.guard name).run Tryf.prog w = .ok () w := by kernel_rfl
theorem fmt0 : FmtStop.printed? ⟨#[112, 97, 99, 107, 101, 116, 32, 111, 102, 32, 37, 100, 32, 98, 121, 116, 101, 115, 32, 111, 102, 32, 101, 120, 116, 114, 97, 115, 44, 32, 37, 100, 32, 111, 102, 32, 107, 101, 121, 32, 97, 110, 100, 32, 37, 100, 32, 111, 102, 32, 118, 97, 108, 117, 101, 32, 105, 115, 32, 98, 101, 121, 111, 110, 100, 32, 116, 104, 101, 32, 108, 105, 109, 105, 116, 115]⟩ 3 = some [(0, 100, false), (1, 100, false), (2, 100, false)] := by kernel_rfl
theorem fmt0r (w : World) : (FmtDoors.printed ⟨#[112, 97, 99, 107, 101, 116, 32, 111, 102, 32, 37, 100, 32, 98, 121, 116, 101, 115, 32, 111, 102, 32, 101, 120, 116, 114, 97, 115, 44, 32, 37, 100, 32, 111, 102, 32, 107, 101, 121, 32, 97, 110, 100, 32, 37, 100, 32, 111, 102, 32, 118, 97, 108, 117, 101, 32, 105, 115, 32, 98, 101, 121, 111, 110, 100, 32, 116, 104, 101, 32, 108, 105, 109, 105, 116, 115]⟩ 3).run Tryf.prog w = .ok [(0, 100, false), (1, 100, false), (2, 100, false)] w := by kernel_rfl
theorem op3_100 (name : String) (x : Int) (w : World) : (FmtStop.operand name false 100 false (.iface 3 (.int .i64 x))).run Tryf.prog w = .ok (shape3, Go.Extern.Stop.digits 8 (x % 2 ^ 64).toNat) w := by kernel_rfl
theorem op3_100w (name : String) (x : Int) (w : World) : (FmtStop.operand name true 100 false (.iface 3 (.int .i64 x))).run Tryf.prog w = .ok (shape3, Go.Extern.Stop.digits 8 (x % 2 ^ 64).toNat) w := by kernel_rfl
theorem ptr121 (w : World) : (FmtStop.ptrTo "errors.errorString").run Tryf.prog w = .ok 121 w := by kernel_rfl
theorem elem121 (w : World) : (elemOf 121).run Tryf.prog w = .ok 123 w := by kernel_rfl

set_option maxHeartbeats 4000000 in
set_option maxRecDepth 100000 in
/-- fmt.Errorf at the refusal: an error, not nil. -/
theorem f42_to (F : Interp) (g : Nat) (x1 x2 x3 : Int) (w : World) (hF : F.answers w.tape) (c0 : w.cell? ⟨g, 0, none⟩ = some (.iface 3 (.int .i64 x1))) (c1 : w.cell? ⟨g, 1, none⟩ = some (.iface 3 (.int .i64 x2))) (c2 : w.cell? ⟨g, 2, none⟩ = some (.iface 3 (.int .i64 x3))) :
    Calls Tryf.prog 42 #[.string ⟨#[112, 97, 99, 107, 101, 116, 32, 111, 102, 32, 37, 100, 32, 98, 121, 116, 101, 115, 32, 111, 102, 32, 101, 120, 116, 114, 97, 115, 44, 32, 37, 100, 32, 111, 102, 32, 107, 101, 121, 32, 97, 110, 100, 32, 37, 100, 32, 111, 102, 32, 118, 97, 108, 117, 101, 32, 105, 115, 32, 98, 101, 121, 111, 110, 100, 32, 116, 104, 101, 32, 108, 105, 109, 105, 116, 115]⟩, .slice (some ⟨g, 0, none⟩) 3 3] w fun e w' => (∃ p, e = .returned (.iface 121 p)) ∧ w.grownBy w' none := by
  have hF' := answers_open hF
  have k1 := call56
  have k2 := guardF
  have k3 := fmt0
  have k4 := fmt0r
  have k5 := op3_100
  have k6 := op3_100w
  have k7 := ptr121
  have k8 := elem121
  go_enter Tryf.func42, Tryf.ntmps42
  go_wp2
  go_ret
  refine ⟨⟨_, rfl⟩, ?_⟩
  first
    | exact grownBy_trans_none (World.grownBy_alloc _ _ _) (grownBy_drewN _ 1 none)
    | exact grownBy_trans_none (grownBy_drewN _ 1 none) (World.grownBy_alloc _ _ _)
    | exact World.grownBy_alloc _ _ _

theorem cell_here {w : World} {c : Array Value} {t : TypeId} {n i : Nat} {v : Option Value} (h : n = w.heap.size) (hv : c[i]? = v) : (w.alloc (.cells c t)).cell? ⟨n, i, none⟩ = v := by
  subst h; exact (World.cell?_alloc_new _ _ _ _).trans hv

set_option maxHeartbeats 4000000 in
set_option maxRecDepth 100000 in
/-- writePacket beyond the limits. -/
theorem f29_no (F : Interp) (wb : Nat) (w : World) (magic opc dt f6 opq cas : Nat) (a1 a2 a3 : Option Addr) (n1 n2 n3 c1 c2 c3 : Nat) (hF : F.answers w.tape)
    (q1 : n1 ≤ 1048576) (q2 : n2 ≤ 1048576) (q3 : n3 ≤ 1048576) (hno : ¬ (n1 ≤ 255 ∧ n2 ≤ 250)) :
    Calls Tryf.prog 29 #[.pointer (some ⟨wb, 0, none⟩), .agg #[.int .u8 magic, .int .u8 opc, .int .u16 0, .int .u8 0, .int .u8 dt, .int .u16 f6, .int .u32 0, .int .u32 opq, .int .u64 cas], .slice a1 n1 c1, .slice a2 n2 c2, .slice a3 n3 c3] w fun e w' => (∃ p, e = .returned (.iface 121 p)) ∧ w.grownBy w' none := by
  have HF := hide hF
  clear hF
  go_enter Tryf.func29, Tryf.ntmps29
  go_wp2_with fail
  all_goals (
    refine (f42_to F (w.heap.size + 1) n1 n2 n3 _ (by exact HF.out) (cell_here (by simp [World.size_alloc]) rfl) (cell_here (by simp [World.size_alloc]) rfl) (cell_here (by simp [World.size_alloc]) rfl)).mono ?_
    rintro e w2 ⟨⟨p, rfl⟩, hg⟩
    have HG := hide hg
    clear hg
    go_wp2
    go_ret
    exact ⟨⟨p, rfl⟩, grownBy_trans_none (World.grownBy_alloc _ _ _) (grownBy_trans_none (World.grownBy_alloc _ _ _) HG.out)⟩)
end Go.Proofs.Qxb6615679aFmt

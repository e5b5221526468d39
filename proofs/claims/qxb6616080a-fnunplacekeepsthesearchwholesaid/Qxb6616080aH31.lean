import Derived.Test.Qxb6616080aSx
import Derived.Test.Qxb6616080aEn
namespace Go.Proofs.Qxb6616080a
open Go.RowKit
set_option linter.unusedVariables false
set_option linter.unusedSimpArgs false
set_option maxRecDepth 100000
section
variable {τ : Nat → Nat} {w : World} {X H : Nat} {T : Ad} {E : Env} {tp : Int} {hh : Nat}

set_option maxHeartbeats 8000000 in
/-- 'flip' -/
theorem f31_to (hS : Sx τ w X H T E tp hh) (b : Bool) (v z : Int) (num : Nat) (hnum : num < 2 ^ 64) (hsd : E.seed < 2 ^ 64) (hhh : hh < 2 ^ 64)
    (hcall : ∀ w, Calls Try.prog 37 #[.agg #[.bool b, .int .i32 v, .int .i32 z]] w fun e w' => e = .returned (.int .u64 (num : Nat)) ∧ Below w.heap.size w w') :
    Calls Try.prog 31 #[.pointer (some ⟨X, 0, none⟩), .agg #[.bool b, .int .i32 v, .int .i32 z]] w fun e w' => e = .returned (.tuple #[]) ∧ Sx τ w' X H T E tp (hh ^^^ zmix ((num + E.seed) % 2 ^ 64)) ∧ Fx (fun t => t = 50) τ w w' ∧ hh ^^^ zmix ((num + E.seed) % 2 ^ 64) < 2 ^ 64 := by
  have hlt := hS.lt
  have hz := zmixI_nat ((num + E.seed) % 2 ^ 64)
  have hzl := zmix_lt ((num + E.seed) % 2 ^ 64)
  have e1 : IntKind.u64.wrap ((num : Int) + (E.seed : Int)) = (((num + E.seed) % 2 ^ 64 : Nat) : Int) := by
    have := wrapu_mod (num + E.seed)
    simpa using this
  generalize hx : (num + E.seed) % 2 ^ 64 = x at *
  generalize hzx : zmix x = zx at *
  have e2 : bits .xor .u64 (hh : Int) (zmixI (x : Int)) = ((hh ^^^ zx : Nat) : Int) := by rw [hz]; exact bits_xor hhh hzl
  have hxl : hh ^^^ zx < 2 ^ 64 := Nat.xor_lt_two_pow hhh hzl
  have HZ := hide hz
  obtain ⟨y, hy⟩ : ∃ y, hh ^^^ zx = y := ⟨_, rfl⟩
  rw [hy] at e2 hxl ⊢
  unfold zmixI at e2
  have hc := hide hcall
  obtain ⟨W, hW⟩ : ∃ W, w.alloc (.cells #[.bool b, .int .i32 v, .int .i32 z] 79) = W := ⟨_, rfl⟩
  obtain ⟨g, hg⟩ : ∃ g, w.heap.size = g := ⟨_, rfl⟩
  have hbw : Below w.heap.size w W := hW ▸ (Below.refl _ _).alloc (Nat.le_refl _) _
  have hSW := hS.below hbw
  have c0 : W.cell? ⟨g, 0, none⟩ = some (.bool b) := by rw [← hW, ← hg, World.cell?_alloc_new]; rfl
  have c1 : W.cell? ⟨g, 1, none⟩ = some (.int .i32 v) := by rw [← hW, ← hg, World.cell?_alloc_new]; rfl
  have c2 : W.cell? ⟨g, 2, none⟩ = some (.int .i32 z) := by rw [← hW, ← hg, World.cell?_alloc_new]; rfl
  have hgW : g < W.heap.size := by rw [← hW, ← hg]; simp
  have hXW : X < W.heap.size := hSW.lt
  have x27W := hSW.x27
  have HS := hide hSW
  have HB := hide hbw
  clear hS hcall hz hzl hx hzx hy hbw hSW hlt
  go_enter Try.func31, Try.ntmps31
  go_wp2_with fail
  go_region_held3 (fun w' => w'.cell? ⟨X, 27, none⟩ = some (.int .u64 (E.seed : Nat)) ∧ w'.cell? ⟨g, 0, none⟩ = some (.bool b) ∧ w'.cell? ⟨g, 1, none⟩ = some (.int .i32 v) ∧ w'.cell? ⟨g, 2, none⟩ = some (.int .i32 z))
    (first | exact ⟨x27W, c0, c1, c2⟩ | exact ⟨(hb1.out.cell (p := ⟨X, 27, none⟩) hXW).trans x27W, (hb1.out.cell (p := ⟨g, 0, none⟩) hgW).trans c0, (hb1.out.cell (p := ⟨g, 1, none⟩) hgW).trans c1, (hb1.out.cell (p := ⟨g, 2, none⟩) hgW).trans c2⟩)
    ((go_at_call 37; refine (hc.out _).mono ?_; rintro e w1 ⟨rfl, hb1'⟩; have hb1 := hide hb1'; clear hb1'))
  have hS1 := HS.out.below (w' := w1) (by exact ⟨hb1.out.os, hb1.out.tape, hb1.out.output, hb1.out.size, hb1.out.block⟩)
  have HS1 := hide hS1
  have x27 := hS1.x27
  have x28 := hS1.x28
  have xf := hS1.frozen 28
  clear hS1
  have HF := hide (HS1.out.setHash y)
  go_wp2_with fail
  refine bodyPost_end (results_none rfl _ _ _) rfl ?_
  refine ⟨rfl, HF.out, ?_, by assumption⟩
  refine Fx.setCell ?_ (show τ X = 50 from HS.out.tx) _
  exact (Fx.ofBelow HB.out).trans (Fx.ofBelow (w := W) ⟨hb1.out.os, hb1.out.tape, hb1.out.output, hb1.out.size, hb1.out.block⟩)
end
end Go.Proofs.Qxb6616080a

/- THE FRAME AS A FUNCTION: laws for a walk over a frame that is never written out; rows of cells as functions. -/
import Derived.Test.Qxb6616080aProg
import Derived.WalkKit
import Derived.WalkLawsBesides
import Derived.Handy
import Derived.WalkSpells
import Derived.Deep.LoopGhost
import Derived.Deep.QuietTactic
import Derived.BigQuiet
import Derived.Below
namespace Go.Proofs.Qxb6616080a
open Go.RowKit
set_option linter.unusedVariables false
set_option linter.unusedSimpArgs false

theorem hide {p : Prop} (h : p) : Hid p := h

def fset (f : Nat → Value) (i : Nat) (v : Value) : Nat → Value := fun j => if j = i then v else f j
theorem fset_at : ∀ (f : Nat → Value) (i : Nat) (v : Value) (j : Nat), fset f i v j = if j = i then v else f j := fun _ _ _ _ => rfl
theorem fset_self (f : Nat → Value) (i : Nat) (v : Value) : fset f i v i = v := by simp [fset]
theorem fset_ne (f : Nat → Value) {i j : Nat} (v : Value) (h : j ≠ i) : fset f i v j = f j := by simp [fset, h]

/-- The frame a holds f in its first N slots. -/
def Hol (N : Nat) (a : Act) (f : Nat → Value) : Prop := ∀ j, j < N → a.tmps[j]? = some (f j)

theorem Hol.put {N : Nat} {a : Act} {f : Nat → Value} (h : Hol N a f) {d : Nat} (hd : d < N) (v : Value) : Hol N ⟨a.tmps.setIfInBounds d v, a.defers⟩ (fset f d v) := by
  intro j hj
  have hs : d < a.tmps.size := by
    have := h d hd
    exact (Array.getElem?_eq_some_iff.1 this).1
  show (a.tmps.setIfInBounds d v)[j]? = _
  unfold fset
  by_cases e : j = d
  · subst e; simp [hs]
  · rw [Array.getElem?_setIfInBounds_ne (fun h => e h.symm), h j hj, if_neg e]

theorem wpList_put {P : Program} {ops : Array Oper} {Q : Exit → Act → World → Prop} {rest : List Oper} {N : Nat} {a : Act} {f : Nat → Value} {w : World} {d : Nat} {v : Value}
    (hD : a.defers = []) (hV : ∀ j, j < N → a.tmps[j]? = some (f j)) (hd : d < N)
    (h : ∀ a' : Act, a'.defers = [] → (∀ j, j < N → a'.tmps[j]? = some (fset f d v j)) → wpList P ops Q rest a' w) : wpList P ops Q rest ⟨a.tmps.setIfInBounds d v, []⟩ w :=
  h _ rfl (hD ▸ Hol.put hV hd v : Hol N ⟨a.tmps.setIfInBounds d v, []⟩ (fset f d v))
/-- The same in a region that draws its order and only reads. -/
theorem wpQuiet_put {P : Program} {ops : Array Oper} {C : World → Prop} {Q : Act → Prop} {rest : List Oper} {N : Nat} {a : Act} {f : Nat → Value} {d : Nat} {v : Value}
    (hD : a.defers = []) (hV : ∀ j, j < N → a.tmps[j]? = some (f j)) (hd : d < N)
    (h : ∀ a' : Act, a'.defers = [] → (∀ j, j < N → a'.tmps[j]? = some (fset f d v j)) → wpQuiet P ops C Q rest a') : wpQuiet P ops C Q rest ⟨a.tmps.setIfInBounds d v, []⟩ :=
  h _ rfl (hD ▸ Hol.put hV hd v : Hol N ⟨a.tmps.setIfInBounds d v, []⟩ (fset f d v))

/-- A loop, its invariant over the frame as a function, with a number that every round lowers. -/
theorem wp_loop_f {P : Program} {N : Nat} {c : Code} {Q : Exit → Act → World → Prop} {a : Act} {w : World} {f : Nat → Value} (J : Nat → (Nat → Value) → World → Prop) (n0 : Nat)
    (hD : a.defers = []) (hV : ∀ j, j < N → a.tmps[j]? = some (f j)) (h0 : J n0 f w)
    (round : ∀ m f w a, a.defers = [] → (∀ j, j < N → a.tmps[j]? = some (f j)) → J m f w →
      ∀ K : Act → World → Prop, (∀ a' w' f' m', a'.defers = [] → (∀ j, j < N → a'.tmps[j]? = some (f' j)) → m' < m → J m' f' w' → K a' w') → c.wp P (Exit.then K Q) a w) : (Code.loop c).wp P Q a w :=
  wp_loop_ghost (fun m a w => ∃ f, a.defers = [] ∧ (∀ j, j < N → a.tmps[j]? = some (f j)) ∧ J m f w) n0 ⟨f, hD, hV, h0⟩ fun m a w ⟨f, hD, hV, hJ⟩ =>
    round m f w a hD hV hJ _ fun a' w' f' m' h1 h2 h3 h4 => ⟨m', h3, f', h1, h2, h4⟩

/-- A piece of a function's code. -/
def sub : List Nat → Code → Code
  | [], c => c
  | 0 :: p, .seq a _ => sub p a
  | 1 :: p, .seq _ b => sub p b
  | 0 :: p, .cond _ a _ => sub p a
  | 1 :: p, .cond _ _ b => sub p b
  | 0 :: p, .block _ c => sub p c
  | 0 :: p, .loop c => sub p c
  | _, c => c

theorem cell_far (w : World) (p a : Addr) (v : Value) (h : p.block ≠ a.block) : (w.setCell p v).cell? a = w.cell? a := World.cell?_of_block (Below.heap_setCell w p v a.block (fun e => h e.symm))

/-! Rows of cells. -/
/-- Block g is a row of n cells that holds v. -/
def Arr (w : World) (g n : Nat) (ty : TypeId) (v : Nat → Value) : Prop := ∃ xs : Array Value, w.heap[g]? = some (.cells xs ty (0, 0)) ∧ xs.size = n ∧ ∀ j, j < n → xs[j]? = some (v j)

theorem Arr.cell {w : World} {g n : Nat} {ty : TypeId} {v : Nat → Value} (h : Arr w g n ty v) {j : Nat} (hj : j < n) : w.cell? ⟨g, j, none⟩ = some (v j) := by
  obtain ⟨xs, h1, _, h3⟩ := h
  simp [World.cell?, h1, h3 j hj]
theorem Arr.frozen {w : World} {g n : Nat} {ty : TypeId} {v : Nat → Value} (h : Arr w g n ty v) (j : Nat) : w.frozen? ⟨g, j, none⟩ = false := by
  obtain ⟨xs, h1, _, _⟩ := h
  exact frozen_of_row _ _ _ _ _ h1
theorem Arr.lt {w : World} {g n : Nat} {ty : TypeId} {v : Nat → Value} (h : Arr w g n ty v) : g < w.heap.size := by
  obtain ⟨xs, h1, _, _⟩ := h
  exact (Array.getElem?_eq_some_iff.1 h1).1
theorem Arr.of_block {w w' : World} {g n : Nat} {ty : TypeId} {v : Nat → Value} (h : Arr w g n ty v) (hb : w'.heap[g]? = w.heap[g]?) : Arr w' g n ty v := by
  obtain ⟨xs, h1, h2⟩ := h
  exact ⟨xs, hb.trans h1, h2⟩
theorem Arr.congr {w : World} {g n : Nat} {ty : TypeId} {v u : Nat → Value} (h : Arr w g n ty v) (he : ∀ j, j < n → v j = u j) : Arr w g n ty u := by
  obtain ⟨xs, h1, h2, h3⟩ := h
  exact ⟨xs, h1, h2, fun j hj => (h3 j hj).trans (by rw [he j hj])⟩
theorem Arr.set {w : World} {g n : Nat} {ty : TypeId} {v : Nat → Value} (h : Arr w g n ty v) {j : Nat} (hj : j < n) (u : Value) : Arr (w.setCell ⟨g, j, none⟩ u) g n ty (fset v j u) := by
  obtain ⟨xs, h1, h2, h3⟩ := h
  have hg := (Array.getElem?_eq_some_iff.1 h1).1
  refine ⟨xs.setIfInBounds j u, ?_, by simpa using h2, fun i hi => ?_⟩
  · simp only [World.setCell, Array.getElem?_modify, h1]
    simp
  · by_cases e : i = j
    · subst e; simp [h2, hi, fset]
    · rw [Array.getElem?_setIfInBounds_ne (fun h => e h.symm), h3 i hi, fset_ne _ _ e]
theorem Arr.far {w : World} {g n : Nat} {ty : TypeId} {v : Nat → Value} (h : Arr w g n ty v) {p : Addr} (hp : g ≠ p.block) (u : Value) : Arr (w.setCell p u) g n ty v :=
  h.of_block (Below.heap_setCell w p u g hp)
theorem Arr.alloc {w : World} {g n : Nat} {ty : TypeId} {v : Nat → Value} (h : Arr w g n ty v) (o : Obj) : Arr (w.alloc o) g n ty v :=
  h.of_block (Below.heap_alloc w o g h.lt)
theorem Arr.drewN {w : World} {g n : Nat} {ty : TypeId} {v : Nat → Value} (h : Arr w g n ty v) (k : Nat) : Arr (w.drewN k) g n ty v := h
theorem Arr.below {B : Nat} {w w' : World} {g n : Nat} {ty : TypeId} {v : Nat → Value} (h : Arr w g n ty v) (hb : Below B w w') (hg : g < B) : Arr w' g n ty v := h.of_block (hb.block g hg)
theorem Arr.new (w : World) (n : Nat) (ty : TypeId) (z : Value) : Arr (w.alloc (.cells (madeCells #[z] n) ty)) w.heap.size n ty (fun _ => z) := by
  refine ⟨madeCells #[z] n, ?_, size_madeCells _ _, fun j hj => ?_⟩
  · show (w.heap.push _)[w.heap.size]? = _
    simp
  · simp [madeCells, hj, Nat.mod_one]
theorem bdrewN {B : Nat} {a w : World} (h : Below B a w) (k : Nat) : Below B a (w.drewN k) := ⟨h.os, h.tape, h.output, h.size, h.block⟩
end Go.Proofs.Qxb6616080a

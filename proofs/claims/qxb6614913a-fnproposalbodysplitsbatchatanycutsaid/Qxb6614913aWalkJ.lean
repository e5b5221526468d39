import Derived.Test.Qxb6614913aWalkI
namespace Go.Proofs.Qxb6614913a
open Go.RowKit
set_option linter.unusedVariables false
set_option linter.unusedSimpArgs false

/-- WHAT 'ZZnewEntry' LEAVES: the boxes lie in new memory. -/
structure NewEnt (w w' : World) (hc : Bool) (join : Bool) (name addr : ByteArray) (hf : Bool) (st : Value) (hs : Bool) (d : SetD) (co fo so : Option Addr) : Prop where
  grown : w.grownBy w' none
  chg : (hc = false ∧ co = none) ∨ (hc = true ∧ ∃ g, co = some ⟨g, 0, none⟩ ∧ w.heap.size ≤ g ∧ g < w'.heap.size ∧ w'.cell? ⟨g, 0, none⟩ = some (.bool join) ∧ w'.cell? ⟨g, 1, none⟩ = some (.string name) ∧ w'.cell? ⟨g, 2, none⟩ = some (.string addr))
  fls : (hf = false ∧ fo = none) ∨ (hf = true ∧ ∃ g, fo = some ⟨g, 0, none⟩ ∧ w.heap.size ≤ g ∧ g < w'.heap.size ∧ w'.cell? ⟨g, 0, none⟩ = some st)
  set : (hs = false ∧ so = none) ∨ (hs = true ∧ ∃ g, so = some ⟨g, 0, none⟩ ∧ w.heap.size ≤ g ∧ g < w'.heap.size ∧ ∀ j, w'.cell? ⟨g, j, none⟩ = d.vals[j]?)

theorem grownBy_alloc_of {w w1 : World} (h : w.grownBy w1 none) (o : Obj) : w.grownBy (w1.alloc o) none := grownBy_trans_none h (World.grownBy_alloc _ _ _)
theorem cell_here {w : World} {c : Array Value} {t : TypeId} {n i : Nat} {v : Option Value} (h : n = w.heap.size) (hv : c[i]? = v) : (w.alloc (.cells c t)).cell? ⟨n, i, none⟩ = v := by
  subst h; exact (World.cell?_alloc_new _ _ _ _).trans hv
theorem cell_down {w : World} {o : Obj} {n i : Nat} {v : Option Value} (h : n < w.heap.size) (hv : w.cell? ⟨n, i, none⟩ = v) : (w.alloc o).cell? ⟨n, i, none⟩ = v :=
  (World.cell?_alloc_lt _ _ _ h).trans hv

set_option maxHeartbeats 4000000 in
set_option maxRecDepth 100000 in
theorem f11_any (frm : ByteArray) (seq : Int) (da : Option Addr) (dn dc : Nat) (hc join : Bool) (name addr : ByteArray) (hf : Bool) (sa : Option Addr) (sn sc : Nat) (hs read : Bool) (elem : ByteArray) (remove same : Bool) (at_ : Int) (spread ref : Bool) (w : World) :
    Calls Try.prog 11 #[.string frm, .int .u64 seq, .slice da dn dc, .bool hc, .bool join, .string name, .string addr, .bool hf, .slice sa sn sc, .bool hs, .bool read, .string elem, .bool remove, .bool same, .int .u64 at_, .bool spread, .bool ref] w fun e w' =>
      ∃ co fo so, e = .returned (.agg #[.string frm, .int .u64 seq, .slice da dn dc, .pointer co, .pointer fo, .pointer so, .bool spread, .bool ref]) ∧ NewEnt w w' hc join name addr hf (.slice sa sn sc) hs ⟨read, elem, remove, same, at_⟩ co fo so := by
  cases hc <;> cases hf <;> cases hs
  all_goals
    go_enter Try.func11, Try.ntmps11
    go_wp2
    go_returns
    refine ⟨_, _, _, rfl, ⟨?_, ?_, ?_, ?_⟩⟩
    · repeat (first | exact World.grownBy.refl _ _ | refine grownBy_alloc_of ?_ _)
    · first
        | exact .inl ⟨rfl, rfl⟩
        | (refine .inr ⟨rfl, _, rfl, by omega, by simp; try omega, ?_, ?_, ?_⟩ <;> (repeat (first | (refine cell_here ?_ rfl; (simp; done)) | (refine cell_down ?_ ?_; · (simp; try omega)))))
    · first
        | exact .inl ⟨rfl, rfl⟩
        | (refine .inr ⟨rfl, _, rfl, by omega, by simp; try omega, ?_⟩ <;> (repeat (first | (refine cell_here ?_ rfl; (simp; done)) | (refine cell_down ?_ ?_; · (simp; try omega)))))
    · first
        | exact .inl ⟨rfl, rfl⟩
        | (refine .inr ⟨rfl, _, rfl, by omega, by simp; try omega, fun j => ?_⟩ <;> (repeat (first | (refine cell_here ?_ rfl; (simp; done)) | (refine cell_down ?_ ?_; · (simp; try omega)))))
end Go.Proofs.Qxb6614913a

import Derived.Test.Qxb6616377aWalkB
namespace Go.Proofs.Qxb6616377a
set_option linter.unusedSimpArgs false
open Go.RowKit
set_option linter.unusedVariables false

set_option maxHeartbeats 400000 in
theorem f9_any (sb g n cap : Nat) (rb : Nat → Nat) (ids : List Int) (x : Int) (w : World) (hn : ids.length = n) (hsz : n ≤ 1048576)
    (hS : w.cell? ⟨sb, 20, none⟩ = some (.slice (some ⟨g, 0, none⟩) n cap))
    (hR : ∀ i, i < n → w.cell? ⟨g, i, none⟩ = some (.pointer (some ⟨rb i, 0, none⟩)))
    (hI : ∀ i, i < n → w.cell? ⟨rb i, 0, none⟩ = some (.int .i64 (ids.getD i 0)))
    (hs : Inc ids) :
    Calls Try.prog 9 #[.pointer (some ⟨sb, 0, none⟩), .int .i64 x] w fun e w' =>
      e = .returned (.tuple #[.int .i64 (lbd ids x : Nat), .bool (fnd ids x)]) ∧ w' = w := by
  have hc := f10_any g n cap rb ids x w hn hsz hR hI hs
  clear hn hR hI hs
  go_enter Try.func9, Try.ntmps9
  go_wp2_with (go_at_call 10; refine hc.mono ?_; rintro e w' ⟨rfl, rfl⟩)
  go_ret2
  exact ⟨rfl, rfl⟩

set_option maxHeartbeats 400000 in
theorem f6_any (sb g n cap : Nat) (rb : Nat → Nat) (ids : List Int) (x : Int) (w : World) (hn : ids.length = n) (hsz : n ≤ 1048576)
    (hS : w.cell? ⟨sb, 20, none⟩ = some (.slice (some ⟨g, 0, none⟩) n cap))
    (hR : ∀ i, i < n → w.cell? ⟨g, i, none⟩ = some (.pointer (some ⟨rb i, 0, none⟩)))
    (hI : ∀ i, i < n → w.cell? ⟨rb i, 0, none⟩ = some (.int .i64 (ids.getD i 0)))
    (hs : Inc ids) :
    Calls Try.prog 6 #[.pointer (some ⟨sb, 0, none⟩), .int .i64 x] w fun e w' =>
      e = .returned (.tuple #[.int .i64 (lbd ids x : Nat), .bool (fnd ids x)]) ∧ w' = w := by
  have hc := f9_any sb g n cap rb ids x w hn hsz hS hR hI hs
  clear hn hR hI hs hS
  go_enter Try.func6, Try.ntmps6
  go_wp2_with (go_at_call 9; refine hc.mono ?_; rintro e w' ⟨rfl, rfl⟩)
  go_ret2
  exact ⟨rfl, rfl⟩
end Go.Proofs.Qxb6616377a

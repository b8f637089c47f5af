import Derived.Test.Qxb6626311aCopy
import Derived.WalkSpells
namespace Go.Proofs.Qxb6626311a
open Go.ChangeShapes Go.WideShapes Go.ChangeAt Go.RowKit

set_option maxRecDepth 100000 in
set_option maxHeartbeats 400000 in
theorem bytes5 (k1 k2 : Int) (a : Option Addr) (n c : Nat) (w : World) (hn : n ≤ 2 ^ 63 - 1) : Calls Try.prog 5 #[.int .u8 k1, .int .u8 k2, .slice a n c] w fun e w' => ∃ t, e = .returned (.bool t) ∧ w = w' := by
  by_cases h1 : n ≤ 1048576
  · go_enter Try.func5, Try.ntmps5
    go_wp2
    all_goals (go_ret; exact ⟨_, rfl, rfl⟩)
  · go_enter Try.func5, Try.ntmps5
    go_wp2
    all_goals (go_ret; exact ⟨_, rfl, rfl⟩)

set_option maxRecDepth 100000 in
set_option maxHeartbeats 400000 in
theorem law1_long (cause other : Int) (a : Option Addr) (n c : Nat) (w : World) (hn : n ≤ 2 ^ 63 - 1) (h : 1048576 < n) :
    Calls Try.prog 3 #[.int .u8 cause, .int .u8 other, .slice a n c] w fun e w' => e = .returned (.bool true) ∧ Below w.heap.size w w' := by
  go_enter Try.func3, Try.ntmps3
  go_wp2_with fail
  refine (bytes5 _ _ _ _ _ _ hn).mono ?_
  rintro e w' ⟨t, rfl, rfl⟩
  cases t
  · go_wp2_with fail
    go_ret
    exact ⟨rfl, Below.refl _ _⟩
  go_wp2_with fail
  go_ret
  exact ⟨rfl, Below.refl _ _⟩

end Go.Proofs.Qxb6626311a

import Derived.Test.Qxb6625880aDepth
namespace Go.Proofs.Qxb6625880a
open Go.ChangeShapes Go.WideShapes Go.ChangeAt Go.RowKit

set_option maxHeartbeats 400000 in
theorem bytes5 (a b : Option Addr) (n m c d : Nat) (w : World) (hn : n ≤ 2 ^ 63 - 1) (hm : m ≤ 2 ^ 63 - 1) :
    Calls Try.prog 5 #[.slice a n c, .slice b m d] w fun e w' => ∃ t, e = .returned (.bool t) ∧ w = w' := by
  by_cases h1 : n ≤ 1048576
  · by_cases h2 : m ≤ 1048576
    · by_cases h3 : n + m ≤ 1048576
      · go_enter Try.func5, Try.ntmps5
        go_wp2
        all_goals (go_ret; exact ⟨_, rfl, rfl⟩)
      · go_enter Try.func5, Try.ntmps5
        go_wp2
        all_goals (go_ret; exact ⟨_, rfl, rfl⟩)
    · go_enter Try.func5, Try.ntmps5
      go_wp2
      all_goals (go_ret; exact ⟨_, rfl, rfl⟩)
  · go_enter Try.func5, Try.ntmps5
    go_wp2
    all_goals (go_ret; exact ⟨_, rfl, rfl⟩)

set_option maxHeartbeats 1000000 in
theorem law1 (a0 : Option Addr) (cap0 : Nat) (xs : List Int) (a1 : Option Addr) (cap1 : Nat) (ys : List Int) (w : World) (h0 : Ints w a0 xs) (h1 : Ints w a1 ys) :
    Calls Try.prog 3 #[.slice a0 xs.length cap0, .slice a1 ys.length cap1] w fun e w' => e = .returned (.bool true) ∧ Below w.heap.size w w' := by
  have l0 := h0.1
  have l1 := h1.1
  unfold maxLen at l0 l1
  by_cases hla : xs.length ≤ 65536
  · by_cases hlb : ys.length ≤ 65536
    · go_enter Try.func3, Try.ntmps3
      go_wp2_with fail
      refine (bytes5 _ _ _ _ _ _ _ l0 l1).mono ?_
      rintro e w' ⟨t, rfl, rfl⟩
      cases t
      · go_wp2_with fail
        go_ret
        exact ⟨rfl, Below.refl _ _⟩
      go_wp2_with fail
      refine (nonNeg _ _ _ _ h0).mono ?_
      rintro e w' ⟨rfl, rfl⟩
      cases hn0 : nn xs
      · go_wp2_with fail
        go_ret
        exact ⟨rfl, Below.refl _ _⟩
      go_wp2_with fail
      refine (nonNeg _ _ _ _ h1).mono ?_
      rintro e w' ⟨rfl, rfl⟩
      cases hn1 : nn ys
      · go_wp2_with fail
        go_ret
        exact ⟨rfl, Below.refl _ _⟩
      go_wp2_with fail
      refine (noFrame _).mono ?_
      rintro e w' ⟨rfl, rfl⟩
      go_wp2_with fail
      refine (chain _ _ _ _ _ _ h0).mono ?_
      rintro e wA ⟨fa, da, rfl, bA, cA⟩
      have bwA := bA
      go_wp2_with fail
      refine (noFrame _).mono ?_
      rintro e w' ⟨rfl, rfl⟩
      go_wp2_with fail
      refine (chain _ _ _ _ _ _ (h1.below bwA)).mono ?_
      rintro e wB ⟨fb, db, rfl, bB, cB⟩
      have bwB : Below w.heap.size w wB := bA.trans (bB.mono bA.size)
      go_wp2_with fail
      refine (chain _ _ _ _ _ _ (h1.below bwB)).mono ?_
      rintro e wC ⟨fc, dc, rfl, bC, cC⟩
      have bwC : Below w.heap.size w wC := bwB.trans (bC.mono bwB.size)
      have cA' : Chain wC xs.reverse fa none := (cA.below bB).below bC
      have cB' : Chain wC ys.reverse fb none := cB.below bC
      have cC' : Chain wC (ys.reverse ++ xs.reverse) fc none := cC.append cA'
      clear cA cB cC bA bB bC bwA
      have tA : tot xs.reverse = tot xs := tot_reverse xs
      have tB : tot ys.reverse = tot ys := tot_reverse ys
      have tC : tot (ys.reverse ++ xs.reverse) = tot xs + tot ys := by rw [tot_append, tA, tB]; omega
      have HT : Hid (tot xs.reverse = tot xs ∧ tot ys.reverse = tot ys ∧ tot (ys.reverse ++ xs.reverse) = tot xs + tot ys) := ⟨tA, tB, tC⟩
      clear tA tB tC
      go_wp2_with fail
      refine (newError _ _).mono ?_
      rintro e wD ⟨rfl, o0, o1, o2, o3, o4, o5, rfl⟩
      have bD : Below wC.heap.size wC (wC.alloc (.cells #[o0, o1, o2, o3, o4, o5, .pointer fa] 38)) := (Below.refl _ _).alloc (Nat.le_refl _) _
      go_wp2_with fail
      refine (callDepth _ fa _ _ (by simp [go_sem]) (cA'.below bD)).mono ?_
      rintro e w' ⟨rfl, rfl⟩
      rw [HT.out.1]
      go_wp2_with fail
      refine (newError _ _).mono ?_
      rintro e wE ⟨rfl, p0, p1, p2, p3, p4, p5, rfl⟩
      have bE := bD.alloc (by simp) (.cells #[p0, p1, p2, p3, p4, p5, .pointer fb] 38)
      go_wp2_with fail
      refine (callDepth _ fb _ _ (by simp [go_sem]) (cB'.below bE)).mono ?_
      rintro e w' ⟨rfl, rfl⟩
      rw [HT.out.2.1]
      go_wp2_with fail
      refine (newError _ _).mono ?_
      rintro e wF ⟨rfl, q0, q1, q2, q3, q4, q5, rfl⟩
      have bF := bE.alloc (by simp; omega) (.cells #[q0, q1, q2, q3, q4, q5, .pointer fc] 38)
      go_wp2_with fail
      refine (callDepth _ fc _ _ (by simp [go_sem]) (cC'.below bF)).mono ?_
      rintro e w' ⟨rfl, rfl⟩
      rw [HT.out.2.2]
      have bwF : Below w.heap.size w _ := bwC.trans (bF.mono bwC.size)
      have e1 : (wrap64 (tot xs + tot ys) == wrap64 (wrap64 (tot xs) + wrap64 (tot ys))) = true := by rw [w64_left, w64_right]; simp
      go_wp2_with fail
      refine (folds _ _ _ _ (h0.below bwF)).mono ?_
      rintro e w' ⟨rfl, rfl⟩
      go_wp2_with fail
      refine (folds _ _ _ _ (h1.below bwF)).mono ?_
      rintro e w' ⟨rfl, rfl⟩
      go_wp2_with fail
      go_ret
      exact ⟨rfl, bwF⟩
    · go_enter Try.func3, Try.ntmps3
      go_wp2_with fail
      refine (bytes5 _ _ _ _ _ _ _ l0 l1).mono ?_
      rintro e w' ⟨t, rfl, rfl⟩
      cases t
      · go_wp2_with fail
        go_ret
        exact ⟨rfl, Below.refl _ _⟩
      go_wp2_with fail
      go_ret
      exact ⟨rfl, Below.refl _ _⟩
  · go_enter Try.func3, Try.ntmps3
    go_wp2_with fail
    refine (bytes5 _ _ _ _ _ _ _ l0 l1).mono ?_
    rintro e w' ⟨t, rfl, rfl⟩
    cases t
    · go_wp2_with fail
      go_ret
      exact ⟨rfl, Below.refl _ _⟩
    go_wp2_with fail
    go_ret
    exact ⟨rfl, Below.refl _ _⟩
end Go.Proofs.Qxb6625880a

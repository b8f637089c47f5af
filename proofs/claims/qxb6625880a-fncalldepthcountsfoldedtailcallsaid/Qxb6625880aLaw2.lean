import Derived.Test.Qxb6625880aDepth
namespace Go.Proofs.Qxb6625880a
open Go.ChangeShapes Go.WideShapes Go.ChangeAt Go.RowKit

set_option maxHeartbeats 400000 in
theorem bytes12 (a : Option Addr) (n c : Nat) (k : Int) (w : World) (hn : n ≤ 2 ^ 63 - 1) :
    Calls Try.prog 12 #[.slice a n c, .int .i64 k] w fun e w' => ∃ t, e = .returned (.bool t) ∧ w = w' := by
  by_cases h1 : n ≤ 1048576
  · go_enter Try.func12, Try.ntmps12
    go_wp2
    all_goals (go_ret; exact ⟨_, rfl, rfl⟩)
  · go_enter Try.func12, Try.ntmps12
    go_wp2
    all_goals (go_ret; exact ⟨_, rfl, rfl⟩)

theorem fin2 (t k : Int) : wrap64 (wrap64 (wrap64 t + k) + 2) = wrap64 (1 + (k + 1) + t) := by unfold wrap64; omega
theorem fin3 (t k : Int) : wrap64 (1 + 0 + (1 + k + t)) = wrap64 (1 + (k + 1) + t) := by unfold wrap64; omega

set_option maxHeartbeats 1000000 in
theorem law2 (a0 : Option Addr) (cap0 : Nat) (xs : List Int) (k : Int) (w : World) (h0 : Ints w a0 xs) (k0 : -9223372036854775808 ≤ k) (k1 : k ≤ 9223372036854775807) :
    Calls Try.prog 4 #[.slice a0 xs.length cap0, .int .i64 k] w fun e w' => e = .returned (.bool true) ∧ Below w.heap.size w w' := by
  have l0 := h0.1
  unfold maxLen at l0
  by_cases hla : xs.length ≤ 65536
  · by_cases hk : k < 0
    · go_enter Try.func4, Try.ntmps4
      go_wp2_with fail
      refine (bytes12 _ _ _ _ _ l0).mono ?_
      rintro e w' ⟨t, rfl, rfl⟩
      cases t
      · go_wp2_with fail
        go_ret
        exact ⟨rfl, Below.refl _ _⟩
      go_wp2_with fail
      go_ret
      exact ⟨rfl, Below.refl _ _⟩
    by_cases hk' : k = 9223372036854775807
    · subst hk'
      go_enter Try.func4, Try.ntmps4
      go_wp2_with fail
      refine (bytes12 _ _ _ _ _ l0).mono ?_
      rintro e w' ⟨t, rfl, rfl⟩
      cases t
      · go_wp2_with fail
        go_ret
        exact ⟨rfl, Below.refl _ _⟩
      go_wp2_with fail
      go_ret
      exact ⟨rfl, Below.refl _ _⟩
    have hk2 : (k == 9223372036854775807) = false := by simp [hk']
    have hk3 : k < 9223372036854775807 := by omega
    clear hk'
    go_enter Try.func4, Try.ntmps4
    go_wp2_with fail
    refine (bytes12 _ _ _ _ _ l0).mono ?_
    rintro e w' ⟨t, rfl, rfl⟩
    cases t
    · go_wp2_with fail
      go_ret
      exact ⟨rfl, Below.refl _ _⟩
    go_wp2_with fail
    refine (nonNeg _ _ _ _ h0).mono ?_
    rintro e w' ⟨rfl, rfl⟩
    cases hn0 : nn xs
    · go_wp2_with fail
      go_ret
      exact ⟨rfl, Below.refl _ _⟩
    go_wp2_with fail
    refine (noFrame _).mono ?_
    rintro e w' ⟨rfl, rfl⟩
    go_wp2_with fail
    refine (chain _ _ _ _ _ _ h0).mono ?_
    rintro e wA ⟨fa, da, rfl, bA, cA⟩
    go_wp2_with fail
    refine (newFrame _ _ _ _ _).mono ?_
    rintro e wB ⟨rfl, rfl⟩
    go_wp2_with fail
    refine (newFrame _ _ _ _ _).mono ?_
    rintro e wC ⟨rfl, rfl⟩
    go_wp2_with fail
    refine (newFrame _ _ _ _ _).mono ?_
    rintro e wD ⟨rfl, hD⟩
    have bD : Below wA.heap.size wA wD := by rw [hD]; exact (((Below.refl _ _).alloc (Nat.le_refl _) _).alloc (by simp) _).alloc (by simp; omega) _
    have cA' : Chain wD xs.reverse fa none := cA.below bD
    have z1 : wA.heap.size < wD.heap.size := by rw [hD]; simp; omega
    have z2 : wA.heap.size + 1 < wD.heap.size := by rw [hD]; simp
    have z3 : wA.heap.size + 2 < wD.heap.size := by rw [hD]; simp
    have cF : Chain wD ((k + 1) :: xs.reverse) (some ⟨wA.heap.size, 0, none⟩) none := ⟨_, fa, rfl, z1, by rw [hD]; simp [go_sem], by rw [hD]; simp [go_sem], cA'⟩
    have cP : Chain wD (0 :: k :: xs.reverse) (some ⟨wA.heap.size + 1 + 1, 0, none⟩) none := ⟨_, _, rfl, z3, by rw [hD]; simp [go_sem], by rw [hD]; simp [go_sem], _, fa, rfl, z2, by rw [hD]; simp [go_sem], by rw [hD]; simp [go_sem], cA'⟩
    have bwD : Below w.heap.size w wD := bA.trans (bD.mono bA.size)
    have HT : Hid (tot ((k + 1) :: xs.reverse) = 1 + (k + 1) + tot xs ∧ tot (0 :: k :: xs.reverse) = 1 + 0 + (1 + k + tot xs)) := ⟨by rw [tot_cons, tot_reverse], by rw [tot_cons, tot_cons, tot_reverse]⟩
    have HE : Hid (wrap64 (1 + 0 + (1 + k + tot xs)) = wrap64 (1 + (k + 1) + tot xs) ∧ wrap64 (wrap64 (wrap64 (tot xs) + k) + 2) = wrap64 (1 + (k + 1) + tot xs)) := ⟨fin3 _ _, fin2 _ _⟩
    clear hD cA cA' bA bD z1 z2 z3
    go_wp2_with fail
    refine (newError _ _).mono ?_
    rintro e wE ⟨rfl, o0, o1, o2, o3, o4, o5, rfl⟩
    have bE : Below wD.heap.size wD (wD.alloc (.cells #[o0, o1, o2, o3, o4, o5, .pointer (some ⟨wA.heap.size, 0, none⟩)] 38)) := (Below.refl _ _).alloc (Nat.le_refl _) _
    go_wp2_with fail
    refine (callDepth _ _ _ _ (by simp [go_sem]) (cF.below bE)).mono ?_
    rintro e w' ⟨rfl, rfl⟩
    rw [HT.out.1]
    go_wp2_with fail
    refine (newError _ _).mono ?_
    rintro e wF ⟨rfl, p0, p1, p2, p3, p4, p5, rfl⟩
    have bF := bE.alloc (by simp) (.cells #[p0, p1, p2, p3, p4, p5, .pointer (some ⟨wA.heap.size + 1 + 1, 0, none⟩)] 38)
    go_wp2_with fail
    refine (callDepth _ _ _ _ (by simp [go_sem]) (cP.below bF)).mono ?_
    rintro e w' ⟨rfl, rfl⟩
    rw [HT.out.2, HE.out.1]
    have bwF : Below w.heap.size w _ := bwD.trans (bF.mono bwD.size)
    go_wp2_with fail
    refine (folds _ _ _ _ (h0.below bwF)).mono ?_
    rintro e w' ⟨rfl, rfl⟩
    have e2 := HE.out.2
    go_wp2_with fail
    go_ret
    exact ⟨rfl, bwF⟩
  · go_enter Try.func4, Try.ntmps4
    go_wp2_with fail
    refine (bytes12 _ _ _ _ _ l0).mono ?_
    rintro e w' ⟨t, rfl, rfl⟩
    cases t
    · go_wp2_with fail
      go_ret
      exact ⟨rfl, Below.refl _ _⟩
    go_wp2_with fail
    go_ret
    exact ⟨rfl, Below.refl _ _⟩
end Go.Proofs.Qxb6625880a

import Derived.Test.Qxb6626311aCopy
import Derived.WalkSpells
namespace Go.Proofs.Qxb6626311a
open Go.ChangeShapes Go.WideShapes Go.ChangeAt Go.RowKit

set_option maxRecDepth 100000 in
set_option maxHeartbeats 400000 in
theorem bytes10 (k1 : Int) (a : Option Addr) (n c : Nat) (b : Option Addr) (m d : Nat) (w : World) (hn : n ≤ 2 ^ 63 - 1) (hm : m ≤ 2 ^ 63 - 1) :
    Calls Try.prog 10 #[.int .u8 k1, .slice a n c, .slice b m d] w fun e w' => ∃ t, e = .returned (.bool t) ∧ w = w' := by
  by_cases h1 : n ≤ 1048576
  · by_cases h2 : m ≤ 1048576
    · by_cases h3 : n + m ≤ 1048576
      all_goals
        go_enter Try.func10, Try.ntmps10
        go_wp2
        all_goals (go_ret; exact ⟨_, rfl, rfl⟩)
    · go_enter Try.func10, Try.ntmps10
      go_wp2
      all_goals (go_ret; exact ⟨_, rfl, rfl⟩)
  · go_enter Try.func10, Try.ntmps10
    go_wp2
    all_goals (go_ret; exact ⟨_, rfl, rfl⟩)

set_option maxRecDepth 100000 in
set_option maxHeartbeats 400000 in
theorem law2_long (cause : Int) (a : Option Addr) (n c : Nat) (b : Option Addr) (m d : Nat) (w : World) (hn : n ≤ 2 ^ 63 - 1) (hm : m ≤ 2 ^ 63 - 1) (h : 1048576 < n) :
    Calls Try.prog 4 #[.int .u8 cause, .slice a n c, .slice b m d] w fun e w' => e = .returned (.bool true) ∧ Below w.heap.size w w' := by
  go_enter Try.func4, Try.ntmps4
  go_wp2_with fail
  refine (bytes10 _ _ _ _ _ _ _ _ hn hm).mono ?_
  rintro e w' ⟨t, rfl, rfl⟩
  cases t
  · go_wp2_with fail
    go_ret
    exact ⟨rfl, Below.refl _ _⟩
  go_wp2_with fail
  go_ret
  exact ⟨rfl, Below.refl _ _⟩

set_option maxRecDepth 100000 in
set_option maxHeartbeats 400000 in
theorem law2_long2 (cause : Int) (a : Option Addr) (n c : Nat) (b : Option Addr) (m d : Nat) (w : World) (hn : n ≤ 1048576) (hm : m ≤ 2 ^ 63 - 1) (h : 1048576 < n + m) :
    Calls Try.prog 4 #[.int .u8 cause, .slice a n c, .slice b m d] w fun e w' => e = .returned (.bool true) ∧ Below w.heap.size w w' := by
  go_enter Try.func4, Try.ntmps4
  go_wp2_with fail
  refine (bytes10 _ _ _ _ _ _ _ _ (by omega) hm).mono ?_
  rintro e w' ⟨t, rfl, rfl⟩
  cases t
  · go_wp2_with fail
    go_ret
    exact ⟨rfl, Below.refl _ _⟩
  go_wp2_with fail
  go_ret
  exact ⟨rfl, Below.refl _ _⟩

theorem Sl.below {w w' : World} {a : Option Addr} {xs : List Int} {B : Nat} (h : Sl w a xs) (hb : Below B w w') (hB : w.heap.size ≤ B) : Sl w' a xs := by
  have h' := h
  rcases h with h | ⟨x, rfl, hc⟩
  · exact .inl h
  · refine .inr ⟨x, rfl, fun j u hu => ?_⟩
    have hne : xs ≠ [] := fun e => by subst e; simp [vals] at hu
    have hlt : x.block < w.heap.size := h'.lt hne
    rw [hb.cell (p := x.add j) (by rw [add_block]; omega)]
    exact hc j u hu

/-- The slice that the law joins out of its two: what its two appends are told, what they leave. -/
theorem join_facts {w : World} {a b : Option Addr} {xs ys : List Int} (ha : Sl w a xs) (hb : Sl w b ys) (c d : Nat) {Z : Array Value} (hZ : Z.size = xs.length + ys.length) :
    Src Try.prog 1 22 (.slice a xs.length c) xs.length (vals xs) (w.alloc (.cells Z 5)) ∧ (w.alloc (.cells Z 5)).there w.heap.size 0 (vals xs).length ∧
    Src Try.prog 1 22 (.slice b ys.length d) ys.length (vals ys) ((w.alloc (.cells Z 5)).setCells w.heap.size 0 (vals xs)) ∧
    ((w.alloc (.cells Z 5)).setCells w.heap.size 0 (vals xs)).there w.heap.size xs.length (vals ys).length ∧
    (((w.alloc (.cells Z 5)).setCells w.heap.size 0 (vals xs)).setCells w.heap.size xs.length (vals ys)).rangeAt w.heap.size 0 (vals (xs ++ ys)) ∧
    Below w.heap.size w (((w.alloc (.cells Z 5)).setCells w.heap.size 0 (vals xs)).setCells w.heap.size xs.length (vals ys)) ∧
    (((w.alloc (.cells Z 5)).setCells w.heap.size 0 (vals xs)).setCells w.heap.size xs.length (vals ys)).heap.size = w.heap.size + 1 := by
  have ht := there_new w Z 5 _ hZ
  have g1 := grown_alloc w (.cells Z 5) (some w.heap.size)
  have g2 := grown_trans g1 (grown_setCells w.heap.size (vals xs) 0 _)
  have g3 := grown_trans g2 (grown_setCells w.heap.size (vals ys) xs.length _)
  have bel : ∀ {w' : World}, w.grownBy w' (some w.heap.size) → Below w.heap.size w w' := fun gg => ⟨gg.os, gg.tape, gg.output, gg.size, fun k hk => gg.block k hk (by simp; omega)⟩
  have t1 := World.there_setCells ht w.heap.size 0 (vals xs)
  have p1 := there_part ht 0 (vals xs).length (by rw [vals_length]; omega)
  have p2 := there_part t1 xs.length (vals ys).length (by rw [vals_length]; omega)
  have r1 := rangeAt_snoc (vs := vals xs) (rangeAt_nil (w.alloc (.cells Z 5)) w.heap.size 0) p1
  rw [show ((vals []).length) = 0 from rfl, show vals [] ++ vals xs = vals xs from rfl] at r1
  have r2 := rangeAt_snoc (vs := vals ys) r1 (by rw [vals_length]; exact p2)
  rw [vals_length, ← vals_append] at r2
  refine ⟨(ha.below (bel g1) (Nat.le_refl _)).src c, p1, (hb.below (bel g2) (Nat.le_refl _)).src d, p2, r2, bel g3, ?_⟩
  rw [setCells_size, setCells_size]
  simp

/-- What Status gives, both ways of writing the length as one. -/
theorem st_parts (cause : Int) (xs : List Int) : ∃ i : Nat, 1 ≤ i ∧ i ≤ 2 ∧ (if min xs.length 32767 < 128 then (1 : Int) else 2) = (i : Int) ∧ (st cause xs).length = 5 + i + min xs.length 32767 ∧
    ∀ k, k < min xs.length 32767 → (st cause xs).getD (5 + i + k) 0 = xs.getD k 0 := by
  by_cases h : min xs.length 32767 < 128
  · exact ⟨1, by omega, by omega, by rw [if_pos h]; rfl, by rw [st_length, if_pos h], (st_short cause xs h).2⟩
  · exact ⟨2, by omega, by omega, by rw [if_neg h]; rfl, by rw [st_length, if_neg h], (st_long cause xs h).2.2⟩

theorem same_at (za zb zn : Int) (ba la ca ai : Nat) (ab : Option Addr) (lb cb bi n : Nat) (v : Nat → Int) (w : World) (e1 : za = (ai : Int)) (e2 : zb = (bi : Int)) (e3 : zn = (n : Int)) (h1 : ai + n ≤ la) (h2 : bi + n ≤ lb) (h3 : la ≤ 4294967296) (h4 : lb ≤ 4294967296)
    (hA : ∀ i, i < n → w.cell? ⟨ba, ai + i, none⟩ = some (.int .u8 (v i))) (hB : n = 0 ∨ ∃ bb, ab = some ⟨bb, 0, none⟩ ∧ ∀ i, i < n → w.cell? ⟨bb, bi + i, none⟩ = some (.int .u8 (v i))) :
    Calls Try.prog 9 #[.slice (some ⟨ba, 0, none⟩) la ca, .int .i64 za, .slice ab lb cb, .int .i64 zb, .int .i64 zn] w fun e w' => e = .returned (.bool true) ∧ ∃ m, w' = w.drewN m := by
  subst e1 e2 e3
  exact same ba la ca ai ab lb cb bi n v w h1 h2 h3 h4 hA hB
end Go.Proofs.Qxb6626311a

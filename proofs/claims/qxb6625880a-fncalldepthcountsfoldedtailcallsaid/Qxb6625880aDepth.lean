import Derived.Test.Qxb6625880aRows
import Derived.WalkKit
import Derived.ProofKit
import Derived.OpenShut
import Derived.Below
import Derived.Outline
import Derived.Deep.LoopGhost
import Derived.Deep.RegionWith
namespace Go.Proofs.Qxb6625880a
open Go.ChangeShapes Go.WideShapes Go.ChangeAt Go.RowKit

/-- A slice of ints as the walks are told of it: its elements are 'xs'. -/
def Ints (w : World) (a : Option Addr) (xs : List Int) : Prop :=
  xs.length ≤ maxLen ∧ (xs = [] ∨ ∃ b off, a = some ⟨b, off, none⟩ ∧ b < w.heap.size ∧ ∀ i, i < xs.length → w.cell? ⟨b, off + i, none⟩ = some (.int .i64 (xs.getD i 0)))

theorem Ints.below {w w' : World} {a : Option Addr} {xs : List Int} (h : Ints w a xs) (hb : Below w.heap.size w w') : Ints w' a xs := by
  obtain ⟨h1, h2⟩ := h
  refine ⟨h1, ?_⟩
  rcases h2 with h2 | ⟨b, off, e, hlt, hc⟩
  · exact .inl h2
  · exact .inr ⟨b, off, e, Nat.lt_of_lt_of_le hlt hb.size, fun i hi => (hb.cell (p := ⟨b, off + i, none⟩) hlt).trans (hc i hi)⟩

/-- What the row hands over of a slice of ints, as the walks are told of it. -/
theorem ints_of {w : World} {a : Option Addr} {len cap : Nat} {zs : List Int} (h : (a = none ∧ len = 0 ∧ cap = 0 ∧ zs = []) ∨
    ∃ x, a = some x ∧ len ≤ cap ∧ cap ≤ maxLen ∧ zs.length = cap ∧ (∀ i, i < zs.length → w.cell? (x.add i) = some (.int .i64 (zs.getD i 0))) ∧ ∀ n ∈ zs, (Lit.int .i64 n).wf = true) :
    ∃ xs : List Int, xs.length = len ∧ Ints w a xs := by
  rcases h with ⟨rfl, rfl, rfl, rfl⟩ | ⟨x, rfl, hl, hm, hz, hc, _⟩
  · exact ⟨[], rfl, Nat.zero_le _, .inl rfl⟩
  · refine ⟨zs.take len, by rw [List.length_take]; omega, by rw [List.length_take]; omega, ?_⟩
    by_cases h0 : len = 0
    · exact .inl (by rw [h0]; rfl)
    · obtain ⟨b, off, rfl, hc'⟩ := ints_at hc (by omega)
      have hlt := World.block_lt_of_cell? _ _ (hc' 0 (by omega))
      refine .inr ⟨b, off, rfl, hlt, fun i hi => ?_⟩
      rw [List.length_take] at hi
      rw [hc' i (by omega)]
      congr 2
      rw [List.getD_eq_getElem?_getD, List.getD_eq_getElem?_getD, List.getElem?_take_of_lt (by omega)]

def nn (xs : List Int) : Bool := xs.all fun x => decide (0 ≤ x)

def tot (xs : List Int) : Int := xs.length + xs.sum

theorem ret_bool {a b : Bool} (h : a = b) : Ending.returned (.bool a) = .returned (.bool b) := by rw [h]
theorem ret_int {k : IntKind} {a b : Int} (h : a = b) : Ending.returned (.int k a) = .returned (.int k b) := by rw [h]

theorem nn_false {xs : List Int} (k : Nat) (hlt : k < xs.length) (h : xs[k] < 0) : nn xs = false := by
  unfold nn
  rw [List.all_eq_false]
  exact ⟨xs[k], List.getElem_mem hlt, by simp; omega⟩

theorem nn_succ {xs : List Int} (k : Nat) (hlt : k < xs.length) (hn : nn (xs.take k) = true) (h : 0 ≤ xs[k]) : nn (xs.take (k + 1)) = true := by
  unfold nn at *
  rw [List.take_succ_eq_append_getElem hlt, List.all_append, hn]
  simp [h]

set_option maxHeartbeats 400000 in
theorem newFrame (c : Option Addr) (d n : Int) (t : Bool) (w : World) :
    Calls Try.prog 13 #[.pointer c, .int .i64 d, .int .i64 n, .bool t] w fun e w' => e = .returned (.pointer (some ⟨w.heap.size, 0, none⟩)) ∧
      w' = w.alloc (.cells #[.pointer none, .int .i64 0, .pointer c, .int .i64 d, .int .i64 n, .bool t] 43) := by
  go_enter Try.func13, Try.ntmps13
  go_wp2
  go_ret
  exact ⟨rfl, rfl⟩

set_option maxHeartbeats 400000 in
theorem newError (c : Option Addr) (w : World) :
    Calls Try.prog 9 #[.pointer c] w fun e w' => e = .returned (.pointer (some ⟨w.heap.size, 0, none⟩)) ∧ ∃ o0 o1 o2 o3 o4 o5,
      w' = w.alloc (.cells #[o0, o1, o2, o3, o4, o5, .pointer c] 38) := by
  go_enter Try.func9, Try.ntmps9
  go_wp2
  go_ret
  exact ⟨rfl, _, _, _, _, _, _, rfl⟩

theorem noFrame (w : World) : Calls Try.prog 8 #[] w fun e w' => e = .returned (.pointer none) ∧ w = w' := by
  go_enter Try.func8, Try.ntmps8
  go_wp2
  go_ret
  exact ⟨rfl, rfl⟩

set_option maxHeartbeats 400000 in
theorem nonNeg (a : Option Addr) (cap : Nat) (xs : List Int) (w : World) (h : Ints w a xs) :
    Calls Try.prog 6 #[.slice a xs.length cap] w fun e w' => e = .returned (.bool (nn xs)) ∧ w = w' := by
  obtain ⟨hm, h2⟩ := h
  unfold maxLen at hm
  go_enter Try.func6, Try.ntmps6
  go_wp2
  go_loop [3] (fun i => ∃ k : Nat, k ≤ xs.length ∧ i = .int .i64 k ∧ nn (xs.take k) = true) (fun i => xs.length - (intOf i).toNat)
  case atStart => exact ⟨0, Nat.zero_le _, rfl, rfl⟩
  case round =>
    obtain ⟨k, hk, rfl, hn⟩ := hrel
    by_cases hlt : k < xs.length
    · rcases h2 with h2 | ⟨b, off, rfl, hb, hc⟩
      · subst h2; simp at hlt
      · have hcell := hc k hlt
        clear hc
        have HN : Hid (nn (xs.take k) = true) := hn
        clear hn
        go_wp2
        · go_ret
          exact ⟨ret_bool (nn_false k hlt (by assumption)).symm, rfl⟩
        · go_round
          case rel => exact ⟨k + 1, by omega, by go_num, nn_succ k hlt HN.out (by assumption)⟩
          case measure => simp [intOf]; omega
    · have HN : Hid (nn xs = true) := by rw [List.take_of_length_le (by omega)] at hn; exact hn
      clear hn
      go_wp2
      go_ret
      exact ⟨ret_bool HN.out.symm, rfl⟩

theorem w64_left (a b : Int) : wrap64 (wrap64 a + b) = wrap64 (a + b) := by unfold wrap64; omega
theorem w64_right (a b : Int) : wrap64 (a + wrap64 b) = wrap64 (a + b) := by unfold wrap64; omega
theorem w64_small (n : Nat) (h : n ≤ 2 ^ 63 - 1) : wrap64 (n : Int) = n := by unfold wrap64; omega

set_option maxHeartbeats 400000 in
theorem folds (a : Option Addr) (cap : Nat) (xs : List Int) (w : World) (h : Ints w a xs) :
    Calls Try.prog 11 #[.slice a xs.length cap] w fun e w' => e = .returned (.int .i64 (wrap64 (tot xs))) ∧ w = w' := by
  obtain ⟨hm, h2⟩ := h
  unfold maxLen at hm
  go_enter Try.func11, Try.ntmps11
  go_wp2
  go_loop [3, 4] (fun s i => ∃ k : Nat, k ≤ xs.length ∧ i = .int .i64 k ∧ s = .int .i64 (wrap64 (xs.length + (xs.take k).sum))) (fun _ i => xs.length - (intOf i).toNat)
  case atStart => exact ⟨0, Nat.zero_le _, rfl, by simp [w64_small _ hm]⟩
  case round =>
    obtain ⟨k, hk, rfl, rfl⟩ := hrel
    by_cases hlt : k < xs.length
    · rcases h2 with h2 | ⟨b, off, rfl, hb, hc⟩
      · subst h2; simp at hlt
      · have hcell := hc k hlt
        clear hc
        go_wp2
        go_round
        case rel => exact ⟨k + 1, by omega, by go_num, by rw [w64_left, List.take_succ_eq_append_getElem hlt, List.sum_append, Int.add_assoc]; simp⟩
        case measure => simp [intOf]; omega
    · go_wp2
      go_ret
      exact ⟨ret_int (by rw [List.take_of_length_le (by omega)]; rfl), rfl⟩

/-- From pointer p the frames with the folded counts 'ns' (innermost first) lead to pointer q. -/
def Chain (w : World) : List Int → Option Addr → Option Addr → Prop
  | [], p, q => p = q
  | n :: ns, p, q => ∃ b r, p = some ⟨b, 0, none⟩ ∧ b < w.heap.size ∧ w.cell? ⟨b, 2, none⟩ = some (.pointer r) ∧ w.cell? ⟨b, 4, none⟩ = some (.int .i64 n) ∧ Chain w ns r q

theorem Chain.below {w w' : World} (hb : Below w.heap.size w w') : ∀ {ns : List Int} {p q : Option Addr}, Chain w ns p q → Chain w' ns p q
  | [], _, _, h => h
  | _ :: _, _, _, ⟨b, r, e, hlt, h2, h4, hn⟩ => ⟨b, r, e, Nat.lt_of_lt_of_le hlt hb.size, (hb.cell (p := ⟨b, 2, none⟩) hlt).trans h2, (hb.cell (p := ⟨b, 4, none⟩) hlt).trans h4, Chain.below hb hn⟩

theorem Chain.append {w : World} : ∀ {ns ms : List Int} {p q r : Option Addr}, Chain w ns p q → Chain w ms q r → Chain w (ns ++ ms) p r
  | [], _, _, _, _, h, k => by cases h; exact k
  | _ :: _, _, _, _, _, ⟨b, r, e, hlt, h2, h4, hn⟩, k => ⟨b, r, e, hlt, h2, h4, Chain.append hn k⟩

theorem chain_push {wr wx : World} {n : Int} {ns : List Int} {q p : Option Addr} (hb : Below wr.heap.size wr wx) (hlt : wr.heap.size < wx.heap.size) (h2 : wx.cell? ⟨wr.heap.size, 2, none⟩ = some (.pointer q))
    (h4 : wx.cell? ⟨wr.heap.size, 4, none⟩ = some (.int .i64 n)) (hch : Chain wr ns q p) : Chain wx (n :: ns) (some ⟨wr.heap.size, 0, none⟩) p :=
  ⟨_, q, rfl, hlt, h2, h4, hch.below hb⟩

theorem tot_nil : tot [] = 0 := rfl
theorem tot_cons (n : Int) (ns : List Int) : tot (n :: ns) = 1 + n + tot ns := by unfold tot; simp; omega
theorem tot_append (a b : List Int) : tot (a ++ b) = tot a + tot b := by unfold tot; rw [List.sum_append, List.length_append]; omega
theorem sum_rev (a : List Int) : a.reverse.sum = a.sum := by
  induction a with
  | nil => rfl
  | cons x xs ih => rw [List.reverse_cons, List.sum_append, ih]; simp; omega
theorem tot_reverse (a : List Int) : tot a.reverse = tot a := by unfold tot; rw [sum_rev, List.length_reverse]

set_option maxHeartbeats 400000 in
theorem callDepth (b : Nat) (p : Option Addr) (ns : List Int) (w : World) (hc : w.cell? ⟨b, 6, none⟩ = some (.pointer p)) (hch : Chain w ns p none) :
    Calls Try.prog 10 #[.pointer (some ⟨b, 0, none⟩)] w fun e w' => e = .returned (.int .i64 (wrap64 (tot ns))) ∧ w = w' := by
  go_enter Try.func10, Try.ntmps10
  go_wp2
  go_loopg [3, 4] ns.length (fun k d f wr => wr = w ∧ ∃ (xs : List Int) (m : Int) (q : Option Addr), xs.length = k ∧ d = .int .i64 (wrap64 m) ∧ f = .pointer q ∧ Chain w xs q none ∧ tot ns = m + tot xs)
  case atStart => exact ⟨rfl, ns, 0, p, rfl, by rw [show wrap64 0 = 0 by unfold wrap64; decide], rfl, hch, by omega⟩
  case round =>
    obtain ⟨rfl, xs, m, q, hk, rfl, rfl, hx, ht⟩ := hrel
    cases xs with
    | nil =>
      cases hx
      have HT : Hid (tot ns = m) := by rw [tot_nil, Int.add_zero] at ht; exact ht
      clear ht hch hc
      go_wp2
      go_ret
      exact ⟨ret_int (by rw [HT.out]), rfl⟩
    | cons n xs =>
      obtain ⟨b', r, rfl, hlt, h2, h4, hx⟩ := hx
      have HT : Hid (tot ns = m + (1 + n) + tot xs ∧ xs.length + 1 = gk) := ⟨by rw [ht, tot_cons]; omega, hk⟩
      clear ht hch hc hk
      go_wp2
      go_roundg xs.length
      case measure => have := HT.out.2; omega
      case rel => exact ⟨rfl, xs, m + (1 + n), r, rfl, by rw [w64_right, w64_left], rfl, hx, HT.out.1⟩

set_option maxHeartbeats 400000 in
theorem chain (p : Option Addr) (d : Int) (a : Option Addr) (cap : Nat) (xs : List Int) (w : World) (h : Ints w a xs) :
    Calls Try.prog 7 #[.pointer p, .int .i64 d, .slice a xs.length cap] w fun e w' => ∃ q d', e = .returned (.tuple #[.pointer q, .int .i64 d']) ∧ Below w.heap.size w w' ∧ Chain w' xs.reverse q p := by
  have h' := h
  obtain ⟨hm, h2⟩ := h
  unfold maxLen at hm
  go_enter Try.func7, Try.ntmps7
  go_wp2
  go_loopw [8, 9, 10] (fun f dd i wr => ∃ (k : Nat) (q : Option Addr) (d' : Int), k ≤ xs.length ∧ i = .int .i64 k ∧ dd = .int .i64 d' ∧ f = .pointer q ∧ Below w.heap.size w wr ∧ Chain wr (xs.take k).reverse q p) (fun _ _ i _ => xs.length - (intOf i).toNat)
  case atStart => exact ⟨0, p, d, Nat.zero_le _, rfl, rfl, rfl, Below.refl _ _, rfl⟩
  case round =>
    obtain ⟨k, q, d', hk, rfl, rfl, rfl, hb, hch⟩ := hrel
    by_cases hlt : k < xs.length
    · rcases h2 with h2 | ⟨b, off, rfl, hB, hc⟩
      · subst h2; simp at hlt
      · have hcell : wr.cell? ⟨b, off + k, none⟩ = some (.int .i64 (xs.getD k 0)) := (hb.cell (p := ⟨b, off + k, none⟩) hB).trans (hc k hlt)
        clear hc h'
        go_wp2
        go_region_with (go_at_call 13; refine (newFrame _ _ _ _ _).mono ?_; rintro e w' ⟨rfl, rfl⟩)
        all_goals go_wp2
        all_goals
          go_roundw
          case rel => exact ⟨k + 1, _, _, by omega, by go_num, rfl, rfl, hb.trans (by repeat (first | exact Below.refl _ _ | apply Below.drew | exact (Below.refl _ _).alloc hb.size _)),
            by rw [List.take_succ_eq_append_getElem hlt, List.reverse_append]; exact chain_push (by repeat (first | exact Below.refl _ _ | apply Below.drew | exact (Below.refl _ _).alloc (Nat.le_refl _) _)) (by simp) (by simp [go_sem]) (by simp [go_sem]) hch⟩
          case measure => simp [intOf]; omega
    · go_wp2
      go_ret2
      exact ⟨_, _, rfl, hb, by rw [List.take_of_length_le (by omega)] at hch; exact hch⟩
end Go.Proofs.Qxb6625880a

import Derived.Test.Qxb6626311aRows
import Derived.WalkKit
import Derived.ProofKit
import Derived.OpenShut
import Derived.Below
import Derived.Outline
import Derived.BigQuiet
import Derived.Handy
import Derived.WalkLawsBesides
import Derived.Deep.QuietTactic
import Derived.Deep.MidRow
import Derived.Deep.AppendSrc
import Derived.Lib.JoinLaws
namespace Go.Proofs.Qxb6626311a
open Go.ChangeShapes Go.WideShapes Go.ChangeAt Go.RowKit

theorem info5 : (Try.prog.info? 5).map (fun i => (i.zero, i.size, i.bytes)) = some (some (.int .u8 0), 1, 1) := by kernel_rfl

/-- Bytes as cells. -/
def vals (xs : List Int) : List Value := xs.map (Value.int .u8)
theorem vals_length (xs : List Int) : (vals xs).length = xs.length := by simp [vals]
theorem vals_append (xs ys : List Int) : vals (xs ++ ys) = vals xs ++ vals ys := by simp [vals]
theorem vals_one (xs : List Int) : ∀ u ∈ vals xs, u.oneCell' = true := fun u hu => by
  obtain ⟨_, _, rfl⟩ := List.mem_map.1 hu
  rfl
theorem vals_at {xs : List Int} {i : Nat} (h : i < xs.length) : (vals xs)[i]? = some (.int .u8 (xs.getD i 0)) := by
  simp [vals, List.getD, h]

/-- What a slice of bytes leads to. -/
def Sl (w : World) (a : Option Addr) (xs : List Int) : Prop :=
  (a = none ∧ xs = []) ∨ ∃ x, a = some x ∧ ∀ j u, (vals xs)[j]? = some u → w.cell? (x.add j) = some u

theorem Sl.src {w : World} {a : Option Addr} {xs : List Int} (h : Sl w a xs) (c : Nat) : Src Try.prog 1 22 (.slice a xs.length c) xs.length (vals xs) w := by
  rcases h with ⟨rfl, rfl⟩ | ⟨x, rfl, hc⟩
  · exact Src.ofNil w Try.underlying22 c
  · exact Src.ofSlice w Try.underlying22 x xs.length c (vals xs) (by rw [vals_length, Nat.mul_one]) hc (vals_one xs)

theorem add_block (x : Addr) (j : Nat) : (x.add j).block = x.block := by unfold Addr.add; split <;> rfl

theorem Sl.lt {w : World} {x : Addr} {xs : List Int} (h : Sl w (some x) xs) (hx : xs ≠ []) : x.block < w.heap.size := by
  rcases h with ⟨h, _⟩ | ⟨y, e, hc⟩
  · cases h
  · cases e
    cases xs with
    | nil => exact absurd rfl hx
    | cons n r =>
      have := World.block_lt_of_cell? w _ (hc 0 (.int .u8 n) rfl)
      rwa [add_block] at this

/-- The block that is written is another one, or nothing is read. -/
def Off (a : Option Addr) (xs : List Int) (b : Nat) : Prop := ∀ x, a = some x → xs ≠ [] → x.block ≠ b

theorem Sl.grown {w w' : World} {a : Option Addr} {xs : List Int} {b : Nat} (h : Sl w a xs) (hg : w.grownBy w' (some b)) (ho : Off a xs b) : Sl w' a xs := by
  have h' := h
  rcases h with h | ⟨x, rfl, hc⟩
  · exact .inl h
  · refine .inr ⟨x, rfl, fun j u hu => ?_⟩
    have hne : xs ≠ [] := fun e => by subst e; simp [vals] at hu
    rw [World.cell?_of_block (w := w) (hg.block _ (by rw [add_block]; exact h'.lt hne) (by rw [add_block]; simpa using ho x rfl hne))]
    exact hc j u hu

/-! ### Worlds that part from another in one row and in new blocks -/
theorem grown_refl (w : World) (r : Option Nat) : w.grownBy w r := ⟨rfl, rfl, rfl, Nat.le_refl _, fun _ _ _ => rfl⟩
theorem grown_trans {u v w : World} {r : Option Nat} (h : u.grownBy v r) (k : v.grownBy w r) : u.grownBy w r :=
  ⟨k.os.trans h.os, k.tape.trans h.tape, k.output.trans h.output, Nat.le_trans h.size k.size, fun i hi hr => (k.block i (Nat.lt_of_lt_of_le hi h.size) hr).trans (h.block i hi hr)⟩
theorem grown_alloc (w : World) (o : Obj) (r : Option Nat) : w.grownBy (w.alloc o) r :=
  ⟨rfl, rfl, rfl, by simp, fun k hk _ => Below.heap_alloc _ _ _ hk⟩
theorem grown_setCells (b : Nat) : ∀ (vs : List Value) (o : Nat) (w : World), w.grownBy (w.setCells b o vs) (some b)
  | [], _, w => grown_refl w _
  | v :: r, o, w => by
    rw [World.setCells]
    refine grown_trans (v := w.setCell ⟨b, o, none⟩ v) ⟨rfl, rfl, rfl, by simp [World.setCell], fun k _ hr => Below.heap_setCell _ _ _ _ (fun e => hr (by rw [e]))⟩ (grown_setCells b r (o + 1) _)

theorem or128 {n : Int} (h0 : 0 ≤ n) (h1 : n < 128) : bits .or .u8 128 n = 128 + n := by
  obtain ⟨m, rfl⟩ := Int.eq_ofNat_of_zero_le h0
  have ha : (BitVec.ofInt 8 (128 : Int)).toNat = 128 := by decide
  have hb : (BitVec.ofInt 8 (m : Int)).toNat = m := by
    rw [BitVec.ofInt_natCast, BitVec.toNat_ofNat]; exact Nat.mod_eq_of_lt (by omega)
  show IntKind.u8.wrap ((BitVec.ofInt 8 (128 : Int) ||| BitVec.ofInt 8 (m : Int)).toNat : Int) = _
  rw [BitVec.toNat_or, ha, hb, IntKind.wrap_u8, show 128 ||| m = 2 ^ 7 * 1 ||| m from rfl, ← Nat.two_pow_add_eq_or_of_lt (by omega)]
  omega

/-- An information element. -/
def ie (k : Int) (xs : List Int) : List Int :=
  (if xs.length < 128 then [k, 128 + (xs.length : Int)] else [k, (xs.length : Int) / 256, (xs.length : Int) % 256]) ++ xs

theorem rangeAt_snoc {w : World} {b : Nat} {cs vs : List Value} (h : w.rangeAt b 0 cs) (ht : w.there b cs.length vs.length) : (w.setCells b cs.length vs).rangeAt b 0 (cs ++ vs) := fun j v hv => by
  rw [Nat.zero_add]
  by_cases hj : j < cs.length
  · rw [World.cell?_setCells_out b vs cs.length w ⟨b, j, none⟩ (fun _ _ => .inl hj)]
    rw [List.getElem?_append_left hj] at hv
    have := h j v hv
    rwa [Nat.zero_add] at this
  · rw [List.getElem?_append_right (by omega)] at hv
    have := World.rangeAt_setCells_same w b cs.length vs ht (j - cs.length) v hv
    rwa [show cs.length + (j - cs.length) = j by omega] at this

theorem there_part {w : World} {b n : Nat} (h : w.there b 0 n) (o m : Nat) (hm : o + m ≤ n) : w.there b o m := fun j hj => by
  have := h (o + j) (by omega)
  rwa [Nat.zero_add] at this
end Go.Proofs.Qxb6626311a

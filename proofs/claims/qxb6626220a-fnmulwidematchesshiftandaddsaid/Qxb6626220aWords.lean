import Derived.Test.Qxb6626220aRows
import Derived.WalkKit
import Derived.ProofKit
import Derived.OpenShut
import Derived.Below
import Derived.Outline
import Derived.BigQuiet
import Derived.Handy
import Derived.WalkLawsBesides
import Derived.Deep.QuietTactic
import Derived.Lib.Mul64
import Derived.Laws.Bits64b
namespace Go.Proofs.Qxb6626220a
open Go.ChangeShapes Go.WideShapes Go.ChangeAt Go.RowKit

theorem add64N (x y c : Nat) (hc : c ≤ 1) (w : World) : (callFunc 9 #[.int .u64 x, .int .u64 y, .int .u64 c]).run Try.prog w =
    .ok (.value (.tuple #[.int .u64 (((x + y + c) % 18446744073709551616 : Nat) : Int), .int .u64 (((x + y + c) / 18446744073709551616 : Nat) : Int)])) w := by
  rw [run_callFunc_extern Try.func9 (by kernel_rfl) (by kernel_rfl) (by kernel_rfl) (e := add64Entry) (by kernel_rfl), run_add64 x y c (by omega) (by omega) (by omega) (by omega)]
  simp only [Result.andThen]
  congr 5 <;> omega

theorem add64_0 (x y : Int) (hx : 0 ≤ x) (hy : 0 ≤ y) (w : World) : (callFunc 9 #[.int .u64 x, .int .u64 y, .int .u64 0]).run Try.prog w =
    .ok (.value (.tuple #[.int .u64 ((x + y) % 18446744073709551616), .int .u64 ((x + y) / 18446744073709551616)])) w := by
  obtain ⟨x, rfl⟩ := Int.eq_ofNat_of_zero_le hx
  obtain ⟨y, rfl⟩ := Int.eq_ofNat_of_zero_le hy
  refine (add64N x y 0 (by omega) w).trans ?_
  congr 5 <;> omega

/-! Natural numbers in the walk's own forms (after the shelf's text on Mul64). -/
theorem maskN (a : Nat) (ha : a < 18446744073709551616) : bits .and .u64 (a : Int) 4294967295 = ((a % 4294967296 : Nat) : Int) := by
  have h := bits_and_u64_nat a 4294967295 ha (by omega)
  have e : a &&& 4294967295 = a % 4294967296 := Nat.and_two_pow_sub_one_eq_mod a 32
  rw [e] at h
  exact h
theorem divN (a : Nat) : (a : Int) / 4294967296 = ((a / 4294967296 : Nat) : Int) := by omega
theorem mulN (a b : Nat) : (a : Int) * (b : Int) = ((a * b : Nat) : Int) := (Int.natCast_mul a b).symm
theorem addN (a b : Nat) : (a : Int) + (b : Int) = ((a + b : Nat) : Int) := (Int.natCast_add a b).symm
theorem wrapN (a : Nat) (ha : a < 18446744073709551616) : IntKind.u64.wrap (a : Int) = (a : Int) := by rw [IntKind.wrap_u64]; omega
theorem wrapM (a : Nat) : IntKind.u64.wrap (a : Int) = ((a % 18446744073709551616 : Nat) : Int) := by rw [IntKind.wrap_u64]; omega

set_option maxHeartbeats 1000000 in
theorem mul64N (x y : Nat) (hx : x < 18446744073709551616) (hy : y < 18446744073709551616) (w : World) :
    Calls Try.prog 8 #[.int .u64 x, .int .u64 y] w fun e w' => e = .returned (.tuple #[.int .u64 ((x * y / 18446744073709551616 : Nat) : Int), .int .u64 ((x * y % 18446744073709551616 : Nat) : Int)]) ∧ w = w' := by
  obtain ⟨bd, bt, bw, hhi⟩ := Lib.mul64_hi x y hx hy
  have ba := Lib.half_mul_le (a := x / 4294967296) (b := y / 4294967296) (by omega) (by omega)
  have bb := Lib.half_mul_le (a := x / 4294967296) (b := y % 4294967296) (by omega) (by omega)
  have bc := Lib.half_mul_le (a := x % 4294967296) (b := y / 4294967296) (by omega) (by omega)
  have ba' : x / 4294967296 * (y / 4294967296) < 18446744073709551616 := by omega
  have bb' : x / 4294967296 * (y % 4294967296) < 18446744073709551616 := by omega
  have bc' : x % 4294967296 * (y / 4294967296) < 18446744073709551616 := by omega
  have bh1 : x / 4294967296 * (y / 4294967296) + (x / 4294967296 * (y % 4294967296) + x % 4294967296 * (y % 4294967296) / 4294967296) / 4294967296 < 18446744073709551616 := by omega
  have bh : x / 4294967296 * (y / 4294967296) + (x / 4294967296 * (y % 4294967296) + x % 4294967296 * (y % 4294967296) / 4294967296) / 4294967296 + ((x / 4294967296 * (y % 4294967296) + x % 4294967296 * (y % 4294967296) / 4294967296) % 4294967296 + x % 4294967296 * (y / 4294967296)) / 4294967296 < 18446744073709551616 := by omega
  go_enter Try.func8, Try.ntmps8
  go_wp2
  simp only [maskN x hx, maskN y hy, divN, mulN, addN, wrapN _ bd, wrapN _ bb', wrapN _ bt, maskN _ bt, wrapN _ bc', wrapN _ bw, wrapN _ ba', wrapN _ bh1, wrapN _ bh, wrapM (x * y)]
  rw [hhi]
  go_ret2
  exact ⟨rfl, rfl⟩

/-- An array of five words, as a value and as a block. -/
def A5 (x0 x1 x2 x3 x4 : Int) : Array Value := #[.int .u64 x0, .int .u64 x1, .int .u64 x2, .int .u64 x3, .int .u64 x4]
def Word (x : Int) : Prop := 0 ≤ x ∧ x < 18446744073709551616

/-- The value of the first k words; the weight of word k. -/
def pv (x0 x1 x2 x3 x4 : Int) : Nat → Int
  | 0 => 0
  | 1 => x0
  | 2 => x0 + 18446744073709551616 * x1
  | 3 => x0 + 18446744073709551616 * x1 + 340282366920938463463374607431768211456 * x2
  | 4 => x0 + 18446744073709551616 * x1 + 340282366920938463463374607431768211456 * x2 + 6277101735386680763835789423207666416102355444464034512896 * x3
  | _ => x0 + 18446744073709551616 * x1 + 340282366920938463463374607431768211456 * x2 + 6277101735386680763835789423207666416102355444464034512896 * x3 + 115792089237316195423570985008687907853269984665640564039457584007913129639936 * x4
def bw : Nat → Int
  | 0 => 1
  | 1 => 18446744073709551616
  | 2 => 340282366920938463463374607431768211456
  | 3 => 6277101735386680763835789423207666416102355444464034512896
  | 4 => 115792089237316195423570985008687907853269984665640564039457584007913129639936
  | _ => 2135987035920910082395021706169552114602704522356652769947041607822219725780640550022962086936576

def W4 (w : World) (a0 a1 a2 a3 a4 b0 b1 b2 b3 b4 r0 r1 r2 r3 r4 : Int) : World :=
  (((w.alloc (.cells #[.int .u64 a0, .int .u64 a1, .int .u64 a2, .int .u64 a3, .int .u64 a4] 23)).alloc (.cells #[.int .u64 b0, .int .u64 b1, .int .u64 b2, .int .u64 b3, .int .u64 b4] 23)).alloc
    (.cells #[.int .u64 0, .int .u64 0, .int .u64 0, .int .u64 0, .int .u64 0] 23)).alloc (.cells #[.int .u64 r0, .int .u64 r1, .int .u64 r2, .int .u64 r3, .int .u64 r4] 23)

theorem w4_below (w : World) (a0 a1 a2 a3 a4 b0 b1 b2 b3 b4 r0 r1 r2 r3 r4 : Int) : Below w.heap.size w (W4 w a0 a1 a2 a3 a4 b0 b1 b2 b3 b4 r0 r1 r2 r3 r4) :=
  ((((Below.refl _ _).alloc (Nat.le_refl _) _).alloc (by simp) _).alloc (by simp; omega) _).alloc (by simp; omega) _
theorem setCell_drewN (w : World) (n : Nat) (a : Addr) (v : Value) : (w.drewN n).setCell a v = (w.setCell a v).drewN n := rfl
theorem set4_0 (w : World) (a0 a1 a2 a3 a4 b0 b1 b2 b3 b4 r0 r1 r2 r3 r4 v : Int) (n : Nat) : ((W4 w a0 a1 a2 a3 a4 b0 b1 b2 b3 b4 r0 r1 r2 r3 r4).drewN n).setCell ⟨w.heap.size + 1 + 1 + 1, 0, none⟩ (.int .u64 v) = (W4 w a0 a1 a2 a3 a4 b0 b1 b2 b3 b4 v r1 r2 r3 r4).drewN n := by
  unfold W4
  rw [setCell_drewN]
  rw [World.setCell_alloc_at _ _ _ _ _ (by simp)]
  rfl
theorem set4_1 (w : World) (a0 a1 a2 a3 a4 b0 b1 b2 b3 b4 r0 r1 r2 r3 r4 v : Int) (n : Nat) : ((W4 w a0 a1 a2 a3 a4 b0 b1 b2 b3 b4 r0 r1 r2 r3 r4).drewN n).setCell ⟨w.heap.size + 1 + 1 + 1, 1, none⟩ (.int .u64 v) = (W4 w a0 a1 a2 a3 a4 b0 b1 b2 b3 b4 r0 v r2 r3 r4).drewN n := by
  unfold W4
  rw [setCell_drewN]
  rw [World.setCell_alloc_at _ _ _ _ _ (by simp)]
  rfl
theorem set4_2 (w : World) (a0 a1 a2 a3 a4 b0 b1 b2 b3 b4 r0 r1 r2 r3 r4 v : Int) (n : Nat) : ((W4 w a0 a1 a2 a3 a4 b0 b1 b2 b3 b4 r0 r1 r2 r3 r4).drewN n).setCell ⟨w.heap.size + 1 + 1 + 1, 2, none⟩ (.int .u64 v) = (W4 w a0 a1 a2 a3 a4 b0 b1 b2 b3 b4 r0 r1 v r3 r4).drewN n := by
  unfold W4
  rw [setCell_drewN]
  rw [World.setCell_alloc_at _ _ _ _ _ (by simp)]
  rfl
theorem set4_3 (w : World) (a0 a1 a2 a3 a4 b0 b1 b2 b3 b4 r0 r1 r2 r3 r4 v : Int) (n : Nat) : ((W4 w a0 a1 a2 a3 a4 b0 b1 b2 b3 b4 r0 r1 r2 r3 r4).drewN n).setCell ⟨w.heap.size + 1 + 1 + 1, 3, none⟩ (.int .u64 v) = (W4 w a0 a1 a2 a3 a4 b0 b1 b2 b3 b4 r0 r1 r2 v r4).drewN n := by
  unfold W4
  rw [setCell_drewN]
  rw [World.setCell_alloc_at _ _ _ _ _ (by simp)]
  rfl
theorem set4_4 (w : World) (a0 a1 a2 a3 a4 b0 b1 b2 b3 b4 r0 r1 r2 r3 r4 v : Int) (n : Nat) : ((W4 w a0 a1 a2 a3 a4 b0 b1 b2 b3 b4 r0 r1 r2 r3 r4).drewN n).setCell ⟨w.heap.size + 1 + 1 + 1, 4, none⟩ (.int .u64 v) = (W4 w a0 a1 a2 a3 a4 b0 b1 b2 b3 b4 r0 r1 r2 r3 v).drewN n := by
  unfold W4
  rw [setCell_drewN]
  rw [World.setCell_alloc_at _ _ _ _ _ (by simp)]
  rfl

theorem st_bad {a b c : Int} (ha : 0 ≤ a ∧ a < 18446744073709551616) (_hb : 0 ≤ b ∧ b < 18446744073709551616) (c0 : 0 ≤ c) (c1 : c ≤ 1)
    (h1 : IntKind.u64.wrap (a + b) < a) (h2 : IntKind.u64.wrap (IntKind.u64.wrap (a + b) + c) < IntKind.u64.wrap (a + b)) : False := by
  simp only [IntKind.wrap_u64] at h1 h2; omega
theorem st_a {a b c : Int} (ha : 0 ≤ a ∧ a < 18446744073709551616) (hb : 0 ≤ b ∧ b < 18446744073709551616) (c0 : 0 ≤ c) (c1 : c ≤ 1)
    (h1 : IntKind.u64.wrap (a + b) < a) (h2 : IntKind.u64.wrap (a + b) ≤ IntKind.u64.wrap (IntKind.u64.wrap (a + b) + c)) :
    IntKind.u64.wrap (IntKind.u64.wrap (a + b) + c) + 18446744073709551616 * 1 = a + b + c ∧ 0 ≤ IntKind.u64.wrap (IntKind.u64.wrap (a + b) + c) ∧ IntKind.u64.wrap (IntKind.u64.wrap (a + b) + c) < 18446744073709551616 := by
  simp only [IntKind.wrap_u64] at h1 h2 ⊢; omega
theorem st_b {a b c : Int} (ha : 0 ≤ a ∧ a < 18446744073709551616) (hb : 0 ≤ b ∧ b < 18446744073709551616) (c0 : 0 ≤ c) (c1 : c ≤ 1)
    (h1 : a ≤ IntKind.u64.wrap (a + b)) (h2 : IntKind.u64.wrap (IntKind.u64.wrap (a + b) + c) < IntKind.u64.wrap (a + b)) :
    IntKind.u64.wrap (IntKind.u64.wrap (a + b) + c) + 18446744073709551616 * 1 = a + b + c ∧ 0 ≤ IntKind.u64.wrap (IntKind.u64.wrap (a + b) + c) ∧ IntKind.u64.wrap (IntKind.u64.wrap (a + b) + c) < 18446744073709551616 := by
  simp only [IntKind.wrap_u64] at h1 h2 ⊢; omega
theorem st_c {a b c : Int} (ha : 0 ≤ a ∧ a < 18446744073709551616) (hb : 0 ≤ b ∧ b < 18446744073709551616) (c0 : 0 ≤ c) (c1 : c ≤ 1)
    (h1 : a ≤ IntKind.u64.wrap (a + b)) (h2 : IntKind.u64.wrap (a + b) ≤ IntKind.u64.wrap (IntKind.u64.wrap (a + b) + c)) :
    IntKind.u64.wrap (IntKind.u64.wrap (a + b) + c) + 18446744073709551616 * 0 = a + b + c ∧ 0 ≤ IntKind.u64.wrap (IntKind.u64.wrap (a + b) + c) ∧ IntKind.u64.wrap (IntKind.u64.wrap (a + b) + c) < 18446744073709551616 := by
  simp only [IntKind.wrap_u64] at h1 h2 ⊢; omega

theorem pv_step0 {r0 r1 r2 r3 r4 a0 a1 a2 a3 a4 b0 b1 b2 b3 b4 c v d : Int} (h : pv r0 r1 r2 r3 r4 0 + c * bw 0 = pv a0 a1 a2 a3 a4 0 + pv b0 b1 b2 b3 b4 0) (hv : v + 18446744073709551616 * d = a0 + b0 + c) :
    pv v r1 r2 r3 r4 1 + d * bw 1 = pv a0 a1 a2 a3 a4 1 + pv b0 b1 b2 b3 b4 1 := by simp only [pv, bw] at h ⊢; omega
theorem pv_step1 {r0 r1 r2 r3 r4 a0 a1 a2 a3 a4 b0 b1 b2 b3 b4 c v d : Int} (h : pv r0 r1 r2 r3 r4 1 + c * bw 1 = pv a0 a1 a2 a3 a4 1 + pv b0 b1 b2 b3 b4 1) (hv : v + 18446744073709551616 * d = a1 + b1 + c) :
    pv r0 v r2 r3 r4 2 + d * bw 2 = pv a0 a1 a2 a3 a4 2 + pv b0 b1 b2 b3 b4 2 := by simp only [pv, bw] at h ⊢; omega
theorem pv_step2 {r0 r1 r2 r3 r4 a0 a1 a2 a3 a4 b0 b1 b2 b3 b4 c v d : Int} (h : pv r0 r1 r2 r3 r4 2 + c * bw 2 = pv a0 a1 a2 a3 a4 2 + pv b0 b1 b2 b3 b4 2) (hv : v + 18446744073709551616 * d = a2 + b2 + c) :
    pv r0 r1 v r3 r4 3 + d * bw 3 = pv a0 a1 a2 a3 a4 3 + pv b0 b1 b2 b3 b4 3 := by simp only [pv, bw] at h ⊢; omega
theorem pv_step3 {r0 r1 r2 r3 r4 a0 a1 a2 a3 a4 b0 b1 b2 b3 b4 c v d : Int} (h : pv r0 r1 r2 r3 r4 3 + c * bw 3 = pv a0 a1 a2 a3 a4 3 + pv b0 b1 b2 b3 b4 3) (hv : v + 18446744073709551616 * d = a3 + b3 + c) :
    pv r0 r1 r2 v r4 4 + d * bw 4 = pv a0 a1 a2 a3 a4 4 + pv b0 b1 b2 b3 b4 4 := by simp only [pv, bw] at h ⊢; omega
theorem pv_step4 {r0 r1 r2 r3 r4 a0 a1 a2 a3 a4 b0 b1 b2 b3 b4 c v d : Int} (h : pv r0 r1 r2 r3 r4 4 + c * bw 4 = pv a0 a1 a2 a3 a4 4 + pv b0 b1 b2 b3 b4 4) (hv : v + 18446744073709551616 * d = a4 + b4 + c) :
    pv r0 r1 r2 r3 v 5 + d * bw 5 = pv a0 a1 a2 a3 a4 5 + pv b0 b1 b2 b3 b4 5 := by simp only [pv, bw] at h ⊢; omega

set_option maxHeartbeats 4000000 in
theorem add320 (a0 a1 a2 a3 a4 b0 b1 b2 b3 b4 : Int) (w : World) (ha0 : Word a0) (ha1 : Word a1) (ha2 : Word a2) (ha3 : Word a3) (ha4 : Word a4) (hb0 : Word b0) (hb1 : Word b1) (hb2 : Word b2) (hb3 : Word b3) (hb4 : Word b4) :
    Calls Try.prog 5 #[.agg #[.int .u64 a0, .int .u64 a1, .int .u64 a2, .int .u64 a3, .int .u64 a4], .agg #[.int .u64 b0, .int .u64 b1, .int .u64 b2, .int .u64 b3, .int .u64 b4]] w fun e w' => ∃ r0 r1 r2 r3 r4 c : Int,
      e = .returned (.agg #[.int .u64 r0, .int .u64 r1, .int .u64 r2, .int .u64 r3, .int .u64 r4]) ∧ Word r0 ∧ Word r1 ∧ Word r2 ∧ Word r3 ∧ Word r4 ∧ 0 ≤ c ∧ c ≤ 1 ∧
      pv r0 r1 r2 r3 r4 5 + c * bw 5 = pv a0 a1 a2 a3 a4 5 + pv b0 b1 b2 b3 b4 5 ∧ Below w.heap.size w w' := by
  unfold Word at *
  go_enter Try.func5, Try.ntmps5
  go_wp2
  go_loopw [6, 7] (fun c i wr => ∃ (k n : Nat) (cv r0 r1 r2 r3 r4 : Int), k ≤ 5 ∧ i = .int .i64 k ∧ c = .int .u64 cv ∧ wr = (W4 w a0 a1 a2 a3 a4 b0 b1 b2 b3 b4 r0 r1 r2 r3 r4).drewN n ∧
    0 ≤ cv ∧ cv ≤ 1 ∧ (0 ≤ r0 ∧ r0 < 18446744073709551616) ∧ (0 ≤ r1 ∧ r1 < 18446744073709551616) ∧ (0 ≤ r2 ∧ r2 < 18446744073709551616) ∧ (0 ≤ r3 ∧ r3 < 18446744073709551616) ∧ (0 ≤ r4 ∧ r4 < 18446744073709551616) ∧ pv r0 r1 r2 r3 r4 k + cv * bw k = pv a0 a1 a2 a3 a4 k + pv b0 b1 b2 b3 b4 k) (fun _ i _ => 5 - (intOf i).toNat)
  case atStart => exact ⟨0, 0, 0, 0, 0, 0, 0, 0, by omega, rfl, rfl, rfl, by omega, by omega, by omega, by omega, by omega, by omega, by omega, by simp [pv]⟩
  case round =>
    obtain ⟨k, n, cv, r0, r1, r2, r3, r4, hk, rfl, rfl, rfl, c0, c1, d0, d1, d2, d3, d4, he⟩ := hrel
    have H : Hid (pv r0 r1 r2 r3 r4 k + cv * bw k = pv a0 a1 a2 a3 a4 k + pv b0 b1 b2 b3 b4 k) := he
    clear he
    have hk' : k = 0 ∨ k = 1 ∨ k = 2 ∨ k = 3 ∨ k = 4 ∨ k = 5 := by omega
    unfold W4
    rcases hk' with rfl | rfl | rfl | rfl | rfl | rfl
    · go_wp2
      go_quiet (fail)
      go_wp2
      · exact (st_bad ha0 hb0 c0 c1 ‹_› ‹_›).elim
      · go_roundw
        case rel =>
          have hs := st_a ha0 hb0 c0 c1 ‹_› ‹_›
          exact ⟨1, n + nq, 1, _, r1, r2, r3, r4, by omega, rfl, rfl, set4_0 w a0 a1 a2 a3 a4 b0 b1 b2 b3 b4 r0 r1 r2 r3 r4 _ (n + nq), by omega, by omega, hs.2, d1, d2, d3, d4, pv_step0 H.out hs.1⟩
        case measure => simp [intOf]
      · go_roundw
        case rel =>
          have hs := st_b ha0 hb0 c0 c1 ‹_› ‹_›
          exact ⟨1, n + nq, 1, _, r1, r2, r3, r4, by omega, rfl, rfl, set4_0 w a0 a1 a2 a3 a4 b0 b1 b2 b3 b4 r0 r1 r2 r3 r4 _ (n + nq), by omega, by omega, hs.2, d1, d2, d3, d4, pv_step0 H.out hs.1⟩
        case measure => simp [intOf]
      · go_roundw
        case rel =>
          have hs := st_c ha0 hb0 c0 c1 ‹_› ‹_›
          exact ⟨1, n + nq, 0, _, r1, r2, r3, r4, by omega, rfl, rfl, set4_0 w a0 a1 a2 a3 a4 b0 b1 b2 b3 b4 r0 r1 r2 r3 r4 _ (n + nq), by omega, by omega, hs.2, d1, d2, d3, d4, pv_step0 H.out hs.1⟩
        case measure => simp [intOf]
    · go_wp2
      go_quiet (fail)
      go_wp2
      · exact (st_bad ha1 hb1 c0 c1 ‹_› ‹_›).elim
      · go_roundw
        case rel =>
          have hs := st_a ha1 hb1 c0 c1 ‹_› ‹_›
          exact ⟨2, n + nq, 1, r0, _, r2, r3, r4, by omega, rfl, rfl, set4_1 w a0 a1 a2 a3 a4 b0 b1 b2 b3 b4 r0 r1 r2 r3 r4 _ (n + nq), by omega, by omega, d0, hs.2, d2, d3, d4, pv_step1 H.out hs.1⟩
        case measure => simp [intOf]
      · go_roundw
        case rel =>
          have hs := st_b ha1 hb1 c0 c1 ‹_› ‹_›
          exact ⟨2, n + nq, 1, r0, _, r2, r3, r4, by omega, rfl, rfl, set4_1 w a0 a1 a2 a3 a4 b0 b1 b2 b3 b4 r0 r1 r2 r3 r4 _ (n + nq), by omega, by omega, d0, hs.2, d2, d3, d4, pv_step1 H.out hs.1⟩
        case measure => simp [intOf]
      · go_roundw
        case rel =>
          have hs := st_c ha1 hb1 c0 c1 ‹_› ‹_›
          exact ⟨2, n + nq, 0, r0, _, r2, r3, r4, by omega, rfl, rfl, set4_1 w a0 a1 a2 a3 a4 b0 b1 b2 b3 b4 r0 r1 r2 r3 r4 _ (n + nq), by omega, by omega, d0, hs.2, d2, d3, d4, pv_step1 H.out hs.1⟩
        case measure => simp [intOf]
    · go_wp2
      go_quiet (fail)
      go_wp2
      · exact (st_bad ha2 hb2 c0 c1 ‹_› ‹_›).elim
      · go_roundw
        case rel =>
          have hs := st_a ha2 hb2 c0 c1 ‹_› ‹_›
          exact ⟨3, n + nq, 1, r0, r1, _, r3, r4, by omega, rfl, rfl, set4_2 w a0 a1 a2 a3 a4 b0 b1 b2 b3 b4 r0 r1 r2 r3 r4 _ (n + nq), by omega, by omega, d0, d1, hs.2, d3, d4, pv_step2 H.out hs.1⟩
        case measure => simp [intOf]
      · go_roundw
        case rel =>
          have hs := st_b ha2 hb2 c0 c1 ‹_› ‹_›
          exact ⟨3, n + nq, 1, r0, r1, _, r3, r4, by omega, rfl, rfl, set4_2 w a0 a1 a2 a3 a4 b0 b1 b2 b3 b4 r0 r1 r2 r3 r4 _ (n + nq), by omega, by omega, d0, d1, hs.2, d3, d4, pv_step2 H.out hs.1⟩
        case measure => simp [intOf]
      · go_roundw
        case rel =>
          have hs := st_c ha2 hb2 c0 c1 ‹_› ‹_›
          exact ⟨3, n + nq, 0, r0, r1, _, r3, r4, by omega, rfl, rfl, set4_2 w a0 a1 a2 a3 a4 b0 b1 b2 b3 b4 r0 r1 r2 r3 r4 _ (n + nq), by omega, by omega, d0, d1, hs.2, d3, d4, pv_step2 H.out hs.1⟩
        case measure => simp [intOf]
    · go_wp2
      go_quiet (fail)
      go_wp2
      · exact (st_bad ha3 hb3 c0 c1 ‹_› ‹_›).elim
      · go_roundw
        case rel =>
          have hs := st_a ha3 hb3 c0 c1 ‹_› ‹_›
          exact ⟨4, n + nq, 1, r0, r1, r2, _, r4, by omega, rfl, rfl, set4_3 w a0 a1 a2 a3 a4 b0 b1 b2 b3 b4 r0 r1 r2 r3 r4 _ (n + nq), by omega, by omega, d0, d1, d2, hs.2, d4, pv_step3 H.out hs.1⟩
        case measure => simp [intOf]
      · go_roundw
        case rel =>
          have hs := st_b ha3 hb3 c0 c1 ‹_› ‹_›
          exact ⟨4, n + nq, 1, r0, r1, r2, _, r4, by omega, rfl, rfl, set4_3 w a0 a1 a2 a3 a4 b0 b1 b2 b3 b4 r0 r1 r2 r3 r4 _ (n + nq), by omega, by omega, d0, d1, d2, hs.2, d4, pv_step3 H.out hs.1⟩
        case measure => simp [intOf]
      · go_roundw
        case rel =>
          have hs := st_c ha3 hb3 c0 c1 ‹_› ‹_›
          exact ⟨4, n + nq, 0, r0, r1, r2, _, r4, by omega, rfl, rfl, set4_3 w a0 a1 a2 a3 a4 b0 b1 b2 b3 b4 r0 r1 r2 r3 r4 _ (n + nq), by omega, by omega, d0, d1, d2, hs.2, d4, pv_step3 H.out hs.1⟩
        case measure => simp [intOf]
    · go_wp2
      go_quiet (fail)
      go_wp2
      · exact (st_bad ha4 hb4 c0 c1 ‹_› ‹_›).elim
      · go_roundw
        case rel =>
          have hs := st_a ha4 hb4 c0 c1 ‹_› ‹_›
          exact ⟨5, n + nq, 1, r0, r1, r2, r3, _, by omega, rfl, rfl, set4_4 w a0 a1 a2 a3 a4 b0 b1 b2 b3 b4 r0 r1 r2 r3 r4 _ (n + nq), by omega, by omega, d0, d1, d2, d3, hs.2, pv_step4 H.out hs.1⟩
        case measure => simp [intOf]
      · go_roundw
        case rel =>
          have hs := st_b ha4 hb4 c0 c1 ‹_› ‹_›
          exact ⟨5, n + nq, 1, r0, r1, r2, r3, _, by omega, rfl, rfl, set4_4 w a0 a1 a2 a3 a4 b0 b1 b2 b3 b4 r0 r1 r2 r3 r4 _ (n + nq), by omega, by omega, d0, d1, d2, d3, hs.2, pv_step4 H.out hs.1⟩
        case measure => simp [intOf]
      · go_roundw
        case rel =>
          have hs := st_c ha4 hb4 c0 c1 ‹_› ‹_›
          exact ⟨5, n + nq, 0, r0, r1, r2, r3, _, by omega, rfl, rfl, set4_4 w a0 a1 a2 a3 a4 b0 b1 b2 b3 b4 r0 r1 r2 r3 r4 _ (n + nq), by omega, by omega, d0, d1, d2, d3, hs.2, pv_step4 H.out hs.1⟩
        case measure => simp [intOf]
    · go_wp2
      refine bodyPost_ret (v := .agg #[.int .u64 r0, .int .u64 r1, .int .u64 r2, .int .u64 r3, .int .u64 r4]) (by simp [results, Try.results5, go_sem]) rfl ⟨r0, r1, r2, r3, r4, cv, rfl, d0, d1, d2, d3, d4, c0, c1, H.out, ?_⟩
      refine Below.setCell ?_ (show w.heap.size ≤ w.heap.size + 1 + 1 by omega) _
      refine Below.setCell ?_ (show w.heap.size ≤ w.heap.size + 1 + 1 by omega) _
      refine Below.setCell ?_ (show w.heap.size ≤ w.heap.size + 1 + 1 by omega) _
      refine Below.setCell ?_ (show w.heap.size ≤ w.heap.size + 1 + 1 by omega) _
      refine Below.setCell ?_ (show w.heap.size ≤ w.heap.size + 1 + 1 by omega) _
      exact below_drewN (w4_below w a0 a1 a2 a3 a4 b0 b1 b2 b3 b4 r0 r1 r2 r3 r4) n

end Go.Proofs.Qxb6626220a

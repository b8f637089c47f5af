import Derived.Test.Qxb6626220aPlain
import Derived.WalkSmall
namespace Go.Proofs.Qxb6626220a
open Go.ChangeShapes Go.WideShapes Go.ChangeAt Go.RowKit

/-- The five words stand for v modulo 2^320. -/
def Is (n0 n1 n2 n3 n4 v : Int) : Prop := ∃ c, pv n0 n1 n2 n3 n4 5 + c * bw 5 = v

theorem bit_lo (l h k : Nat) (hk : k < 64) : (l + 18446744073709551616 * h) / 2 ^ k % 2 = l / 2 ^ k % 2 := by
  have e : 18446744073709551616 * h = 2 ^ k * (2 * (2 ^ (63 - k) * h)) := by
    rw [show (18446744073709551616 : Nat) = 2 ^ k * (2 * 2 ^ (63 - k)) by rw [← Nat.pow_succ', ← Nat.pow_add, show k + (63 - k).succ = 64 by omega]]
    simp only [Nat.mul_assoc]
  rw [e, Nat.add_mul_div_left _ _ (Nat.two_pow_pos k)]
  omega

theorem bit_hi (l h k : Nat) (hl : l < 18446744073709551616) (hk : 64 ≤ k) : (l + 18446744073709551616 * h) / 2 ^ k % 2 = h / 2 ^ (k - 64) % 2 := by
  have e : 2 ^ k = 18446744073709551616 * 2 ^ (k - 64) := by rw [show (18446744073709551616 : Nat) = 2 ^ 64 from rfl, ← Nat.pow_add, show 64 + (k - 64) = k by omega]
  rw [e, ← Nat.div_div_eq_div_mul, show (l + 18446744073709551616 * h) / 18446744073709551616 = h by omega]

theorem mod_step (x k : Nat) : x % 2 ^ (k + 1) = x % 2 ^ k + 2 ^ k * (x / 2 ^ k % 2) := Nat.mod_pow_succ

theorem low_step (x k b : Nat) (Y : Int) (h : x / 2 ^ k % 2 = b) : ((x % 2 ^ (k + 1) : Nat) : Int) * Y = ((x % 2 ^ k : Nat) : Int) * Y + (b : Int) * (Y * ((2 ^ k : Nat) : Int)) := by
  rw [mod_step, h, Int.natCast_add, Int.natCast_mul, Int.add_mul, Int.mul_comm ((2 ^ k : Nat) : Int) (b : Int), Int.mul_assoc, Int.mul_comm ((2 ^ k : Nat) : Int) Y]

theorem is_add {n0 n1 n2 n3 n4 d0 d1 d2 d3 d4 s0 s1 s2 s3 s4 c u v : Int} (hn : Is n0 n1 n2 n3 n4 u) (hd : Is d0 d1 d2 d3 d4 v) (h : pv s0 s1 s2 s3 s4 5 + c * bw 5 = pv n0 n1 n2 n3 n4 5 + pv d0 d1 d2 d3 d4 5) : Is s0 s1 s2 s3 s4 (u + v) := by
  obtain ⟨a, ha⟩ := hn
  obtain ⟨b, hb⟩ := hd
  refine ⟨a + b + c, ?_⟩
  rw [Int.add_mul, Int.add_mul]
  omega

theorem is_shl {d0 d1 d2 d3 d4 s0 s1 s2 s3 s4 c v : Int} (hd : Is d0 d1 d2 d3 d4 v) (h : pv s0 s1 s2 s3 s4 5 + c * bw 5 = 2 * pv d0 d1 d2 d3 d4 5) : Is s0 s1 s2 s3 s4 (2 * v) := by
  obtain ⟨b, hb⟩ := hd
  refine ⟨2 * b + c, ?_⟩
  rw [Int.add_mul, Int.mul_assoc]
  omega

theorem shl_pow (Y : Int) (k : Nat) : 2 * (Y * ((2 ^ k : Nat) : Int)) = Y * ((2 ^ (k + 1) : Nat) : Int) := by
  rw [Nat.pow_succ, Int.natCast_mul, Int.mul_left_comm, Int.mul_comm ((2 ^ k : Nat) : Int)]
  rfl

theorem div_pow (L k : Nat) : (L : Int) / 2 ^ k = ((L / 2 ^ k : Nat) : Int) := by
  rw [Int.natCast_ediv, Int.natCast_pow]
  rfl

theorem test_one (L k : Nat) (hL : L < 18446744073709551616) : (bits .and .u64 ((L : Int) / 2 ^ k) 1 == 1) = decide (L / 2 ^ k % 2 = 1) := by
  have hle : L / 2 ^ k ≤ L := Nat.div_le_self _ _
  rw [div_pow]
  generalize L / 2 ^ k = q at *
  rw [and_one_u64 _ (by omega) (by omega), Bool.eq_iff_iff, beq_iff_eq, decide_eq_true_eq]
  omega

/-- x as one natural number. -/
def XN (xl xh : Int) : Nat := xl.toNat + 18446744073709551616 * xh.toNat

theorem XN_eq {xl xh : Int} (hl : Word xl) (hh : Word xh) : ((XN xl xh : Nat) : Int) = xl + 18446744073709551616 * xh := by
  unfold Word at *; unfold XN; omega

theorem XN_lt {xl xh : Int} (hl : Word xl) (hh : Word xh) : XN xl xh < 2 ^ 128 := by
  unfold Word at *; unfold XN; omega

theorem test_lo {xl xh : Int} (k : Nat) (hl : Word xl) (hk : k < 64) : (bits .and .u64 (xl / 2 ^ k) 1 == 1) = decide (XN xl xh / 2 ^ k % 2 = 1) := by
  unfold Word at *
  obtain ⟨L, rfl⟩ := Int.eq_ofNat_of_zero_le hl.1
  unfold XN
  rw [test_one L k (by omega), bit_lo _ _ _ hk]
  rfl

theorem test_hi {xl xh : Int} (k : Nat) (hl : Word xl) (hh : Word xh) (hk : 64 ≤ k) : (bits .and .u64 (xh / 2 ^ (k - 64)) 1 == 1) = decide (XN xl xh / 2 ^ k % 2 = 1) := by
  unfold Word at *
  obtain ⟨M, rfl⟩ := Int.eq_ofNat_of_zero_le hh.1
  unfold XN
  rw [test_one M (k - 64) (by omega), bit_hi _ _ _ (by omega) hk]
  rfl

theorem is_zero (Y : Int) (x : Nat) : Is 0 0 0 0 0 (((x % 2 ^ 0 : Nat) : Int) * Y) := ⟨0, by rw [Nat.pow_zero, Nat.mod_one]; simp [pv]⟩
theorem is_start (h m l : Int) : Is l m h 0 0 (yv h m l * ((2 ^ 0 : Nat) : Int)) := ⟨0, by simp [pv, yv]⟩

/-- One round: the bit is set. -/
theorem round_one {n0 n1 n2 n3 n4 d0 d1 d2 d3 d4 s0 s1 s2 s3 s4 c Y : Int} {x k : Nat} (hb : x / 2 ^ k % 2 = 1) (hn : Is n0 n1 n2 n3 n4 (((x % 2 ^ k : Nat) : Int) * Y)) (hd : Is d0 d1 d2 d3 d4 (Y * ((2 ^ k : Nat) : Int)))
    (h : pv s0 s1 s2 s3 s4 5 + c * bw 5 = pv n0 n1 n2 n3 n4 5 + pv d0 d1 d2 d3 d4 5) : Is s0 s1 s2 s3 s4 (((x % 2 ^ (k + 1) : Nat) : Int) * Y) := by
  have e := low_step x k 1 Y hb
  have r := is_add hn hd h
  rw [e]
  simpa using r
/-- The bit is clear. -/
theorem round_nil {n0 n1 n2 n3 n4 Y : Int} {x k : Nat} (hb : ¬ x / 2 ^ k % 2 = 1) (hn : Is n0 n1 n2 n3 n4 (((x % 2 ^ k : Nat) : Int) * Y)) : Is n0 n1 n2 n3 n4 (((x % 2 ^ (k + 1) : Nat) : Int) * Y) := by
  have e := low_step x k 0 Y (by omega)
  rw [e]
  simpa using hn
theorem round_shl {d0 d1 d2 d3 d4 s0 s1 s2 s3 s4 c Y : Int} {k : Nat} (hd : Is d0 d1 d2 d3 d4 (Y * ((2 ^ k : Nat) : Int))) (h : pv s0 s1 s2 s3 s4 5 + c * bw 5 = 2 * pv d0 d1 d2 d3 d4 5) :
    Is s0 s1 s2 s3 s4 (Y * ((2 ^ (k + 1) : Nat) : Int)) := by rw [← shl_pow]; exact is_shl hd h

theorem eq5 (l0 l1 l2 l3 l4 : Int) (w : World) : (Op.equalIn 10000 23 (.agg #[.int .u64 l0, .int .u64 l1, .int .u64 l2, .int .u64 l3, .int .u64 l4]) (.agg #[.int .u64 l0, .int .u64 l1, .int .u64 l2, .int .u64 l3, .int .u64 l4])).run Try.prog w = .ok true w := by
  have hi : ∃ i, Try.prog.info? 22 = some i := by
    refine Option.isSome_iff_exists.1 ?_
    kernel_rfl
  obtain ⟨i, hi⟩ := hi
  have hc : Try.prog.cellsOf 22 = 1 := by kernel_rfl
  rw [run_equalIn_array w 9999 _ _ Try.underlying23 hi]
  simp [Op.eqItems, hc, List.range_succ, go_sem]
end Go.Proofs.Qxb6626220a

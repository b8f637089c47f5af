import Derived.Test.Qxb6626220aWords
namespace Go.Proofs.Qxb6626220a
open Go.ChangeShapes Go.WideShapes Go.ChangeAt Go.RowKit

theorem or_low (m c : Nat) (hm : 2 * m < 18446744073709551616) (hc : c ≤ 1) : bits .or .u64 ((2 * m : Nat) : Int) (c : Int) = ((2 * m + c : Nat) : Int) := by
  rw [bits_or_u64_nat (2 * m) c hm (by omega)]
  have h := Nat.two_pow_add_eq_or_of_lt (i := 1) (b := c) (by omega) m
  rw [show 2 ^ 1 * m = 2 * m by omega] at h
  rw [← h]

theorem or_shift (a c : Int) (ha : 0 ≤ a ∧ a < 18446744073709551616) (c0 : 0 ≤ c) (c1 : c ≤ 1) : bits .or .u64 (IntKind.u64.wrap (a * 2)) c = (a * 2) % 18446744073709551616 + c := by
  obtain ⟨a0, a1⟩ := ha
  obtain ⟨n, rfl⟩ := Int.eq_ofNat_of_zero_le a0
  obtain ⟨d, rfl⟩ := Int.eq_ofNat_of_zero_le c0
  rw [IntKind.wrap_u64]
  have e : ((n : Int) * 2) % 18446744073709551616 = ((2 * (n % 9223372036854775808) : Nat) : Int) := by omega
  rw [e, or_low _ _ (by omega) (by omega)]
  omega

theorem shl_eq (a0 a1 a2 a3 a4 : Int) :
    pv ((a0 * 2) % 18446744073709551616 + 0) ((a1 * 2) % 18446744073709551616 + a0 / 9223372036854775808) ((a2 * 2) % 18446744073709551616 + a1 / 9223372036854775808)
      ((a3 * 2) % 18446744073709551616 + a2 / 9223372036854775808) ((a4 * 2) % 18446744073709551616 + a3 / 9223372036854775808) 5 + (a4 / 9223372036854775808) * bw 5 = 2 * pv a0 a1 a2 a3 a4 5 := by
  simp only [pv, bw]; omega

set_option maxHeartbeats 4000000 in
theorem shl1 (a0 a1 a2 a3 a4 : Int) (w : World) (ha0 : Word a0) (ha1 : Word a1) (ha2 : Word a2) (ha3 : Word a3) (ha4 : Word a4) :
    Calls Try.prog 6 #[.agg #[.int .u64 a0, .int .u64 a1, .int .u64 a2, .int .u64 a3, .int .u64 a4]] w fun e w' => ∃ r0 r1 r2 r3 r4 : Int,
      e = .returned (.agg #[.int .u64 r0, .int .u64 r1, .int .u64 r2, .int .u64 r3, .int .u64 r4]) ∧ Word r0 ∧ Word r1 ∧ Word r2 ∧ Word r3 ∧ Word r4 ∧
      pv r0 r1 r2 r3 r4 5 + (a4 / 9223372036854775808) * bw 5 = 2 * pv a0 a1 a2 a3 a4 5 ∧ Below w.heap.size w w' := by
  unfold Word at *
  go_enter Try.func6, Try.ntmps6
  go_wp2
  go_rounds 6
  simp only [or_shift a0 0 ha0 (by omega) (by omega), or_shift a1 (a0 / 9223372036854775808) ha1 (by omega) (by omega), or_shift a2 (a1 / 9223372036854775808) ha2 (by omega) (by omega), or_shift a3 (a2 / 9223372036854775808) ha3 (by omega) (by omega), or_shift a4 (a3 / 9223372036854775808) ha4 (by omega) (by omega)]
  refine bodyPost_ret (v := .agg #[.int .u64 ((a0 * 2) % 18446744073709551616 + 0), .int .u64 ((a1 * 2) % 18446744073709551616 + a0 / 9223372036854775808), .int .u64 ((a2 * 2) % 18446744073709551616 + a1 / 9223372036854775808), .int .u64 ((a3 * 2) % 18446744073709551616 + a2 / 9223372036854775808), .int .u64 ((a4 * 2) % 18446744073709551616 + a3 / 9223372036854775808)])
    (by simp [results, Try.results6, go_sem]) rfl ⟨_, _, _, _, _, rfl, by omega, by omega, by omega, by omega, by omega, shl_eq a0 a1 a2 a3 a4, ?_⟩
  exact (((Below.refl _ _).alloc (Nat.le_refl _) _).alloc (by simp) _).alloc (by simp; omega) _
end Go.Proofs.Qxb6626220a

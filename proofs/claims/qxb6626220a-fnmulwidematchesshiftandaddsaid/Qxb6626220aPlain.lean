import Derived.Test.Qxb6626220aMul
namespace Go.Proofs.Qxb6626220a
open Go.RowKit

/-- The three words of y, one number. -/
def yv (h m l : Int) : Int := l + 18446744073709551616 * m + 340282366920938463463374607431768211456 * h

theorem mul_yv (x h m l : Int) : pv (x * l) (x * m) (x * h) 0 0 3 = x * yv h m l := by
  simp only [pv, yv, Int.mul_add, Int.mul_left_comm x]

theorem prod_eq (xh xl h m l : Int) : pv (xl * l) (xl * m) (xl * h) 0 0 3 + 18446744073709551616 * pv (xh * l) (xh * m) (xh * h) 0 0 3 = (xl + 18446744073709551616 * xh) * yv h m l := by
  rw [mul_yv, mul_yv, Int.add_mul, Int.mul_assoc]

/-- Five words are told by their value. -/
theorem pv_inj {a0 a1 a2 a3 a4 b0 b1 b2 b3 b4 : Int} (ha0 : Word a0) (ha1 : Word a1) (ha2 : Word a2) (ha3 : Word a3) (ha4 : Word a4) (hb0 : Word b0) (hb1 : Word b1) (hb2 : Word b2) (hb3 : Word b3) (hb4 : Word b4)
    (c d : Int) (h : pv a0 a1 a2 a3 a4 5 + c * bw 5 = pv b0 b1 b2 b3 b4 5 + d * bw 5) : a0 = b0 ∧ a1 = b1 ∧ a2 = b2 ∧ a3 = b3 ∧ a4 = b4 := by
  unfold Word at *
  simp only [pv, bw] at h
  refine ⟨by omega, by omega, by omega, by omega, by omega⟩

theorem low_word {z0 z1 z2 z3 z4 xh xl h m l : Int} (hz : Word z0) (e : pv z0 z1 z2 z3 z4 5 = pv (xl * l) (xl * m) (xl * h) 0 0 3 + 18446744073709551616 * pv (xh * l) (xh * m) (xh * h) 0 0 3) : z0 = IntKind.u64.wrap (xl * l) := by
  unfold Word at hz
  rw [IntKind.wrap_u64]
  simp only [pv] at e
  omega

theorem dist {A B S c Y T : Int} (h : A + B = S + c * T) : A * Y + B * Y = S * Y + c * (Y * T) := by
  rw [← Int.add_mul, h, Int.add_mul, Int.mul_assoc, Int.mul_comm T Y]
end Go.Proofs.Qxb6626220a

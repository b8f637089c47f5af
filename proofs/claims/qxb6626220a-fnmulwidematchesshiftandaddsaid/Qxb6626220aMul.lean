import Derived.Test.Qxb6626220aWords
namespace Go.Proofs.Qxb6626220a
open Go.ChangeShapes Go.WideShapes Go.ChangeAt Go.RowKit

theorem mul_lt {x y : Nat} (hx : x < 18446744073709551616) (hy : y < 18446744073709551616) : x * y ≤ 18446744073709551615 * 18446744073709551615 := Nat.mul_le_mul (by omega) (by omega)

theorem mul64 (x y : Int) (hx : 0 ≤ x ∧ x < 18446744073709551616) (hy : 0 ≤ y ∧ y < 18446744073709551616) (w : World) :
    Calls Try.prog 8 #[.int .u64 x, .int .u64 y] w fun e w' => ∃ hi lo : Int, e = .returned (.tuple #[.int .u64 hi, .int .u64 lo]) ∧ w = w' ∧ 0 ≤ hi ∧ hi ≤ 18446744073709551614 ∧ 0 ≤ lo ∧ lo ≤ 18446744073709551615 ∧ hi * 18446744073709551616 + lo ≤ 340282366920938463426481119284349108225 ∧ Hid (hi * 18446744073709551616 + lo = x * y) := by
  obtain ⟨x0, x1⟩ := hx
  obtain ⟨y0, y1⟩ := hy
  obtain ⟨m, rfl⟩ := Int.eq_ofNat_of_zero_le x0
  obtain ⟨n, rfl⟩ := Int.eq_ofNat_of_zero_le y0
  refine (mul64N m n (by omega) (by omega) w).mono ?_
  rintro e w' ⟨rfl, rfl⟩
  have hp := mul_lt (x := m) (y := n) (by omega) (by omega)
  refine ⟨_, _, rfl, rfl, by omega, ?_, by omega, by omega, ?_, ?_⟩
  · generalize m * n = p at *
    omega
  · generalize m * n = p at *
    omega
  · show _ = _
    rw [show (m : Int) * (n : Int) = ((m * n : Nat) : Int) from (Int.natCast_mul m n).symm]
    generalize m * n = p at *
    omega

def M4 (w : World) (xh xl yh ym yl z0 z1 z2 z3 z4 : Int) : World :=
  (((w.alloc (.cells #[.int .u64 xh, .int .u64 xl] 28)).alloc (.cells #[.int .u64 yh, .int .u64 ym, .int .u64 yl] 30)).alloc
    (.cells #[.int .u64 0, .int .u64 0, .int .u64 0, .int .u64 0, .int .u64 0] 23)).alloc (.cells #[.int .u64 z0, .int .u64 z1, .int .u64 z2, .int .u64 z3, .int .u64 z4] 23)

theorem index34_0 (x0 x1 : Value) (w : World) : (Instr.index 34 (.agg #[x0, x1]) (.int .i64 0)).run Try.prog w = .ok x0 w := by kernel_rfl
theorem index34_1 (x0 x1 : Value) (w : World) : (Instr.index 34 (.agg #[x0, x1]) (.int .i64 1)).run Try.prog w = .ok x1 w := by kernel_rfl
theorem index35_0 (x0 x1 x2 : Value) (w : World) : (Instr.index 35 (.agg #[x0, x1, x2]) (.int .i64 0)).run Try.prog w = .ok x0 w := by kernel_rfl
theorem index35_1 (x0 x1 x2 : Value) (w : World) : (Instr.index 35 (.agg #[x0, x1, x2]) (.int .i64 1)).run Try.prog w = .ok x1 w := by kernel_rfl
theorem index35_2 (x0 x1 x2 : Value) (w : World) : (Instr.index 35 (.agg #[x0, x1, x2]) (.int .i64 2)).run Try.prog w = .ok x2 w := by kernel_rfl

theorem mstep {hi lo z c p : Int} (h0 : 0 ≤ hi) (l0 : 0 ≤ lo) (l1 : lo ≤ 18446744073709551615) (hl : hi * 18446744073709551616 + lo ≤ 340282366920938463426481119284349108225)
    (hz : 0 ≤ z ∧ z < 18446744073709551616) (hc : 0 ≤ c ∧ c < 18446744073709551616) (hp : hi * 18446744073709551616 + lo = p) :
    (lo + z + c) % 18446744073709551616 + 18446744073709551616 * (hi + (lo + z) / 18446744073709551616 + ((lo + z) % 18446744073709551616 + c) / 18446744073709551616) = p + z + c ∧
    (0 ≤ (lo + z + c) % 18446744073709551616 ∧ (lo + z + c) % 18446744073709551616 < 18446744073709551616) ∧
    (0 ≤ hi + (lo + z) / 18446744073709551616 + ((lo + z) % 18446744073709551616 + c) / 18446744073709551616 ∧ hi + (lo + z) / 18446744073709551616 + ((lo + z) % 18446744073709551616 + c) / 18446744073709551616 < 18446744073709551616) := by
  omega
theorem ps0_0 {z0 z1 z2 c v d q0 q1 q2 : Int} (h : pv z0 z1 z2 0 0 5 + c * bw 0 = pv q0 q1 q2 0 0 0) (hv : v + 18446744073709551616 * d = q0 + z0 + c) :
    pv v z1 z2 0 0 5 + d * bw 1 = pv q0 q1 q2 0 0 1 := by simp only [pv, bw] at h ⊢; omega
theorem ps0_1 {z0 z1 z2 c v d q0 q1 q2 : Int} (h : pv z0 z1 z2 0 0 5 + c * bw 1 = pv q0 q1 q2 0 0 1) (hv : v + 18446744073709551616 * d = q1 + z1 + c) :
    pv z0 v z2 0 0 5 + d * bw 2 = pv q0 q1 q2 0 0 2 := by simp only [pv, bw] at h ⊢; omega
theorem ps0_2 {z0 z1 z2 c v d q0 q1 q2 : Int} (h : pv z0 z1 z2 0 0 5 + c * bw 2 = pv q0 q1 q2 0 0 2) (hv : v + 18446744073709551616 * d = q2 + z2 + c) :
    pv z0 z1 v 0 0 5 + d * bw 3 = pv q0 q1 q2 0 0 3 := by simp only [pv, bw] at h ⊢; omega
theorem ps1_0 {z0 z1 z2 z3 c v d q0 q1 q2 b : Int} (h : pv z0 z1 z2 z3 0 5 + c * bw 1 = b + 18446744073709551616 * pv q0 q1 q2 0 0 0) (hv : v + 18446744073709551616 * d = q0 + z1 + c) :
    pv z0 v z2 z3 0 5 + d * bw 2 = b + 18446744073709551616 * pv q0 q1 q2 0 0 1 := by simp only [pv, bw] at h ⊢; omega
theorem ps1_1 {z0 z1 z2 z3 c v d q0 q1 q2 b : Int} (h : pv z0 z1 z2 z3 0 5 + c * bw 2 = b + 18446744073709551616 * pv q0 q1 q2 0 0 1) (hv : v + 18446744073709551616 * d = q1 + z2 + c) :
    pv z0 z1 v z3 0 5 + d * bw 3 = b + 18446744073709551616 * pv q0 q1 q2 0 0 2 := by simp only [pv, bw] at h ⊢; omega
theorem ps1_2 {z0 z1 z2 z3 c v d q0 q1 q2 b : Int} (h : pv z0 z1 z2 z3 0 5 + c * bw 3 = b + 18446744073709551616 * pv q0 q1 q2 0 0 2) (hv : v + 18446744073709551616 * d = q2 + z3 + c) :
    pv z0 z1 z2 v 0 5 + d * bw 4 = b + 18446744073709551616 * pv q0 q1 q2 0 0 3 := by simp only [pv, bw] at h ⊢; omega
theorem pe0 {z0 z1 z2 c q0 q1 q2 : Int} (h : pv z0 z1 z2 0 0 5 + c * bw 3 = pv q0 q1 q2 0 0 3) : pv z0 z1 z2 c 0 5 = pv q0 q1 q2 0 0 3 := by simp only [pv, bw] at h ⊢; omega
theorem pe1 {z0 z1 z2 z3 c b q0 q1 q2 : Int} (h : pv z0 z1 z2 z3 0 5 + c * bw 4 = b + 18446744073709551616 * pv q0 q1 q2 0 0 3) : pv z0 z1 z2 z3 c 5 = b + 18446744073709551616 * pv q0 q1 q2 0 0 3 := by simp only [pv, bw] at h ⊢; omega

set_option maxHeartbeats 4000000 in
theorem mulWide (xh xl yh ym yl : Int) (w : World) (hxh : Word xh) (hxl : Word xl) (hyh : Word yh) (hym : Word ym) (hyl : Word yl) :
    Calls Try.prog 7 #[.agg #[.int .u64 xh, .int .u64 xl], .agg #[.int .u64 yh, .int .u64 ym, .int .u64 yl]] w fun e w' => ∃ z0 z1 z2 z3 z4 : Int,
      e = .returned (.agg #[.int .u64 z0, .int .u64 z1, .int .u64 z2, .int .u64 z3, .int .u64 z4]) ∧ Word z0 ∧ Word z1 ∧ Word z2 ∧ Word z3 ∧ Word z4 ∧
      pv z0 z1 z2 z3 z4 5 = pv (xl * yl) (xl * ym) (xl * yh) 0 0 3 + 18446744073709551616 * pv (xh * yl) (xh * ym) (xh * yh) 0 0 3 ∧ Below w.heap.size w w' := by
  unfold Word at *
  have ix0 := index34_0
  have ix1 := index34_1
  have iy0 := index35_0
  have iy1 := index35_1
  have iy2 := index35_2
  go_enter Try.func7, Try.ntmps7
  go_wp2
  go_loopw [19] (fun i wr => ∃ z0 z1 z2 z3 z4 : Int, wr = M4 w xh xl yh ym yl z0 z1 z2 z3 z4 ∧
    (0 ≤ z0 ∧ z0 < 18446744073709551616) ∧ (0 ≤ z1 ∧ z1 < 18446744073709551616) ∧ (0 ≤ z2 ∧ z2 < 18446744073709551616) ∧ (0 ≤ z3 ∧ z3 < 18446744073709551616) ∧ (0 ≤ z4 ∧ z4 < 18446744073709551616) ∧
    ((i = .int .i64 0 ∧ z0 = 0 ∧ z1 = 0 ∧ z2 = 0 ∧ z3 = 0 ∧ z4 = 0) ∨ (i = .int .i64 1 ∧ pv z0 z1 z2 z3 z4 5 = pv (xl * yl) (xl * ym) (xl * yh) 0 0 3 ∧ z4 = 0) ∨
     (i = .int .i64 2 ∧ pv z0 z1 z2 z3 z4 5 = pv (xl * yl) (xl * ym) (xl * yh) 0 0 3 + 18446744073709551616 * pv (xh * yl) (xh * ym) (xh * yh) 0 0 3))) (fun i _ => 2 - (intOf i).toNat)
  case atStart => exact ⟨0, 0, 0, 0, 0, rfl, by omega, by omega, by omega, by omega, by omega, .inl ⟨rfl, rfl, rfl, rfl, rfl, rfl⟩⟩
  case round =>
    obtain ⟨z0, z1, z2, z3, z4, rfl, d0, d1, d2, d3, d4, hi⟩ := hrel
    rcases hi with ⟨rfl, rfl, rfl, rfl, rfl, rfl⟩ | ⟨rfl, he, rfl⟩ | ⟨rfl, he⟩
    · unfold M4
      go_wp2
      go_loopw [8, 30] (fun c j wr => ∃ (m : Nat) (cv z0 z1 z2 : Int), m ≤ 3 ∧ j = .int .i64 m ∧ c = .int .u64 cv ∧ wr = M4 w xh xl yh ym yl z0 z1 z2 0 0 ∧ (0 ≤ cv ∧ cv < 18446744073709551616) ∧
        (0 ≤ z0 ∧ z0 < 18446744073709551616) ∧ (0 ≤ z1 ∧ z1 < 18446744073709551616) ∧ (0 ≤ z2 ∧ z2 < 18446744073709551616) ∧
        pv z0 z1 z2 0 0 5 + cv * bw m = pv (xl * yl) (xl * ym) (xl * yh) 0 0 m) (fun _ j _ => 3 - (intOf j).toNat)
      case atStart => exact ⟨0, 0, 0, 0, 0, by omega, rfl, rfl, rfl, by omega, by omega, by omega, by omega, by simp [pv]⟩
      case round =>
        obtain ⟨m, cv, z0, z1, z2, hm, rfl, rfl, rfl, dc, d0, d1, d2, he⟩ := hrel
        have H : Hid (pv z0 z1 z2 0 0 5 + cv * bw m = pv (xl * yl) (xl * ym) (xl * yh) 0 0 m) := he
        clear he
        have hm' : m = 0 ∨ m = 1 ∨ m = 2 ∨ m = 3 := by omega
        unfold M4
        rcases hm' with rfl | rfl | rfl | rfl
        · go_wp2_with (first | (go_at_call 8; refine (mul64 _ _ hxl hyl _).mono ?_; rintro e w' ⟨hi, lo, rfl, rfl, h0, h1, l0, l1, hl, HP⟩) | simp (disch := omega) only [add64_0])
          have hs := mstep h0 l0 l1 hl d0 dc HP.out
          go_roundw
          case rel => exact ⟨1, _, _, z1, z2, by omega, rfl, rfl, rfl, hs.2.2, hs.2.1, d1, d2, ps0_0 H.out hs.1⟩
          case measure => simp [intOf]
        · go_wp2_with (first | (go_at_call 8; refine (mul64 _ _ hxl hym _).mono ?_; rintro e w' ⟨hi, lo, rfl, rfl, h0, h1, l0, l1, hl, HP⟩) | simp (disch := omega) only [add64_0])
          have hs := mstep h0 l0 l1 hl d1 dc HP.out
          go_roundw
          case rel => exact ⟨2, _, z0, _, z2, by omega, rfl, rfl, rfl, hs.2.2, d0, hs.2.1, d2, ps0_1 H.out hs.1⟩
          case measure => simp [intOf]
        · go_wp2_with (first | (go_at_call 8; refine (mul64 _ _ hxl hyh _).mono ?_; rintro e w' ⟨hi, lo, rfl, rfl, h0, h1, l0, l1, hl, HP⟩) | simp (disch := omega) only [add64_0])
          have hs := mstep h0 l0 l1 hl d2 dc HP.out
          go_roundw
          case rel => exact ⟨3, _, z0, z1, _, by omega, rfl, rfl, rfl, hs.2.2, d0, d1, hs.2.1, ps0_2 H.out hs.1⟩
          case measure => simp [intOf]
        · go_wp2
          go_roundw
          case rel => exact ⟨_, _, _, _, _, rfl, d0, d1, d2, dc, by omega, .inr (.inl ⟨rfl, pe0 H.out, rfl⟩)⟩
          case measure => simp [intOf]
    · have H : Hid (pv z0 z1 z2 z3 0 5 = pv (xl * yl) (xl * ym) (xl * yh) 0 0 3) := he
      clear he
      unfold M4
      go_wp2
      go_loopw [8, 30] (fun c j wr => ∃ (m : Nat) (cv y1 y2 y3 : Int), m ≤ 3 ∧ j = .int .i64 m ∧ c = .int .u64 cv ∧ wr = M4 w xh xl yh ym yl z0 y1 y2 y3 0 ∧ (0 ≤ cv ∧ cv < 18446744073709551616) ∧
        (0 ≤ y1 ∧ y1 < 18446744073709551616) ∧ (0 ≤ y2 ∧ y2 < 18446744073709551616) ∧ (0 ≤ y3 ∧ y3 < 18446744073709551616) ∧
        pv z0 y1 y2 y3 0 5 + cv * bw (m + 1) = pv (xl * yl) (xl * ym) (xl * yh) 0 0 3 + 18446744073709551616 * pv (xh * yl) (xh * ym) (xh * yh) 0 0 m) (fun _ j _ => 3 - (intOf j).toNat)
      case atStart => exact ⟨0, 0, z1, z2, z3, by omega, rfl, rfl, rfl, by omega, d1, d2, d3, by rw [H.out]; simp [pv]⟩
      case round =>
        obtain ⟨m, cv, y1, y2, y3, hm, rfl, rfl, rfl, dc, e1, e2, e3, he⟩ := hrel
        have HH : Hid (pv z0 y1 y2 y3 0 5 + cv * bw (m + 1) = pv (xl * yl) (xl * ym) (xl * yh) 0 0 3 + 18446744073709551616 * pv (xh * yl) (xh * ym) (xh * yh) 0 0 m) := he
        clear he
        have hm' : m = 0 ∨ m = 1 ∨ m = 2 ∨ m = 3 := by omega
        unfold M4
        rcases hm' with rfl | rfl | rfl | rfl
        · go_wp2_with (first | (go_at_call 8; refine (mul64 _ _ hxh hyl _).mono ?_; rintro e w' ⟨hi, lo, rfl, rfl, h0, h1, l0, l1, hl, HP⟩) | simp (disch := omega) only [add64_0])
          have hs := mstep h0 l0 l1 hl e1 dc HP.out
          go_roundw
          case rel => exact ⟨1, _, _, y2, y3, by omega, rfl, rfl, rfl, hs.2.2, hs.2.1, e2, e3, ps1_0 HH.out hs.1⟩
          case measure => simp [intOf]
        · go_wp2_with (first | (go_at_call 8; refine (mul64 _ _ hxh hym _).mono ?_; rintro e w' ⟨hi, lo, rfl, rfl, h0, h1, l0, l1, hl, HP⟩) | simp (disch := omega) only [add64_0])
          have hs := mstep h0 l0 l1 hl e2 dc HP.out
          go_roundw
          case rel => exact ⟨2, _, y1, _, y3, by omega, rfl, rfl, rfl, hs.2.2, e1, hs.2.1, e3, ps1_1 HH.out hs.1⟩
          case measure => simp [intOf]
        · go_wp2_with (first | (go_at_call 8; refine (mul64 _ _ hxh hyh _).mono ?_; rintro e w' ⟨hi, lo, rfl, rfl, h0, h1, l0, l1, hl, HP⟩) | simp (disch := omega) only [add64_0])
          have hs := mstep h0 l0 l1 hl e3 dc HP.out
          go_roundw
          case rel => exact ⟨3, _, y1, y2, _, by omega, rfl, rfl, rfl, hs.2.2, e1, e2, hs.2.1, ps1_2 HH.out hs.1⟩
          case measure => simp [intOf]
        · go_wp2
          go_roundw
          case rel => exact ⟨_, _, _, _, _, rfl, d0, e1, e2, e3, dc, .inr (.inr ⟨rfl, pe1 HH.out⟩)⟩
          case measure => simp [intOf]
    · have H : Hid (pv z0 z1 z2 z3 z4 5 = pv (xl * yl) (xl * ym) (xl * yh) 0 0 3 + 18446744073709551616 * pv (xh * yl) (xh * ym) (xh * yh) 0 0 3) := he
      clear he
      unfold M4
      go_wp2
      refine bodyPost_ret (v := .agg #[.int .u64 z0, .int .u64 z1, .int .u64 z2, .int .u64 z3, .int .u64 z4]) (by simp [results, Try.results7, go_sem]) rfl ⟨z0, z1, z2, z3, z4, rfl, d0, d1, d2, d3, d4, H.out, ?_⟩
      exact ((((Below.refl _ _).alloc (Nat.le_refl _) _).alloc (by simp) _).alloc (by simp; omega) _).alloc (by simp; omega) _
end Go.Proofs.Qxb6626220a

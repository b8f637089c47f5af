import Derived.Test.Qxb6626220aPlain
namespace Go.Proofs.Qxb6626220a
open Go.ChangeShapes Go.WideShapes Go.ChangeAt Go.RowKit

theorem word_wrap (x : Int) : Word (IntKind.u64.wrap x) := by unfold Word; rw [IntKind.wrap_u64]; omega
theorem wrap_wrap (x : Int) : IntKind.u64.wrap (IntKind.u64.wrap x) = IntKind.u64.wrap x := by simp only [IntKind.wrap_u64]; omega
theorem word_zero : Word 0 := by unfold Word; omega

theorem eq5 (l0 l1 l2 l3 l4 : Int) (w : World) : (Op.equalIn 10000 23 (.agg #[.int .u64 l0, .int .u64 l1, .int .u64 l2, .int .u64 l3, .int .u64 l4]) (.agg #[.int .u64 l0, .int .u64 l1, .int .u64 l2, .int .u64 l3, .int .u64 l4])).run Try.prog w = .ok true w := by
  have hi : ∃ i, Try.prog.info? 22 = some i := by
    refine Option.isSome_iff_exists.1 ?_
    kernel_rfl
  obtain ⟨i, hi⟩ := hi
  have hc : Try.prog.cellsOf 22 = 1 := by kernel_rfl
  rw [run_equalIn_array w 9999 _ _ Try.underlying23 hi]
  simp [Op.eqItems, hc, List.range_succ, go_sem]

theorem top_eq (h m l : Int) : pv 0 0 l m h 5 = yv h m l * 340282366920938463463374607431768211456 := by simp only [pv, yv]; omega

theorem same_carry {A B S Y : Int} {p0 p1 p2 p3 p4 q0 q1 q2 q3 q4 r0 r1 r2 r3 r4 l0 l1 l2 l3 l4 s0 s1 s2 s3 s4 c d h m l : Int}
    (hp : pv p0 p1 p2 p3 p4 5 = A * Y) (hq : pv q0 q1 q2 q3 q4 5 = B * Y) (hr : pv r0 r1 r2 r3 r4 5 = S * Y) (hY : Y = yv h m l) (hS : A + B = S + 1 * 340282366920938463463374607431768211456)
    (hl : pv l0 l1 l2 l3 l4 5 + c * bw 5 = pv p0 p1 p2 p3 p4 5 + pv q0 q1 q2 q3 q4 5) (hs : pv s0 s1 s2 s3 s4 5 + d * bw 5 = pv r0 r1 r2 r3 r4 5 + pv 0 0 l m h 5) :
    pv l0 l1 l2 l3 l4 5 + c * bw 5 = pv s0 s1 s2 s3 s4 5 + d * bw 5 := by
  rw [hl, hs, hp, hq, hr, top_eq, ← hY, dist hS]; omega
theorem same_plain {A B S Y : Int} {p0 p1 p2 p3 p4 q0 q1 q2 q3 q4 r0 r1 r2 r3 r4 l0 l1 l2 l3 l4 c : Int}
    (hp : pv p0 p1 p2 p3 p4 5 = A * Y) (hq : pv q0 q1 q2 q3 q4 5 = B * Y) (hr : pv r0 r1 r2 r3 r4 5 = S * Y) (hS : A + B = S)
    (hl : pv l0 l1 l2 l3 l4 5 + c * bw 5 = pv p0 p1 p2 p3 p4 5 + pv q0 q1 q2 q3 q4 5) :
    pv l0 l1 l2 l3 l4 5 + c * bw 5 = pv r0 r1 r2 r3 r4 5 + 0 * bw 5 := by
  rw [hl, hp, hq, hr, ← Int.add_mul, hS]; omega

set_option maxHeartbeats 4000000 in
theorem dist00 (ah al bh bl yh ym yl : Int) (w : World) (hah : Word ah) (hal : Word al) (hbh : Word bh) (hbl : Word bl) (hyh : Word yh) (hym : Word ym) (hyl : Word yl)
    (h0 : al ≤ IntKind.u64.wrap (al + bl)) (h1 : ah ≤ IntKind.u64.wrap (ah + bh))  :
    Calls Try.prog 4 #[.int .u64 ah, .int .u64 al, .int .u64 bh, .int .u64 bl, .int .u64 yh, .int .u64 ym, .int .u64 yl] w fun e w' => e = .returned (.bool true) ∧ Below w.heap.size w w' := by
  have HS : Hid ((al + 18446744073709551616 * ah) + (bl + 18446744073709551616 * bh) = (IntKind.u64.wrap (al + bl) + 18446744073709551616 * IntKind.u64.wrap (ah + bh))) := by
    show _ = _
    unfold Word at *
    simp only [IntKind.wrap_u64] at *
    omega
  have e5 := eq5
  have ww := wrap_wrap (ah + bh)
  go_enter Try.func4, Try.ntmps4
  go_wp2_with fail
  refine (mulWide ah al yh ym yl _ hah hal hyh hym hyl).mono ?_
  rintro e w1 ⟨p0, p1, p2, p3, p4, rfl, hp0, hp1, hp2, hp3, hp4, HP, b1⟩
  have LP := low_word hp0 HP
  rw [prod_eq] at HP
  have HP' : Hid (pv p0 p1 p2 p3 p4 5 = _) := HP
  have LP' : Hid (p0 = _) := LP
  clear HP LP
  have y0 : w1.cell? ⟨w.heap.size, 0, none⟩ = some (.int .u64 yh) := by rw [b1.cell (by simp)]; simp [go_sem]
  have y1 : w1.cell? ⟨w.heap.size, 1, none⟩ = some (.int .u64 ym) := by rw [b1.cell (by simp)]; simp [go_sem]
  have y2 : w1.cell? ⟨w.heap.size, 2, none⟩ = some (.int .u64 yl) := by rw [b1.cell (by simp)]; simp [go_sem]
  have z1 : w.heap.size < w1.heap.size := by have := b1.size; simp at this; omega
  have B1 : Below w.heap.size w w1 := ((Below.refl _ _).alloc (Nat.le_refl _) _).trans (b1.mono (by simp))
  clear b1
  go_wp2_with fail
  refine (mulWide bh bl yh ym yl _ hbh hbl hyh hym hyl).mono ?_
  rintro e w2 ⟨q0, q1, q2, q3, q4, rfl, hq0, hq1, hq2, hq3, hq4, HQ, b2⟩
  have LQ := low_word hq0 HQ
  rw [prod_eq] at HQ
  have HQ' : Hid (pv q0 q1 q2 q3 q4 5 = _) := HQ
  have LQ' : Hid (q0 = _) := LQ
  clear HQ LQ
  have yy0 : w2.cell? ⟨w.heap.size, 0, none⟩ = some (.int .u64 yh) := by rw [b2.cell (by simp; omega)]; simp [go_sem, *]
  have yy1 : w2.cell? ⟨w.heap.size, 1, none⟩ = some (.int .u64 ym) := by rw [b2.cell (by simp; omega)]; simp [go_sem, *]
  have yy2 : w2.cell? ⟨w.heap.size, 2, none⟩ = some (.int .u64 yl) := by rw [b2.cell (by simp; omega)]; simp [go_sem, *]
  have cp0 : w2.cell? ⟨w1.heap.size, 0, none⟩ = some (.int .u64 p0) := by rw [b2.cell (by simp)]; simp [go_sem, *]
  have cp1 : w2.cell? ⟨w1.heap.size, 1, none⟩ = some (.int .u64 p1) := by rw [b2.cell (by simp)]; simp [go_sem, *]
  have cp2 : w2.cell? ⟨w1.heap.size, 2, none⟩ = some (.int .u64 p2) := by rw [b2.cell (by simp)]; simp [go_sem, *]
  have cp3 : w2.cell? ⟨w1.heap.size, 3, none⟩ = some (.int .u64 p3) := by rw [b2.cell (by simp)]; simp [go_sem, *]
  have cp4 : w2.cell? ⟨w1.heap.size, 4, none⟩ = some (.int .u64 p4) := by rw [b2.cell (by simp)]; simp [go_sem, *]
  have z2 : w1.heap.size < w2.heap.size := by have := b2.size; simp at this; omega
  have z02 : w.heap.size < w2.heap.size := by omega
  have B2 : Below w.heap.size w w2 := (B1.alloc (by omega) _).trans (b2.mono (by simp; omega))
  clear b2 B1 y0 y1 y2
  go_wp2_with fail
  refine (mulWide _ _ yh ym yl _ (word_wrap _) (word_wrap _) hyh hym hyl).mono ?_
  rintro e w3 ⟨r0, r1, r2, r3, r4, rfl, hr0, hr1, hr2, hr3, hr4, HR, b3⟩
  rw [prod_eq] at HR
  have HR' : Hid (pv r0 r1 r2 r3 r4 5 = _) := HR
  clear HR
  have dp0 : w3.cell? ⟨w1.heap.size, 0, none⟩ = some (.int .u64 p0) := by rw [b3.cell (by simp; omega)]; simp [go_sem, *]
  have dp1 : w3.cell? ⟨w1.heap.size, 1, none⟩ = some (.int .u64 p1) := by rw [b3.cell (by simp; omega)]; simp [go_sem, *]
  have dp2 : w3.cell? ⟨w1.heap.size, 2, none⟩ = some (.int .u64 p2) := by rw [b3.cell (by simp; omega)]; simp [go_sem, *]
  have dp3 : w3.cell? ⟨w1.heap.size, 3, none⟩ = some (.int .u64 p3) := by rw [b3.cell (by simp; omega)]; simp [go_sem, *]
  have dp4 : w3.cell? ⟨w1.heap.size, 4, none⟩ = some (.int .u64 p4) := by rw [b3.cell (by simp; omega)]; simp [go_sem, *]
  have dq0 : w3.cell? ⟨w2.heap.size, 0, none⟩ = some (.int .u64 q0) := by rw [b3.cell (by simp)]; simp [go_sem, *]
  have dq1 : w3.cell? ⟨w2.heap.size, 1, none⟩ = some (.int .u64 q1) := by rw [b3.cell (by simp)]; simp [go_sem, *]
  have dq2 : w3.cell? ⟨w2.heap.size, 2, none⟩ = some (.int .u64 q2) := by rw [b3.cell (by simp)]; simp [go_sem, *]
  have dq3 : w3.cell? ⟨w2.heap.size, 3, none⟩ = some (.int .u64 q3) := by rw [b3.cell (by simp)]; simp [go_sem, *]
  have dq4 : w3.cell? ⟨w2.heap.size, 4, none⟩ = some (.int .u64 q4) := by rw [b3.cell (by simp)]; simp [go_sem, *]
  have z3 : w2.heap.size < w3.heap.size := by have := b3.size; simp at this; omega
  have z13 : w1.heap.size < w3.heap.size := by omega
  have B3 : Below w.heap.size w w3 := (B2.alloc (by omega) _).trans (b3.mono (by simp; omega))
  clear b3 B2 cp0 cp1 cp2 cp3 cp4 yy0 yy1 yy2
  go_wp2_with fail
  refine (add320 p0 p1 p2 p3 p4 q0 q1 q2 q3 q4 _ hp0 hp1 hp2 hp3 hp4 hq0 hq1 hq2 hq3 hq4).mono ?_
  rintro e w4 ⟨l0, l1, l2, l3, l4, c, rfl, hl0, hl1, hl2, hl3, hl4, cc0, cc1, HL, b4⟩
  have HL' : Hid (pv l0 l1 l2 l3 l4 5 + c * bw 5 = _) := HL
  clear HL cc0 cc1
  have ep0 : w4.cell? ⟨w1.heap.size, 0, none⟩ = some (.int .u64 p0) := by rw [b4.cell (by simp; omega)]; simp [go_sem, *]
  have eq0 : w4.cell? ⟨w2.heap.size, 0, none⟩ = some (.int .u64 q0) := by rw [b4.cell (by simp; omega)]; simp [go_sem, *]
  have er0 : w4.cell? ⟨w3.heap.size, 0, none⟩ = some (.int .u64 r0) := by rw [b4.cell (by simp)]; simp [go_sem, *]
  have er1 : w4.cell? ⟨w3.heap.size, 1, none⟩ = some (.int .u64 r1) := by rw [b4.cell (by simp)]; simp [go_sem, *]
  have er2 : w4.cell? ⟨w3.heap.size, 2, none⟩ = some (.int .u64 r2) := by rw [b4.cell (by simp)]; simp [go_sem, *]
  have er3 : w4.cell? ⟨w3.heap.size, 3, none⟩ = some (.int .u64 r3) := by rw [b4.cell (by simp)]; simp [go_sem, *]
  have er4 : w4.cell? ⟨w3.heap.size, 4, none⟩ = some (.int .u64 r4) := by rw [b4.cell (by simp)]; simp [go_sem, *]
  have z4 : w3.heap.size < w4.heap.size := by have := b4.size; simp at this; omega
  have z14 : w1.heap.size < w4.heap.size := by omega
  have z24 : w2.heap.size < w4.heap.size := by omega
  have B4 : Below w.heap.size w w4 := (B3.alloc (by omega) _).trans (b4.mono (by simp; omega))
  clear b4 B3 dp0 dp1 dp2 dp3 dp4 dq0 dq1 dq2 dq3 dq4
  obtain ⟨rfl, rfl, rfl, rfl, rfl⟩ := pv_inj hl0 hl1 hl2 hl3 hl4 hr0 hr1 hr2 hr3 hr4 c 0 (same_plain HP'.out HQ'.out HR'.out HS.out HL'.out)
  have g0 : (p0 == IntKind.u64.wrap (al * yl)) = true := by rw [← LP'.out]; simp
  have g1 : (q0 == IntKind.u64.wrap (bl * yl)) = true := by rw [← LQ'.out]; simp
  go_wp2
  go_ret
  refine ⟨rfl, ?_⟩
  exact (B4.alloc (by omega) _).alloc (by simp; omega) _
set_option maxHeartbeats 4000000 in
theorem dist01 (ah al bh bl yh ym yl : Int) (w : World) (hah : Word ah) (hal : Word al) (hbh : Word bh) (hbl : Word bl) (hyh : Word yh) (hym : Word ym) (hyl : Word yl)
    (h0 : al ≤ IntKind.u64.wrap (al + bl)) (h1 : IntKind.u64.wrap (ah + bh) < ah)  :
    Calls Try.prog 4 #[.int .u64 ah, .int .u64 al, .int .u64 bh, .int .u64 bl, .int .u64 yh, .int .u64 ym, .int .u64 yl] w fun e w' => e = .returned (.bool true) ∧ Below w.heap.size w w' := by
  have HS : Hid ((al + 18446744073709551616 * ah) + (bl + 18446744073709551616 * bh) = (IntKind.u64.wrap (al + bl) + 18446744073709551616 * IntKind.u64.wrap (ah + bh)) + 1 * 340282366920938463463374607431768211456) := by
    show _ = _
    unfold Word at *
    simp only [IntKind.wrap_u64] at *
    omega
  have e5 := eq5
  have ww := wrap_wrap (ah + bh)
  go_enter Try.func4, Try.ntmps4
  go_wp2_with fail
  refine (mulWide ah al yh ym yl _ hah hal hyh hym hyl).mono ?_
  rintro e w1 ⟨p0, p1, p2, p3, p4, rfl, hp0, hp1, hp2, hp3, hp4, HP, b1⟩
  have LP := low_word hp0 HP
  rw [prod_eq] at HP
  have HP' : Hid (pv p0 p1 p2 p3 p4 5 = _) := HP
  have LP' : Hid (p0 = _) := LP
  clear HP LP
  have y0 : w1.cell? ⟨w.heap.size, 0, none⟩ = some (.int .u64 yh) := by rw [b1.cell (by simp)]; simp [go_sem]
  have y1 : w1.cell? ⟨w.heap.size, 1, none⟩ = some (.int .u64 ym) := by rw [b1.cell (by simp)]; simp [go_sem]
  have y2 : w1.cell? ⟨w.heap.size, 2, none⟩ = some (.int .u64 yl) := by rw [b1.cell (by simp)]; simp [go_sem]
  have z1 : w.heap.size < w1.heap.size := by have := b1.size; simp at this; omega
  have B1 : Below w.heap.size w w1 := ((Below.refl _ _).alloc (Nat.le_refl _) _).trans (b1.mono (by simp))
  clear b1
  go_wp2_with fail
  refine (mulWide bh bl yh ym yl _ hbh hbl hyh hym hyl).mono ?_
  rintro e w2 ⟨q0, q1, q2, q3, q4, rfl, hq0, hq1, hq2, hq3, hq4, HQ, b2⟩
  have LQ := low_word hq0 HQ
  rw [prod_eq] at HQ
  have HQ' : Hid (pv q0 q1 q2 q3 q4 5 = _) := HQ
  have LQ' : Hid (q0 = _) := LQ
  clear HQ LQ
  have yy0 : w2.cell? ⟨w.heap.size, 0, none⟩ = some (.int .u64 yh) := by rw [b2.cell (by simp; omega)]; simp [go_sem, *]
  have yy1 : w2.cell? ⟨w.heap.size, 1, none⟩ = some (.int .u64 ym) := by rw [b2.cell (by simp; omega)]; simp [go_sem, *]
  have yy2 : w2.cell? ⟨w.heap.size, 2, none⟩ = some (.int .u64 yl) := by rw [b2.cell (by simp; omega)]; simp [go_sem, *]
  have cp0 : w2.cell? ⟨w1.heap.size, 0, none⟩ = some (.int .u64 p0) := by rw [b2.cell (by simp)]; simp [go_sem, *]
  have cp1 : w2.cell? ⟨w1.heap.size, 1, none⟩ = some (.int .u64 p1) := by rw [b2.cell (by simp)]; simp [go_sem, *]
  have cp2 : w2.cell? ⟨w1.heap.size, 2, none⟩ = some (.int .u64 p2) := by rw [b2.cell (by simp)]; simp [go_sem, *]
  have cp3 : w2.cell? ⟨w1.heap.size, 3, none⟩ = some (.int .u64 p3) := by rw [b2.cell (by simp)]; simp [go_sem, *]
  have cp4 : w2.cell? ⟨w1.heap.size, 4, none⟩ = some (.int .u64 p4) := by rw [b2.cell (by simp)]; simp [go_sem, *]
  have z2 : w1.heap.size < w2.heap.size := by have := b2.size; simp at this; omega
  have z02 : w.heap.size < w2.heap.size := by omega
  have B2 : Below w.heap.size w w2 := (B1.alloc (by omega) _).trans (b2.mono (by simp; omega))
  clear b2 B1 y0 y1 y2
  go_wp2_with fail
  refine (mulWide _ _ yh ym yl _ (word_wrap _) (word_wrap _) hyh hym hyl).mono ?_
  rintro e w3 ⟨r0, r1, r2, r3, r4, rfl, hr0, hr1, hr2, hr3, hr4, HR, b3⟩
  rw [prod_eq] at HR
  have HR' : Hid (pv r0 r1 r2 r3 r4 5 = _) := HR
  clear HR
  have dp0 : w3.cell? ⟨w1.heap.size, 0, none⟩ = some (.int .u64 p0) := by rw [b3.cell (by simp; omega)]; simp [go_sem, *]
  have dp1 : w3.cell? ⟨w1.heap.size, 1, none⟩ = some (.int .u64 p1) := by rw [b3.cell (by simp; omega)]; simp [go_sem, *]
  have dp2 : w3.cell? ⟨w1.heap.size, 2, none⟩ = some (.int .u64 p2) := by rw [b3.cell (by simp; omega)]; simp [go_sem, *]
  have dp3 : w3.cell? ⟨w1.heap.size, 3, none⟩ = some (.int .u64 p3) := by rw [b3.cell (by simp; omega)]; simp [go_sem, *]
  have dp4 : w3.cell? ⟨w1.heap.size, 4, none⟩ = some (.int .u64 p4) := by rw [b3.cell (by simp; omega)]; simp [go_sem, *]
  have dq0 : w3.cell? ⟨w2.heap.size, 0, none⟩ = some (.int .u64 q0) := by rw [b3.cell (by simp)]; simp [go_sem, *]
  have dq1 : w3.cell? ⟨w2.heap.size, 1, none⟩ = some (.int .u64 q1) := by rw [b3.cell (by simp)]; simp [go_sem, *]
  have dq2 : w3.cell? ⟨w2.heap.size, 2, none⟩ = some (.int .u64 q2) := by rw [b3.cell (by simp)]; simp [go_sem, *]
  have dq3 : w3.cell? ⟨w2.heap.size, 3, none⟩ = some (.int .u64 q3) := by rw [b3.cell (by simp)]; simp [go_sem, *]
  have dq4 : w3.cell? ⟨w2.heap.size, 4, none⟩ = some (.int .u64 q4) := by rw [b3.cell (by simp)]; simp [go_sem, *]
  have z3 : w2.heap.size < w3.heap.size := by have := b3.size; simp at this; omega
  have z13 : w1.heap.size < w3.heap.size := by omega
  have B3 : Below w.heap.size w w3 := (B2.alloc (by omega) _).trans (b3.mono (by simp; omega))
  clear b3 B2 cp0 cp1 cp2 cp3 cp4 yy0 yy1 yy2
  go_wp2_with fail
  refine (add320 p0 p1 p2 p3 p4 q0 q1 q2 q3 q4 _ hp0 hp1 hp2 hp3 hp4 hq0 hq1 hq2 hq3 hq4).mono ?_
  rintro e w4 ⟨l0, l1, l2, l3, l4, c, rfl, hl0, hl1, hl2, hl3, hl4, cc0, cc1, HL, b4⟩
  have HL' : Hid (pv l0 l1 l2 l3 l4 5 + c * bw 5 = _) := HL
  clear HL cc0 cc1
  have ep0 : w4.cell? ⟨w1.heap.size, 0, none⟩ = some (.int .u64 p0) := by rw [b4.cell (by simp; omega)]; simp [go_sem, *]
  have eq0 : w4.cell? ⟨w2.heap.size, 0, none⟩ = some (.int .u64 q0) := by rw [b4.cell (by simp; omega)]; simp [go_sem, *]
  have er0 : w4.cell? ⟨w3.heap.size, 0, none⟩ = some (.int .u64 r0) := by rw [b4.cell (by simp)]; simp [go_sem, *]
  have er1 : w4.cell? ⟨w3.heap.size, 1, none⟩ = some (.int .u64 r1) := by rw [b4.cell (by simp)]; simp [go_sem, *]
  have er2 : w4.cell? ⟨w3.heap.size, 2, none⟩ = some (.int .u64 r2) := by rw [b4.cell (by simp)]; simp [go_sem, *]
  have er3 : w4.cell? ⟨w3.heap.size, 3, none⟩ = some (.int .u64 r3) := by rw [b4.cell (by simp)]; simp [go_sem, *]
  have er4 : w4.cell? ⟨w3.heap.size, 4, none⟩ = some (.int .u64 r4) := by rw [b4.cell (by simp)]; simp [go_sem, *]
  have z4 : w3.heap.size < w4.heap.size := by have := b4.size; simp at this; omega
  have z14 : w1.heap.size < w4.heap.size := by omega
  have z24 : w2.heap.size < w4.heap.size := by omega
  have B4 : Below w.heap.size w w4 := (B3.alloc (by omega) _).trans (b4.mono (by simp; omega))
  clear b4 B3 dp0 dp1 dp2 dp3 dp4 dq0 dq1 dq2 dq3 dq4
  go_wp2_with fail
  refine (add320 r0 r1 r2 r3 r4 0 0 yl ym yh _ hr0 hr1 hr2 hr3 hr4 word_zero word_zero hyl hym hyh).mono ?_
  rintro e w5 ⟨s0, s1, s2, s3, s4, d, rfl, hs0, hs1, hs2, hs3, hs4, cc0, cc1, HT, b5⟩
  obtain ⟨rfl, rfl, rfl, rfl, rfl⟩ := pv_inj hl0 hl1 hl2 hl3 hl4 hs0 hs1 hs2 hs3 hs4 c d (same_carry HP'.out HQ'.out HR'.out rfl HS.out HL'.out HT)
  clear HT cc0 cc1
  have fp0 : w5.cell? ⟨w1.heap.size, 0, none⟩ = some (.int .u64 p0) := by rw [b5.cell (by simp; omega)]; simp [go_sem, *]
  have fq0 : w5.cell? ⟨w2.heap.size, 0, none⟩ = some (.int .u64 q0) := by rw [b5.cell (by simp; omega)]; simp [go_sem, *]
  have fl0 : w5.cell? ⟨w4.heap.size, 0, none⟩ = some (.int .u64 l0) := by rw [b5.cell (by simp; omega)]; simp [go_sem, *]
  have fl1 : w5.cell? ⟨w4.heap.size, 1, none⟩ = some (.int .u64 l1) := by rw [b5.cell (by simp; omega)]; simp [go_sem, *]
  have fl2 : w5.cell? ⟨w4.heap.size, 2, none⟩ = some (.int .u64 l2) := by rw [b5.cell (by simp; omega)]; simp [go_sem, *]
  have fl3 : w5.cell? ⟨w4.heap.size, 3, none⟩ = some (.int .u64 l3) := by rw [b5.cell (by simp; omega)]; simp [go_sem, *]
  have fl4 : w5.cell? ⟨w4.heap.size, 4, none⟩ = some (.int .u64 l4) := by rw [b5.cell (by simp; omega)]; simp [go_sem, *]
  have fr0 : ∃ v, w5.cell? ⟨w4.heap.size + 1, 0, none⟩ = some (.int .u64 v) := ⟨r0, by rw [b5.cell (by simp)]; simp [go_sem]⟩
  obtain ⟨v0, fr0⟩ := fr0
  have fr1 : ∃ v, w5.cell? ⟨w4.heap.size + 1, 1, none⟩ = some (.int .u64 v) := ⟨r1, by rw [b5.cell (by simp)]; simp [go_sem]⟩
  obtain ⟨v1, fr1⟩ := fr1
  have fr2 : ∃ v, w5.cell? ⟨w4.heap.size + 1, 2, none⟩ = some (.int .u64 v) := ⟨r2, by rw [b5.cell (by simp)]; simp [go_sem]⟩
  obtain ⟨v2, fr2⟩ := fr2
  have fr3 : ∃ v, w5.cell? ⟨w4.heap.size + 1, 3, none⟩ = some (.int .u64 v) := ⟨r3, by rw [b5.cell (by simp)]; simp [go_sem]⟩
  obtain ⟨v3, fr3⟩ := fr3
  have fr4 : ∃ v, w5.cell? ⟨w4.heap.size + 1, 4, none⟩ = some (.int .u64 v) := ⟨r4, by rw [b5.cell (by simp)]; simp [go_sem]⟩
  obtain ⟨v4, fr4⟩ := fr4
  have ff0 : w5.frozen? ⟨w4.heap.size + 1, 0, none⟩ = false := by rw [b5.frozen (by simp)]; simp [go_sem]
  have ff1 : w5.frozen? ⟨w4.heap.size + 1, 1, none⟩ = false := by rw [b5.frozen (by simp)]; simp [go_sem]
  have ff2 : w5.frozen? ⟨w4.heap.size + 1, 2, none⟩ = false := by rw [b5.frozen (by simp)]; simp [go_sem]
  have ff3 : w5.frozen? ⟨w4.heap.size + 1, 3, none⟩ = false := by rw [b5.frozen (by simp)]; simp [go_sem]
  have ff4 : w5.frozen? ⟨w4.heap.size + 1, 4, none⟩ = false := by rw [b5.frozen (by simp)]; simp [go_sem]
  have z5 : w4.heap.size + 1 < w5.heap.size := by have := b5.size; simp at this; omega
  have z15 : w1.heap.size < w5.heap.size := by omega
  have z25 : w2.heap.size < w5.heap.size := by omega
  have z45 : w4.heap.size < w5.heap.size := by omega
  have B5 : Below w.heap.size w w5 := ((B4.alloc (by omega) _).alloc (by simp; omega) _).trans (b5.mono (by simp; omega))
  clear b5 B4
  have g0 : (p0 == IntKind.u64.wrap (al * yl)) = true := by rw [← LP'.out]; simp
  have g1 : (q0 == IntKind.u64.wrap (bl * yl)) = true := by rw [← LQ'.out]; simp
  go_wp2
  go_ret
  refine ⟨rfl, ?_⟩
  have hB : w.heap.size ≤ w4.heap.size + 1 := by omega
  exact ((((B5.setCell hB _).setCell hB _).setCell hB _).setCell hB _).setCell hB _
set_option maxHeartbeats 4000000 in
theorem dist100 (ah al bh bl yh ym yl : Int) (w : World) (hah : Word ah) (hal : Word al) (hbh : Word bh) (hbl : Word bl) (hyh : Word yh) (hym : Word ym) (hyl : Word yl)
    (h0 : IntKind.u64.wrap (al + bl) < al) (h1 : ah ≤ IntKind.u64.wrap (ah + bh)) (h2 : IntKind.u64.wrap (ah + bh) ≤ IntKind.u64.wrap (IntKind.u64.wrap (ah + bh) + 1)) :
    Calls Try.prog 4 #[.int .u64 ah, .int .u64 al, .int .u64 bh, .int .u64 bl, .int .u64 yh, .int .u64 ym, .int .u64 yl] w fun e w' => e = .returned (.bool true) ∧ Below w.heap.size w w' := by
  have HS : Hid ((al + 18446744073709551616 * ah) + (bl + 18446744073709551616 * bh) = (IntKind.u64.wrap (al + bl) + 18446744073709551616 * IntKind.u64.wrap (IntKind.u64.wrap (ah + bh) + 1))) := by
    show _ = _
    unfold Word at *
    simp only [IntKind.wrap_u64] at *
    omega
  have e5 := eq5
  go_enter Try.func4, Try.ntmps4
  go_wp2_with fail
  refine (mulWide ah al yh ym yl _ hah hal hyh hym hyl).mono ?_
  rintro e w1 ⟨p0, p1, p2, p3, p4, rfl, hp0, hp1, hp2, hp3, hp4, HP, b1⟩
  have LP := low_word hp0 HP
  rw [prod_eq] at HP
  have HP' : Hid (pv p0 p1 p2 p3 p4 5 = _) := HP
  have LP' : Hid (p0 = _) := LP
  clear HP LP
  have y0 : w1.cell? ⟨w.heap.size, 0, none⟩ = some (.int .u64 yh) := by rw [b1.cell (by simp)]; simp [go_sem]
  have y1 : w1.cell? ⟨w.heap.size, 1, none⟩ = some (.int .u64 ym) := by rw [b1.cell (by simp)]; simp [go_sem]
  have y2 : w1.cell? ⟨w.heap.size, 2, none⟩ = some (.int .u64 yl) := by rw [b1.cell (by simp)]; simp [go_sem]
  have z1 : w.heap.size < w1.heap.size := by have := b1.size; simp at this; omega
  have B1 : Below w.heap.size w w1 := ((Below.refl _ _).alloc (Nat.le_refl _) _).trans (b1.mono (by simp))
  clear b1
  go_wp2_with fail
  refine (mulWide bh bl yh ym yl _ hbh hbl hyh hym hyl).mono ?_
  rintro e w2 ⟨q0, q1, q2, q3, q4, rfl, hq0, hq1, hq2, hq3, hq4, HQ, b2⟩
  have LQ := low_word hq0 HQ
  rw [prod_eq] at HQ
  have HQ' : Hid (pv q0 q1 q2 q3 q4 5 = _) := HQ
  have LQ' : Hid (q0 = _) := LQ
  clear HQ LQ
  have yy0 : w2.cell? ⟨w.heap.size, 0, none⟩ = some (.int .u64 yh) := by rw [b2.cell (by simp; omega)]; simp [go_sem, *]
  have yy1 : w2.cell? ⟨w.heap.size, 1, none⟩ = some (.int .u64 ym) := by rw [b2.cell (by simp; omega)]; simp [go_sem, *]
  have yy2 : w2.cell? ⟨w.heap.size, 2, none⟩ = some (.int .u64 yl) := by rw [b2.cell (by simp; omega)]; simp [go_sem, *]
  have cp0 : w2.cell? ⟨w1.heap.size, 0, none⟩ = some (.int .u64 p0) := by rw [b2.cell (by simp)]; simp [go_sem, *]
  have cp1 : w2.cell? ⟨w1.heap.size, 1, none⟩ = some (.int .u64 p1) := by rw [b2.cell (by simp)]; simp [go_sem, *]
  have cp2 : w2.cell? ⟨w1.heap.size, 2, none⟩ = some (.int .u64 p2) := by rw [b2.cell (by simp)]; simp [go_sem, *]
  have cp3 : w2.cell? ⟨w1.heap.size, 3, none⟩ = some (.int .u64 p3) := by rw [b2.cell (by simp)]; simp [go_sem, *]
  have cp4 : w2.cell? ⟨w1.heap.size, 4, none⟩ = some (.int .u64 p4) := by rw [b2.cell (by simp)]; simp [go_sem, *]
  have z2 : w1.heap.size < w2.heap.size := by have := b2.size; simp at this; omega
  have z02 : w.heap.size < w2.heap.size := by omega
  have B2 : Below w.heap.size w w2 := (B1.alloc (by omega) _).trans (b2.mono (by simp; omega))
  clear b2 B1 y0 y1 y2
  go_wp2_with fail
  refine (mulWide _ _ yh ym yl _ (word_wrap _) (word_wrap _) hyh hym hyl).mono ?_
  rintro e w3 ⟨r0, r1, r2, r3, r4, rfl, hr0, hr1, hr2, hr3, hr4, HR, b3⟩
  rw [prod_eq] at HR
  have HR' : Hid (pv r0 r1 r2 r3 r4 5 = _) := HR
  clear HR
  have dp0 : w3.cell? ⟨w1.heap.size, 0, none⟩ = some (.int .u64 p0) := by rw [b3.cell (by simp; omega)]; simp [go_sem, *]
  have dp1 : w3.cell? ⟨w1.heap.size, 1, none⟩ = some (.int .u64 p1) := by rw [b3.cell (by simp; omega)]; simp [go_sem, *]
  have dp2 : w3.cell? ⟨w1.heap.size, 2, none⟩ = some (.int .u64 p2) := by rw [b3.cell (by simp; omega)]; simp [go_sem, *]
  have dp3 : w3.cell? ⟨w1.heap.size, 3, none⟩ = some (.int .u64 p3) := by rw [b3.cell (by simp; omega)]; simp [go_sem, *]
  have dp4 : w3.cell? ⟨w1.heap.size, 4, none⟩ = some (.int .u64 p4) := by rw [b3.cell (by simp; omega)]; simp [go_sem, *]
  have dq0 : w3.cell? ⟨w2.heap.size, 0, none⟩ = some (.int .u64 q0) := by rw [b3.cell (by simp)]; simp [go_sem, *]
  have dq1 : w3.cell? ⟨w2.heap.size, 1, none⟩ = some (.int .u64 q1) := by rw [b3.cell (by simp)]; simp [go_sem, *]
  have dq2 : w3.cell? ⟨w2.heap.size, 2, none⟩ = some (.int .u64 q2) := by rw [b3.cell (by simp)]; simp [go_sem, *]
  have dq3 : w3.cell? ⟨w2.heap.size, 3, none⟩ = some (.int .u64 q3) := by rw [b3.cell (by simp)]; simp [go_sem, *]
  have dq4 : w3.cell? ⟨w2.heap.size, 4, none⟩ = some (.int .u64 q4) := by rw [b3.cell (by simp)]; simp [go_sem, *]
  have z3 : w2.heap.size < w3.heap.size := by have := b3.size; simp at this; omega
  have z13 : w1.heap.size < w3.heap.size := by omega
  have B3 : Below w.heap.size w w3 := (B2.alloc (by omega) _).trans (b3.mono (by simp; omega))
  clear b3 B2 cp0 cp1 cp2 cp3 cp4 yy0 yy1 yy2
  go_wp2_with fail
  refine (add320 p0 p1 p2 p3 p4 q0 q1 q2 q3 q4 _ hp0 hp1 hp2 hp3 hp4 hq0 hq1 hq2 hq3 hq4).mono ?_
  rintro e w4 ⟨l0, l1, l2, l3, l4, c, rfl, hl0, hl1, hl2, hl3, hl4, cc0, cc1, HL, b4⟩
  have HL' : Hid (pv l0 l1 l2 l3 l4 5 + c * bw 5 = _) := HL
  clear HL cc0 cc1
  have ep0 : w4.cell? ⟨w1.heap.size, 0, none⟩ = some (.int .u64 p0) := by rw [b4.cell (by simp; omega)]; simp [go_sem, *]
  have eq0 : w4.cell? ⟨w2.heap.size, 0, none⟩ = some (.int .u64 q0) := by rw [b4.cell (by simp; omega)]; simp [go_sem, *]
  have er0 : w4.cell? ⟨w3.heap.size, 0, none⟩ = some (.int .u64 r0) := by rw [b4.cell (by simp)]; simp [go_sem, *]
  have er1 : w4.cell? ⟨w3.heap.size, 1, none⟩ = some (.int .u64 r1) := by rw [b4.cell (by simp)]; simp [go_sem, *]
  have er2 : w4.cell? ⟨w3.heap.size, 2, none⟩ = some (.int .u64 r2) := by rw [b4.cell (by simp)]; simp [go_sem, *]
  have er3 : w4.cell? ⟨w3.heap.size, 3, none⟩ = some (.int .u64 r3) := by rw [b4.cell (by simp)]; simp [go_sem, *]
  have er4 : w4.cell? ⟨w3.heap.size, 4, none⟩ = some (.int .u64 r4) := by rw [b4.cell (by simp)]; simp [go_sem, *]
  have z4 : w3.heap.size < w4.heap.size := by have := b4.size; simp at this; omega
  have z14 : w1.heap.size < w4.heap.size := by omega
  have z24 : w2.heap.size < w4.heap.size := by omega
  have B4 : Below w.heap.size w w4 := (B3.alloc (by omega) _).trans (b4.mono (by simp; omega))
  clear b4 B3 dp0 dp1 dp2 dp3 dp4 dq0 dq1 dq2 dq3 dq4
  obtain ⟨rfl, rfl, rfl, rfl, rfl⟩ := pv_inj hl0 hl1 hl2 hl3 hl4 hr0 hr1 hr2 hr3 hr4 c 0 (same_plain HP'.out HQ'.out HR'.out HS.out HL'.out)
  have g0 : (p0 == IntKind.u64.wrap (al * yl)) = true := by rw [← LP'.out]; simp
  have g1 : (q0 == IntKind.u64.wrap (bl * yl)) = true := by rw [← LQ'.out]; simp
  go_wp2
  go_ret
  refine ⟨rfl, ?_⟩
  exact (B4.alloc (by omega) _).alloc (by simp; omega) _
set_option maxHeartbeats 4000000 in
theorem dist110 (ah al bh bl yh ym yl : Int) (w : World) (hah : Word ah) (hal : Word al) (hbh : Word bh) (hbl : Word bl) (hyh : Word yh) (hym : Word ym) (hyl : Word yl)
    (h0 : IntKind.u64.wrap (al + bl) < al) (h1 : IntKind.u64.wrap (ah + bh) < ah) (h2 : IntKind.u64.wrap (ah + bh) ≤ IntKind.u64.wrap (IntKind.u64.wrap (ah + bh) + 1)) :
    Calls Try.prog 4 #[.int .u64 ah, .int .u64 al, .int .u64 bh, .int .u64 bl, .int .u64 yh, .int .u64 ym, .int .u64 yl] w fun e w' => e = .returned (.bool true) ∧ Below w.heap.size w w' := by
  have HS : Hid ((al + 18446744073709551616 * ah) + (bl + 18446744073709551616 * bh) = (IntKind.u64.wrap (al + bl) + 18446744073709551616 * IntKind.u64.wrap (IntKind.u64.wrap (ah + bh) + 1)) + 1 * 340282366920938463463374607431768211456) := by
    show _ = _
    unfold Word at *
    simp only [IntKind.wrap_u64] at *
    omega
  have e5 := eq5
  go_enter Try.func4, Try.ntmps4
  go_wp2_with fail
  refine (mulWide ah al yh ym yl _ hah hal hyh hym hyl).mono ?_
  rintro e w1 ⟨p0, p1, p2, p3, p4, rfl, hp0, hp1, hp2, hp3, hp4, HP, b1⟩
  have LP := low_word hp0 HP
  rw [prod_eq] at HP
  have HP' : Hid (pv p0 p1 p2 p3 p4 5 = _) := HP
  have LP' : Hid (p0 = _) := LP
  clear HP LP
  have y0 : w1.cell? ⟨w.heap.size, 0, none⟩ = some (.int .u64 yh) := by rw [b1.cell (by simp)]; simp [go_sem]
  have y1 : w1.cell? ⟨w.heap.size, 1, none⟩ = some (.int .u64 ym) := by rw [b1.cell (by simp)]; simp [go_sem]
  have y2 : w1.cell? ⟨w.heap.size, 2, none⟩ = some (.int .u64 yl) := by rw [b1.cell (by simp)]; simp [go_sem]
  have z1 : w.heap.size < w1.heap.size := by have := b1.size; simp at this; omega
  have B1 : Below w.heap.size w w1 := ((Below.refl _ _).alloc (Nat.le_refl _) _).trans (b1.mono (by simp))
  clear b1
  go_wp2_with fail
  refine (mulWide bh bl yh ym yl _ hbh hbl hyh hym hyl).mono ?_
  rintro e w2 ⟨q0, q1, q2, q3, q4, rfl, hq0, hq1, hq2, hq3, hq4, HQ, b2⟩
  have LQ := low_word hq0 HQ
  rw [prod_eq] at HQ
  have HQ' : Hid (pv q0 q1 q2 q3 q4 5 = _) := HQ
  have LQ' : Hid (q0 = _) := LQ
  clear HQ LQ
  have yy0 : w2.cell? ⟨w.heap.size, 0, none⟩ = some (.int .u64 yh) := by rw [b2.cell (by simp; omega)]; simp [go_sem, *]
  have yy1 : w2.cell? ⟨w.heap.size, 1, none⟩ = some (.int .u64 ym) := by rw [b2.cell (by simp; omega)]; simp [go_sem, *]
  have yy2 : w2.cell? ⟨w.heap.size, 2, none⟩ = some (.int .u64 yl) := by rw [b2.cell (by simp; omega)]; simp [go_sem, *]
  have cp0 : w2.cell? ⟨w1.heap.size, 0, none⟩ = some (.int .u64 p0) := by rw [b2.cell (by simp)]; simp [go_sem, *]
  have cp1 : w2.cell? ⟨w1.heap.size, 1, none⟩ = some (.int .u64 p1) := by rw [b2.cell (by simp)]; simp [go_sem, *]
  have cp2 : w2.cell? ⟨w1.heap.size, 2, none⟩ = some (.int .u64 p2) := by rw [b2.cell (by simp)]; simp [go_sem, *]
  have cp3 : w2.cell? ⟨w1.heap.size, 3, none⟩ = some (.int .u64 p3) := by rw [b2.cell (by simp)]; simp [go_sem, *]
  have cp4 : w2.cell? ⟨w1.heap.size, 4, none⟩ = some (.int .u64 p4) := by rw [b2.cell (by simp)]; simp [go_sem, *]
  have z2 : w1.heap.size < w2.heap.size := by have := b2.size; simp at this; omega
  have z02 : w.heap.size < w2.heap.size := by omega
  have B2 : Below w.heap.size w w2 := (B1.alloc (by omega) _).trans (b2.mono (by simp; omega))
  clear b2 B1 y0 y1 y2
  go_wp2_with fail
  refine (mulWide _ _ yh ym yl _ (word_wrap _) (word_wrap _) hyh hym hyl).mono ?_
  rintro e w3 ⟨r0, r1, r2, r3, r4, rfl, hr0, hr1, hr2, hr3, hr4, HR, b3⟩
  rw [prod_eq] at HR
  have HR' : Hid (pv r0 r1 r2 r3 r4 5 = _) := HR
  clear HR
  have dp0 : w3.cell? ⟨w1.heap.size, 0, none⟩ = some (.int .u64 p0) := by rw [b3.cell (by simp; omega)]; simp [go_sem, *]
  have dp1 : w3.cell? ⟨w1.heap.size, 1, none⟩ = some (.int .u64 p1) := by rw [b3.cell (by simp; omega)]; simp [go_sem, *]
  have dp2 : w3.cell? ⟨w1.heap.size, 2, none⟩ = some (.int .u64 p2) := by rw [b3.cell (by simp; omega)]; simp [go_sem, *]
  have dp3 : w3.cell? ⟨w1.heap.size, 3, none⟩ = some (.int .u64 p3) := by rw [b3.cell (by simp; omega)]; simp [go_sem, *]
  have dp4 : w3.cell? ⟨w1.heap.size, 4, none⟩ = some (.int .u64 p4) := by rw [b3.cell (by simp; omega)]; simp [go_sem, *]
  have dq0 : w3.cell? ⟨w2.heap.size, 0, none⟩ = some (.int .u64 q0) := by rw [b3.cell (by simp)]; simp [go_sem, *]
  have dq1 : w3.cell? ⟨w2.heap.size, 1, none⟩ = some (.int .u64 q1) := by rw [b3.cell (by simp)]; simp [go_sem, *]
  have dq2 : w3.cell? ⟨w2.heap.size, 2, none⟩ = some (.int .u64 q2) := by rw [b3.cell (by simp)]; simp [go_sem, *]
  have dq3 : w3.cell? ⟨w2.heap.size, 3, none⟩ = some (.int .u64 q3) := by rw [b3.cell (by simp)]; simp [go_sem, *]
  have dq4 : w3.cell? ⟨w2.heap.size, 4, none⟩ = some (.int .u64 q4) := by rw [b3.cell (by simp)]; simp [go_sem, *]
  have z3 : w2.heap.size < w3.heap.size := by have := b3.size; simp at this; omega
  have z13 : w1.heap.size < w3.heap.size := by omega
  have B3 : Below w.heap.size w w3 := (B2.alloc (by omega) _).trans (b3.mono (by simp; omega))
  clear b3 B2 cp0 cp1 cp2 cp3 cp4 yy0 yy1 yy2
  go_wp2_with fail
  refine (add320 p0 p1 p2 p3 p4 q0 q1 q2 q3 q4 _ hp0 hp1 hp2 hp3 hp4 hq0 hq1 hq2 hq3 hq4).mono ?_
  rintro e w4 ⟨l0, l1, l2, l3, l4, c, rfl, hl0, hl1, hl2, hl3, hl4, cc0, cc1, HL, b4⟩
  have HL' : Hid (pv l0 l1 l2 l3 l4 5 + c * bw 5 = _) := HL
  clear HL cc0 cc1
  have ep0 : w4.cell? ⟨w1.heap.size, 0, none⟩ = some (.int .u64 p0) := by rw [b4.cell (by simp; omega)]; simp [go_sem, *]
  have eq0 : w4.cell? ⟨w2.heap.size, 0, none⟩ = some (.int .u64 q0) := by rw [b4.cell (by simp; omega)]; simp [go_sem, *]
  have er0 : w4.cell? ⟨w3.heap.size, 0, none⟩ = some (.int .u64 r0) := by rw [b4.cell (by simp)]; simp [go_sem, *]
  have er1 : w4.cell? ⟨w3.heap.size, 1, none⟩ = some (.int .u64 r1) := by rw [b4.cell (by simp)]; simp [go_sem, *]
  have er2 : w4.cell? ⟨w3.heap.size, 2, none⟩ = some (.int .u64 r2) := by rw [b4.cell (by simp)]; simp [go_sem, *]
  have er3 : w4.cell? ⟨w3.heap.size, 3, none⟩ = some (.int .u64 r3) := by rw [b4.cell (by simp)]; simp [go_sem, *]
  have er4 : w4.cell? ⟨w3.heap.size, 4, none⟩ = some (.int .u64 r4) := by rw [b4.cell (by simp)]; simp [go_sem, *]
  have z4 : w3.heap.size < w4.heap.size := by have := b4.size; simp at this; omega
  have z14 : w1.heap.size < w4.heap.size := by omega
  have z24 : w2.heap.size < w4.heap.size := by omega
  have B4 : Below w.heap.size w w4 := (B3.alloc (by omega) _).trans (b4.mono (by simp; omega))
  clear b4 B3 dp0 dp1 dp2 dp3 dp4 dq0 dq1 dq2 dq3 dq4
  go_wp2_with fail
  refine (add320 r0 r1 r2 r3 r4 0 0 yl ym yh _ hr0 hr1 hr2 hr3 hr4 word_zero word_zero hyl hym hyh).mono ?_
  rintro e w5 ⟨s0, s1, s2, s3, s4, d, rfl, hs0, hs1, hs2, hs3, hs4, cc0, cc1, HT, b5⟩
  obtain ⟨rfl, rfl, rfl, rfl, rfl⟩ := pv_inj hl0 hl1 hl2 hl3 hl4 hs0 hs1 hs2 hs3 hs4 c d (same_carry HP'.out HQ'.out HR'.out rfl HS.out HL'.out HT)
  clear HT cc0 cc1
  have fp0 : w5.cell? ⟨w1.heap.size, 0, none⟩ = some (.int .u64 p0) := by rw [b5.cell (by simp; omega)]; simp [go_sem, *]
  have fq0 : w5.cell? ⟨w2.heap.size, 0, none⟩ = some (.int .u64 q0) := by rw [b5.cell (by simp; omega)]; simp [go_sem, *]
  have fl0 : w5.cell? ⟨w4.heap.size, 0, none⟩ = some (.int .u64 l0) := by rw [b5.cell (by simp; omega)]; simp [go_sem, *]
  have fl1 : w5.cell? ⟨w4.heap.size, 1, none⟩ = some (.int .u64 l1) := by rw [b5.cell (by simp; omega)]; simp [go_sem, *]
  have fl2 : w5.cell? ⟨w4.heap.size, 2, none⟩ = some (.int .u64 l2) := by rw [b5.cell (by simp; omega)]; simp [go_sem, *]
  have fl3 : w5.cell? ⟨w4.heap.size, 3, none⟩ = some (.int .u64 l3) := by rw [b5.cell (by simp; omega)]; simp [go_sem, *]
  have fl4 : w5.cell? ⟨w4.heap.size, 4, none⟩ = some (.int .u64 l4) := by rw [b5.cell (by simp; omega)]; simp [go_sem, *]
  have fr0 : ∃ v, w5.cell? ⟨w4.heap.size + 1, 0, none⟩ = some (.int .u64 v) := ⟨r0, by rw [b5.cell (by simp)]; simp [go_sem]⟩
  obtain ⟨v0, fr0⟩ := fr0
  have fr1 : ∃ v, w5.cell? ⟨w4.heap.size + 1, 1, none⟩ = some (.int .u64 v) := ⟨r1, by rw [b5.cell (by simp)]; simp [go_sem]⟩
  obtain ⟨v1, fr1⟩ := fr1
  have fr2 : ∃ v, w5.cell? ⟨w4.heap.size + 1, 2, none⟩ = some (.int .u64 v) := ⟨r2, by rw [b5.cell (by simp)]; simp [go_sem]⟩
  obtain ⟨v2, fr2⟩ := fr2
  have fr3 : ∃ v, w5.cell? ⟨w4.heap.size + 1, 3, none⟩ = some (.int .u64 v) := ⟨r3, by rw [b5.cell (by simp)]; simp [go_sem]⟩
  obtain ⟨v3, fr3⟩ := fr3
  have fr4 : ∃ v, w5.cell? ⟨w4.heap.size + 1, 4, none⟩ = some (.int .u64 v) := ⟨r4, by rw [b5.cell (by simp)]; simp [go_sem]⟩
  obtain ⟨v4, fr4⟩ := fr4
  have ff0 : w5.frozen? ⟨w4.heap.size + 1, 0, none⟩ = false := by rw [b5.frozen (by simp)]; simp [go_sem]
  have ff1 : w5.frozen? ⟨w4.heap.size + 1, 1, none⟩ = false := by rw [b5.frozen (by simp)]; simp [go_sem]
  have ff2 : w5.frozen? ⟨w4.heap.size + 1, 2, none⟩ = false := by rw [b5.frozen (by simp)]; simp [go_sem]
  have ff3 : w5.frozen? ⟨w4.heap.size + 1, 3, none⟩ = false := by rw [b5.frozen (by simp)]; simp [go_sem]
  have ff4 : w5.frozen? ⟨w4.heap.size + 1, 4, none⟩ = false := by rw [b5.frozen (by simp)]; simp [go_sem]
  have z5 : w4.heap.size + 1 < w5.heap.size := by have := b5.size; simp at this; omega
  have z15 : w1.heap.size < w5.heap.size := by omega
  have z25 : w2.heap.size < w5.heap.size := by omega
  have z45 : w4.heap.size < w5.heap.size := by omega
  have B5 : Below w.heap.size w w5 := ((B4.alloc (by omega) _).alloc (by simp; omega) _).trans (b5.mono (by simp; omega))
  clear b5 B4
  have g0 : (p0 == IntKind.u64.wrap (al * yl)) = true := by rw [← LP'.out]; simp
  have g1 : (q0 == IntKind.u64.wrap (bl * yl)) = true := by rw [← LQ'.out]; simp
  go_wp2
  go_ret
  refine ⟨rfl, ?_⟩
  have hB : w.heap.size ≤ w4.heap.size + 1 := by omega
  exact ((((B5.setCell hB _).setCell hB _).setCell hB _).setCell hB _).setCell hB _
set_option maxHeartbeats 4000000 in
theorem dist101 (ah al bh bl yh ym yl : Int) (w : World) (hah : Word ah) (hal : Word al) (hbh : Word bh) (hbl : Word bl) (hyh : Word yh) (hym : Word ym) (hyl : Word yl)
    (h0 : IntKind.u64.wrap (al + bl) < al) (h1 : ah ≤ IntKind.u64.wrap (ah + bh)) (h2 : IntKind.u64.wrap (IntKind.u64.wrap (ah + bh) + 1) < IntKind.u64.wrap (ah + bh)) :
    Calls Try.prog 4 #[.int .u64 ah, .int .u64 al, .int .u64 bh, .int .u64 bl, .int .u64 yh, .int .u64 ym, .int .u64 yl] w fun e w' => e = .returned (.bool true) ∧ Below w.heap.size w w' := by
  have HS : Hid ((al + 18446744073709551616 * ah) + (bl + 18446744073709551616 * bh) = (IntKind.u64.wrap (al + bl) + 18446744073709551616 * IntKind.u64.wrap (IntKind.u64.wrap (ah + bh) + 1)) + 1 * 340282366920938463463374607431768211456) := by
    show _ = _
    unfold Word at *
    simp only [IntKind.wrap_u64] at *
    omega
  have e5 := eq5
  go_enter Try.func4, Try.ntmps4
  go_wp2_with fail
  refine (mulWide ah al yh ym yl _ hah hal hyh hym hyl).mono ?_
  rintro e w1 ⟨p0, p1, p2, p3, p4, rfl, hp0, hp1, hp2, hp3, hp4, HP, b1⟩
  have LP := low_word hp0 HP
  rw [prod_eq] at HP
  have HP' : Hid (pv p0 p1 p2 p3 p4 5 = _) := HP
  have LP' : Hid (p0 = _) := LP
  clear HP LP
  have y0 : w1.cell? ⟨w.heap.size, 0, none⟩ = some (.int .u64 yh) := by rw [b1.cell (by simp)]; simp [go_sem]
  have y1 : w1.cell? ⟨w.heap.size, 1, none⟩ = some (.int .u64 ym) := by rw [b1.cell (by simp)]; simp [go_sem]
  have y2 : w1.cell? ⟨w.heap.size, 2, none⟩ = some (.int .u64 yl) := by rw [b1.cell (by simp)]; simp [go_sem]
  have z1 : w.heap.size < w1.heap.size := by have := b1.size; simp at this; omega
  have B1 : Below w.heap.size w w1 := ((Below.refl _ _).alloc (Nat.le_refl _) _).trans (b1.mono (by simp))
  clear b1
  go_wp2_with fail
  refine (mulWide bh bl yh ym yl _ hbh hbl hyh hym hyl).mono ?_
  rintro e w2 ⟨q0, q1, q2, q3, q4, rfl, hq0, hq1, hq2, hq3, hq4, HQ, b2⟩
  have LQ := low_word hq0 HQ
  rw [prod_eq] at HQ
  have HQ' : Hid (pv q0 q1 q2 q3 q4 5 = _) := HQ
  have LQ' : Hid (q0 = _) := LQ
  clear HQ LQ
  have yy0 : w2.cell? ⟨w.heap.size, 0, none⟩ = some (.int .u64 yh) := by rw [b2.cell (by simp; omega)]; simp [go_sem, *]
  have yy1 : w2.cell? ⟨w.heap.size, 1, none⟩ = some (.int .u64 ym) := by rw [b2.cell (by simp; omega)]; simp [go_sem, *]
  have yy2 : w2.cell? ⟨w.heap.size, 2, none⟩ = some (.int .u64 yl) := by rw [b2.cell (by simp; omega)]; simp [go_sem, *]
  have cp0 : w2.cell? ⟨w1.heap.size, 0, none⟩ = some (.int .u64 p0) := by rw [b2.cell (by simp)]; simp [go_sem, *]
  have cp1 : w2.cell? ⟨w1.heap.size, 1, none⟩ = some (.int .u64 p1) := by rw [b2.cell (by simp)]; simp [go_sem, *]
  have cp2 : w2.cell? ⟨w1.heap.size, 2, none⟩ = some (.int .u64 p2) := by rw [b2.cell (by simp)]; simp [go_sem, *]
  have cp3 : w2.cell? ⟨w1.heap.size, 3, none⟩ = some (.int .u64 p3) := by rw [b2.cell (by simp)]; simp [go_sem, *]
  have cp4 : w2.cell? ⟨w1.heap.size, 4, none⟩ = some (.int .u64 p4) := by rw [b2.cell (by simp)]; simp [go_sem, *]
  have z2 : w1.heap.size < w2.heap.size := by have := b2.size; simp at this; omega
  have z02 : w.heap.size < w2.heap.size := by omega
  have B2 : Below w.heap.size w w2 := (B1.alloc (by omega) _).trans (b2.mono (by simp; omega))
  clear b2 B1 y0 y1 y2
  go_wp2_with fail
  refine (mulWide _ _ yh ym yl _ (word_wrap _) (word_wrap _) hyh hym hyl).mono ?_
  rintro e w3 ⟨r0, r1, r2, r3, r4, rfl, hr0, hr1, hr2, hr3, hr4, HR, b3⟩
  rw [prod_eq] at HR
  have HR' : Hid (pv r0 r1 r2 r3 r4 5 = _) := HR
  clear HR
  have dp0 : w3.cell? ⟨w1.heap.size, 0, none⟩ = some (.int .u64 p0) := by rw [b3.cell (by simp; omega)]; simp [go_sem, *]
  have dp1 : w3.cell? ⟨w1.heap.size, 1, none⟩ = some (.int .u64 p1) := by rw [b3.cell (by simp; omega)]; simp [go_sem, *]
  have dp2 : w3.cell? ⟨w1.heap.size, 2, none⟩ = some (.int .u64 p2) := by rw [b3.cell (by simp; omega)]; simp [go_sem, *]
  have dp3 : w3.cell? ⟨w1.heap.size, 3, none⟩ = some (.int .u64 p3) := by rw [b3.cell (by simp; omega)]; simp [go_sem, *]
  have dp4 : w3.cell? ⟨w1.heap.size, 4, none⟩ = some (.int .u64 p4) := by rw [b3.cell (by simp; omega)]; simp [go_sem, *]
  have dq0 : w3.cell? ⟨w2.heap.size, 0, none⟩ = some (.int .u64 q0) := by rw [b3.cell (by simp)]; simp [go_sem, *]
  have dq1 : w3.cell? ⟨w2.heap.size, 1, none⟩ = some (.int .u64 q1) := by rw [b3.cell (by simp)]; simp [go_sem, *]
  have dq2 : w3.cell? ⟨w2.heap.size, 2, none⟩ = some (.int .u64 q2) := by rw [b3.cell (by simp)]; simp [go_sem, *]
  have dq3 : w3.cell? ⟨w2.heap.size, 3, none⟩ = some (.int .u64 q3) := by rw [b3.cell (by simp)]; simp [go_sem, *]
  have dq4 : w3.cell? ⟨w2.heap.size, 4, none⟩ = some (.int .u64 q4) := by rw [b3.cell (by simp)]; simp [go_sem, *]
  have z3 : w2.heap.size < w3.heap.size := by have := b3.size; simp at this; omega
  have z13 : w1.heap.size < w3.heap.size := by omega
  have B3 : Below w.heap.size w w3 := (B2.alloc (by omega) _).trans (b3.mono (by simp; omega))
  clear b3 B2 cp0 cp1 cp2 cp3 cp4 yy0 yy1 yy2
  go_wp2_with fail
  refine (add320 p0 p1 p2 p3 p4 q0 q1 q2 q3 q4 _ hp0 hp1 hp2 hp3 hp4 hq0 hq1 hq2 hq3 hq4).mono ?_
  rintro e w4 ⟨l0, l1, l2, l3, l4, c, rfl, hl0, hl1, hl2, hl3, hl4, cc0, cc1, HL, b4⟩
  have HL' : Hid (pv l0 l1 l2 l3 l4 5 + c * bw 5 = _) := HL
  clear HL cc0 cc1
  have ep0 : w4.cell? ⟨w1.heap.size, 0, none⟩ = some (.int .u64 p0) := by rw [b4.cell (by simp; omega)]; simp [go_sem, *]
  have eq0 : w4.cell? ⟨w2.heap.size, 0, none⟩ = some (.int .u64 q0) := by rw [b4.cell (by simp; omega)]; simp [go_sem, *]
  have er0 : w4.cell? ⟨w3.heap.size, 0, none⟩ = some (.int .u64 r0) := by rw [b4.cell (by simp)]; simp [go_sem, *]
  have er1 : w4.cell? ⟨w3.heap.size, 1, none⟩ = some (.int .u64 r1) := by rw [b4.cell (by simp)]; simp [go_sem, *]
  have er2 : w4.cell? ⟨w3.heap.size, 2, none⟩ = some (.int .u64 r2) := by rw [b4.cell (by simp)]; simp [go_sem, *]
  have er3 : w4.cell? ⟨w3.heap.size, 3, none⟩ = some (.int .u64 r3) := by rw [b4.cell (by simp)]; simp [go_sem, *]
  have er4 : w4.cell? ⟨w3.heap.size, 4, none⟩ = some (.int .u64 r4) := by rw [b4.cell (by simp)]; simp [go_sem, *]
  have z4 : w3.heap.size < w4.heap.size := by have := b4.size; simp at this; omega
  have z14 : w1.heap.size < w4.heap.size := by omega
  have z24 : w2.heap.size < w4.heap.size := by omega
  have B4 : Below w.heap.size w w4 := (B3.alloc (by omega) _).trans (b4.mono (by simp; omega))
  clear b4 B3 dp0 dp1 dp2 dp3 dp4 dq0 dq1 dq2 dq3 dq4
  go_wp2_with fail
  refine (add320 r0 r1 r2 r3 r4 0 0 yl ym yh _ hr0 hr1 hr2 hr3 hr4 word_zero word_zero hyl hym hyh).mono ?_
  rintro e w5 ⟨s0, s1, s2, s3, s4, d, rfl, hs0, hs1, hs2, hs3, hs4, cc0, cc1, HT, b5⟩
  obtain ⟨rfl, rfl, rfl, rfl, rfl⟩ := pv_inj hl0 hl1 hl2 hl3 hl4 hs0 hs1 hs2 hs3 hs4 c d (same_carry HP'.out HQ'.out HR'.out rfl HS.out HL'.out HT)
  clear HT cc0 cc1
  have fp0 : w5.cell? ⟨w1.heap.size, 0, none⟩ = some (.int .u64 p0) := by rw [b5.cell (by simp; omega)]; simp [go_sem, *]
  have fq0 : w5.cell? ⟨w2.heap.size, 0, none⟩ = some (.int .u64 q0) := by rw [b5.cell (by simp; omega)]; simp [go_sem, *]
  have fl0 : w5.cell? ⟨w4.heap.size, 0, none⟩ = some (.int .u64 l0) := by rw [b5.cell (by simp; omega)]; simp [go_sem, *]
  have fl1 : w5.cell? ⟨w4.heap.size, 1, none⟩ = some (.int .u64 l1) := by rw [b5.cell (by simp; omega)]; simp [go_sem, *]
  have fl2 : w5.cell? ⟨w4.heap.size, 2, none⟩ = some (.int .u64 l2) := by rw [b5.cell (by simp; omega)]; simp [go_sem, *]
  have fl3 : w5.cell? ⟨w4.heap.size, 3, none⟩ = some (.int .u64 l3) := by rw [b5.cell (by simp; omega)]; simp [go_sem, *]
  have fl4 : w5.cell? ⟨w4.heap.size, 4, none⟩ = some (.int .u64 l4) := by rw [b5.cell (by simp; omega)]; simp [go_sem, *]
  have fr0 : ∃ v, w5.cell? ⟨w4.heap.size + 1, 0, none⟩ = some (.int .u64 v) := ⟨r0, by rw [b5.cell (by simp)]; simp [go_sem]⟩
  obtain ⟨v0, fr0⟩ := fr0
  have fr1 : ∃ v, w5.cell? ⟨w4.heap.size + 1, 1, none⟩ = some (.int .u64 v) := ⟨r1, by rw [b5.cell (by simp)]; simp [go_sem]⟩
  obtain ⟨v1, fr1⟩ := fr1
  have fr2 : ∃ v, w5.cell? ⟨w4.heap.size + 1, 2, none⟩ = some (.int .u64 v) := ⟨r2, by rw [b5.cell (by simp)]; simp [go_sem]⟩
  obtain ⟨v2, fr2⟩ := fr2
  have fr3 : ∃ v, w5.cell? ⟨w4.heap.size + 1, 3, none⟩ = some (.int .u64 v) := ⟨r3, by rw [b5.cell (by simp)]; simp [go_sem]⟩
  obtain ⟨v3, fr3⟩ := fr3
  have fr4 : ∃ v, w5.cell? ⟨w4.heap.size + 1, 4, none⟩ = some (.int .u64 v) := ⟨r4, by rw [b5.cell (by simp)]; simp [go_sem]⟩
  obtain ⟨v4, fr4⟩ := fr4
  have ff0 : w5.frozen? ⟨w4.heap.size + 1, 0, none⟩ = false := by rw [b5.frozen (by simp)]; simp [go_sem]
  have ff1 : w5.frozen? ⟨w4.heap.size + 1, 1, none⟩ = false := by rw [b5.frozen (by simp)]; simp [go_sem]
  have ff2 : w5.frozen? ⟨w4.heap.size + 1, 2, none⟩ = false := by rw [b5.frozen (by simp)]; simp [go_sem]
  have ff3 : w5.frozen? ⟨w4.heap.size + 1, 3, none⟩ = false := by rw [b5.frozen (by simp)]; simp [go_sem]
  have ff4 : w5.frozen? ⟨w4.heap.size + 1, 4, none⟩ = false := by rw [b5.frozen (by simp)]; simp [go_sem]
  have z5 : w4.heap.size + 1 < w5.heap.size := by have := b5.size; simp at this; omega
  have z15 : w1.heap.size < w5.heap.size := by omega
  have z25 : w2.heap.size < w5.heap.size := by omega
  have z45 : w4.heap.size < w5.heap.size := by omega
  have B5 : Below w.heap.size w w5 := ((B4.alloc (by omega) _).alloc (by simp; omega) _).trans (b5.mono (by simp; omega))
  clear b5 B4
  have g0 : (p0 == IntKind.u64.wrap (al * yl)) = true := by rw [← LP'.out]; simp
  have g1 : (q0 == IntKind.u64.wrap (bl * yl)) = true := by rw [← LQ'.out]; simp
  go_wp2
  go_ret
  refine ⟨rfl, ?_⟩
  have hB : w.heap.size ≤ w4.heap.size + 1 := by omega
  exact ((((B5.setCell hB _).setCell hB _).setCell hB _).setCell hB _).setCell hB _

theorem lawDist (ah al bh bl yh ym yl : Int) (w : World) (hah : Word ah) (hal : Word al) (hbh : Word bh) (hbl : Word bl) (hyh : Word yh) (hym : Word ym) (hyl : Word yl) :
    Calls Try.prog 4 #[.int .u64 ah, .int .u64 al, .int .u64 bh, .int .u64 bl, .int .u64 yh, .int .u64 ym, .int .u64 yl] w fun e w' => e = .returned (.bool true) ∧ Below w.heap.size w w' := by
  by_cases h0 : IntKind.u64.wrap (al + bl) < al
  · by_cases h1 : IntKind.u64.wrap (ah + bh) < ah
    · refine dist110 ah al bh bl yh ym yl w hah hal hbh hbl hyh hym hyl h0 h1 ?_
      unfold Word at *
      simp only [IntKind.wrap_u64] at *
      omega
    · by_cases h2 : IntKind.u64.wrap (IntKind.u64.wrap (ah + bh) + 1) < IntKind.u64.wrap (ah + bh)
      · exact dist101 ah al bh bl yh ym yl w hah hal hbh hbl hyh hym hyl h0 (by omega) h2
      · exact dist100 ah al bh bl yh ym yl w hah hal hbh hbl hyh hym hyl h0 (by omega) (by omega)
  · by_cases h1 : IntKind.u64.wrap (ah + bh) < ah
    · exact dist01 ah al bh bl yh ym yl w hah hal hbh hbl hyh hym hyl (by omega) h1
    · exact dist00 ah al bh bl yh ym yl w hah hal hbh hbl hyh hym hyl (by omega) (by omega)
end Go.Proofs.Qxb6626220a

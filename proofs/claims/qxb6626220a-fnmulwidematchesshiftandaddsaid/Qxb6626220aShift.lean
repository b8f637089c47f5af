import Derived.Test.Qxb6626220aPlain
import Derived.Test.Qxb6626220aShl
import Derived.Test.Qxb6626220aBits
namespace Go.Proofs.Qxb6626220a
open Go.ChangeShapes Go.WideShapes Go.ChangeAt Go.RowKit

/-- Block b of the world holds these five words. -/
def Blk (w : World) (b : Nat) (v0 v1 v2 v3 v4 : Int) : Prop := w.heap[b]? = some (.cells #[.int .u64 v0, .int .u64 v1, .int .u64 v2, .int .u64 v3, .int .u64 v4] 23)

theorem Blk.cells {w : World} {b : Nat} {v0 v1 v2 v3 v4 : Int} (h : Blk w b v0 v1 v2 v3 v4) :
    w.cell? ⟨b, 0, none⟩ = some (.int .u64 v0) ∧ w.cell? ⟨b, 1, none⟩ = some (.int .u64 v1) ∧ w.cell? ⟨b, 2, none⟩ = some (.int .u64 v2) ∧ w.cell? ⟨b, 3, none⟩ = some (.int .u64 v3) ∧ w.cell? ⟨b, 4, none⟩ = some (.int .u64 v4) := by
  unfold Blk at h
  simp [World.cell?, h]

theorem Blk.thaw {w : World} {b : Nat} {v0 v1 v2 v3 v4 : Int} (h : Blk w b v0 v1 v2 v3 v4) (i : Nat) : w.frozen? ⟨b, i, none⟩ = false := by
  unfold Blk at h
  simp [World.frozen?, h]

theorem Blk.below {w w' : World} {b B : Nat} {v0 v1 v2 v3 v4 : Int} (h : Blk w b v0 v1 v2 v3 v4) (hb : Below B w w') (hlt : b < B) : Blk w' b v0 v1 v2 v3 v4 := (hb.block b hlt).trans h

theorem Blk.alloc {w : World} {b : Nat} {v0 v1 v2 v3 v4 : Int} (h : Blk w b v0 v1 v2 v3 v4) (o : Obj) : Blk (w.alloc o) b v0 v1 v2 v3 v4 := by
  unfold Blk at *
  have hlt : b < w.heap.size := by
    rcases Nat.lt_or_ge b w.heap.size with h' | h'
    · exact h'
    · rw [Array.getElem?_eq_none h'] at h; cases h
  rw [Below.heap_alloc _ _ _ hlt, h]

theorem blk_new (w : World) (v0 v1 v2 v3 v4 : Int) : Blk (w.alloc (.cells #[.int .u64 v0, .int .u64 v1, .int .u64 v2, .int .u64 v3, .int .u64 v4] 23)) w.heap.size v0 v1 v2 v3 v4 := by
  show (w.heap.push _)[w.heap.size]? = _
  rw [Array.getElem?_push_size]
theorem blk_second (w : World) (o : Obj) (v0 v1 v2 v3 v4 : Int) : Blk ((w.alloc o).alloc (.cells #[.int .u64 v0, .int .u64 v1, .int .u64 v2, .int .u64 v3, .int .u64 v4] 23)) (w.heap.size + 1) v0 v1 v2 v3 v4 := by
  have h := blk_new (w.alloc o) v0 v1 v2 v3 v4
  rwa [World.size_alloc] at h

def put5 (w : World) (b : Nat) (u0 u1 u2 u3 u4 : Int) : World :=
  ((((w.setCell ⟨b, 0, none⟩ (.int .u64 u0)).setCell ⟨b, 1, none⟩ (.int .u64 u1)).setCell ⟨b, 2, none⟩ (.int .u64 u2)).setCell ⟨b, 3, none⟩ (.int .u64 u3)).setCell ⟨b, 4, none⟩ (.int .u64 u4)

theorem heap_setCell_at {w : World} {b : Nat} {c : Array Value} {t : TypeId} {i : Nat} {v : Value} (h : w.heap[b]? = some (.cells c t)) : (w.setCell ⟨b, i, none⟩ v).heap[b]? = some (.cells (c.setIfInBounds i v) t) := by
  simp [World.setCell, Array.getElem?_modify, h]

theorem Blk.put {w : World} {b : Nat} {v0 v1 v2 v3 v4 : Int} (u0 u1 u2 u3 u4 : Int) (h : Blk w b v0 v1 v2 v3 v4) : Blk (put5 w b u0 u1 u2 u3 u4) b u0 u1 u2 u3 u4 :=
  heap_setCell_at (heap_setCell_at (heap_setCell_at (heap_setCell_at (heap_setCell_at h))))

theorem Blk.other {w : World} {b c : Nat} {v0 v1 v2 v3 v4 : Int} (u0 u1 u2 u3 u4 : Int) (h : Blk w b v0 v1 v2 v3 v4) (hne : b ≠ c) : Blk (put5 w c u0 u1 u2 u3 u4) b v0 v1 v2 v3 v4 := by
  unfold Blk put5 at *
  rw [Below.heap_setCell _ _ _ _ hne, Below.heap_setCell _ _ _ _ hne, Below.heap_setCell _ _ _ _ hne, Below.heap_setCell _ _ _ _ hne, Below.heap_setCell _ _ _ _ hne, h]

theorem put5_below {B : Nat} {w w' : World} {b : Nat} (u0 u1 u2 u3 u4 : Int) (h : Below B w w') (hb : B ≤ b) : Below B w (put5 w' b u0 u1 u2 u3 u4) :=
  ((((h.setCell hb _).setCell hb _).setCell hb _).setCell hb _).setCell hb _

theorem put5_size (w : World) (b : Nat) (u0 u1 u2 u3 u4 : Int) : (put5 w b u0 u1 u2 u3 u4).heap.size = w.heap.size := by simp [put5, World.setCell]

set_option maxRecDepth 100000 in
set_option maxHeartbeats 8000000 in
theorem lawShift (xh xl yh ym yl : Int) (w : World) (hxh : Word xh) (hxl : Word xl) (hyh : Word yh) (hym : Word ym) (hyl : Word yl) :
    Calls Try.prog 3 #[.int .u64 xh, .int .u64 xl, .int .u64 yh, .int .u64 ym, .int .u64 yl] w fun e w' => e = .returned (.bool true) ∧ Below w.heap.size w w' := by
  have e5 := eq5
  have wz : Word 0 := by unfold Word; omega
  go_enter Try.func3, Try.ntmps3
  go_wp2
  go_loopw [13] (fun i wr => ∃ (k : Nat) (n0 n1 n2 n3 n4 d0 d1 d2 d3 d4 : Int), k ≤ 128 ∧ i = .int .i64 k ∧ Below w.heap.size w wr ∧ w.heap.size + 1 < wr.heap.size ∧
    Blk wr w.heap.size n0 n1 n2 n3 n4 ∧ Blk wr (w.heap.size + 1) d0 d1 d2 d3 d4 ∧ (Word n0 ∧ Word n1 ∧ Word n2 ∧ Word n3 ∧ Word n4) ∧ (Word d0 ∧ Word d1 ∧ Word d2 ∧ Word d3 ∧ Word d4) ∧
    Is n0 n1 n2 n3 n4 (((XN xl xh % 2 ^ k : Nat) : Int) * yv yh ym yl) ∧ Is d0 d1 d2 d3 d4 (yv yh ym yl * ((2 ^ k : Nat) : Int))) (fun i _ => 128 - (intOf i).toNat)
  case atStart => exact ⟨0, 0, 0, 0, 0, 0, yl, ym, yh, 0, 0, by omega, rfl, ((Below.refl _ _).alloc (Nat.le_refl _) _).alloc (by simp) _, by simp, (blk_new w 0 0 0 0 0).alloc _, blk_second w _ yl ym yh 0 0, ⟨wz, wz, wz, wz, wz⟩, ⟨hyl, hym, hyh, wz, wz⟩, is_zero _ _, is_start _ _ _⟩
  case round =>
    obtain ⟨k, n0, n1, n2, n3, n4, d0, d1, d2, d3, d4, hk, rfl, bel, hz, bn, bd, hn, hd, e1, e2⟩ := hrel
    have E : Hid (Is n0 n1 n2 n3 n4 (((XN xl xh % 2 ^ k : Nat) : Int) * yv yh ym yl) ∧ Is d0 d1 d2 d3 d4 (yv yh ym yl * ((2 ^ k : Nat) : Int))) := ⟨e1, e2⟩
    clear e1 e2
    obtain ⟨cn0, cn1, cn2, cn3, cn4⟩ := bn.cells
    obtain ⟨cd0, cd1, cd2, cd3, cd4⟩ := bd.cells
    have fn0 := bn.thaw 0
    have fd0 := bd.thaw 0
    have fn1 := bn.thaw 1
    have fd1 := bd.thaw 1
    have fn2 := bn.thaw 2
    have fd2 := bd.thaw 2
    have fn3 := bn.thaw 3
    have fd3 := bd.thaw 3
    have fn4 := bn.thaw 4
    have fd4 := bd.thaw 4
    have HB : Hid (Blk wr w.heap.size n0 n1 n2 n3 n4 ∧ Blk wr (w.heap.size + 1) d0 d1 d2 d3 d4) := ⟨bn, bd⟩
    clear bn bd
    by_cases h64 : k < 64
    · by_cases hbit : XN xl xh / 2 ^ k % 2 = 1
      · have ht : (bits .and .u64 (xl / 2 ^ k) 1 == 1) = true := by rw [test_lo k hxl h64]; simpa using hbit
        have HBit : Hid (XN xl xh / 2 ^ k % 2 = 1) := hbit
        clear hbit
        go_wp2_with fail
        have hbit := HBit.out
        refine (add320 n0 n1 n2 n3 n4 d0 d1 d2 d3 d4 _ hn.1 hn.2.1 hn.2.2.1 hn.2.2.2.1 hn.2.2.2.2 hd.1 hd.2.1 hd.2.2.1 hd.2.2.2.1 hd.2.2.2.2).mono ?_
        rintro e w1 ⟨s0, s1, s2, s3, s4, c, rfl, hs0, hs1, hs2, hs3, hs4, cc0, cc1, HA, b1⟩
        have bn1 := HB.out.1.below b1 (by omega)
        have bd1 := HB.out.2.below b1 (by omega)
        have bel1 := bel.trans (b1.mono bel.size)
        have hz1 : w.heap.size + 1 < w1.heap.size := Nat.lt_of_lt_of_le hz b1.size
        have E1 : Hid (_ ∧ _) := ⟨round_one hbit E.out.1 E.out.2 HA, E.out.2⟩
        have HB1 : Hid (_ ∧ _) := ⟨bn1, bd1⟩
        obtain ⟨en0, en1, en2, en3, en4⟩ := bn1.cells
        obtain ⟨ed0, ed1, ed2, ed3, ed4⟩ := bd1.cells
        have ff0 := bn1.thaw 0
        have ff1 := bn1.thaw 1
        have ff2 := bn1.thaw 2
        have ff3 := bn1.thaw 3
        have ff4 := bn1.thaw 4
        clear HA b1 bn1 bd1 HB E cc0 cc1 cn0 cn1 cn2 cn3 cn4 cd0 cd1 cd2 cd3 cd4 fn0 fn1 fn2 fn3 fn4 fd0 fd1 fd2 fd3 fd4
        go_wp2_with fail
        refine (shl1 d0 d1 d2 d3 d4 _ hd.1 hd.2.1 hd.2.2.1 hd.2.2.2.1 hd.2.2.2.2).mono ?_
        rintro e w2 ⟨r0, r1, r2, r3, r4, rfl, hr0, hr1, hr2, hr3, hr4, HR, b2⟩
        have b2' : Below (put5 w1 w.heap.size s0 s1 s2 s3 s4).heap.size (put5 w1 w.heap.size s0 s1 s2 s3 s4) w2 := b2
        rw [put5_size] at b2'
        have bn2 : Blk w2 w.heap.size s0 s1 s2 s3 s4 := (HB1.out.1.put s0 s1 s2 s3 s4).below b2' (by omega)
        have bd2 : Blk w2 (w.heap.size + 1) d0 d1 d2 d3 d4 := (HB1.out.2.other s0 s1 s2 s3 s4 (by omega)).below b2' (by omega)
        have bel2 := (put5_below s0 s1 s2 s3 s4 bel1 (Nat.le_refl _)).trans (b2'.mono bel1.size)
        have hz2 : w.heap.size + 1 < w2.heap.size := by have := b2'.size; rw [put5_size] at this; omega
        have E2 : Hid (_ ∧ _) := ⟨E1.out.1, round_shl E1.out.2 HR⟩
        have HB2 : Hid (_ ∧ _) := ⟨bn2, bd2⟩
        obtain ⟨gd0, gd1, gd2, gd3, gd4⟩ := bd2.cells
        have hd0 := bd2.thaw 0
        have hd1 := bd2.thaw 1
        have hd2 := bd2.thaw 2
        have hd3 := bd2.thaw 3
        have hd4 := bd2.thaw 4
        clear HR b2 b2' bn2 bd2 HB1 E1 bel1 hz1 en0 en1 en2 en3 en4 ed0 ed1 ed2 ed3 ed4 ff0 ff1 ff2 ff3 ff4
        go_wp2_with fail
        go_roundw
        case rel => exact ⟨k + 1, s0, s1, s2, s3, s4, r0, r1, r2, r3, r4, by omega, by go_num, put5_below r0 r1 r2 r3 r4 bel2 (by omega), Nat.lt_of_lt_of_eq hz2 (put5_size w2 (w.heap.size + 1) r0 r1 r2 r3 r4).symm,
          HB2.out.1.other r0 r1 r2 r3 r4 (by omega), HB2.out.2.put r0 r1 r2 r3 r4, ⟨hs0, hs1, hs2, hs3, hs4⟩, ⟨hr0, hr1, hr2, hr3, hr4⟩, E2.out.1, E2.out.2⟩
        case measure => simp [intOf]; omega
      · have ht : (bits .and .u64 (xl / 2 ^ k) 1 == 1) = false := by rw [test_lo (xh := xh) k hxl h64]; simpa using hbit
        have HBit : Hid (¬ XN xl xh / 2 ^ k % 2 = 1) := hbit
        clear hbit
        go_wp2_with fail
        have hbit := HBit.out
        refine (shl1 d0 d1 d2 d3 d4 _ hd.1 hd.2.1 hd.2.2.1 hd.2.2.2.1 hd.2.2.2.2).mono ?_
        rintro e w2 ⟨r0, r1, r2, r3, r4, rfl, hr0, hr1, hr2, hr3, hr4, HR, b2⟩
        have bn2 := HB.out.1.below b2 (by omega)
        have bd2 := HB.out.2.below b2 (by omega)
        have bel2 := bel.trans (b2.mono bel.size)
        have hz2 : w.heap.size + 1 < w2.heap.size := Nat.lt_of_lt_of_le hz b2.size
        have E2 : Hid (_ ∧ _) := ⟨round_nil hbit E.out.1, round_shl E.out.2 HR⟩
        have HB2 : Hid (_ ∧ _) := ⟨bn2, bd2⟩
        obtain ⟨gd0, gd1, gd2, gd3, gd4⟩ := bd2.cells
        have hd0 := bd2.thaw 0
        have hd1 := bd2.thaw 1
        have hd2 := bd2.thaw 2
        have hd3 := bd2.thaw 3
        have hd4 := bd2.thaw 4
        clear HR b2 bn2 bd2 HB E cn0 cn1 cn2 cn3 cn4 cd0 cd1 cd2 cd3 cd4 fn0 fn1 fn2 fn3 fn4 fd0 fd1 fd2 fd3 fd4
        go_wp2_with fail
        go_roundw
        case rel => exact ⟨k + 1, n0, n1, n2, n3, n4, r0, r1, r2, r3, r4, by omega, by go_num, put5_below r0 r1 r2 r3 r4 bel2 (by omega), Nat.lt_of_lt_of_eq hz2 (put5_size w2 (w.heap.size + 1) r0 r1 r2 r3 r4).symm,
          HB2.out.1.other r0 r1 r2 r3 r4 (by omega), HB2.out.2.put r0 r1 r2 r3 r4, hn, ⟨hr0, hr1, hr2, hr3, hr4⟩, E2.out.1, E2.out.2⟩
        case measure => simp [intOf]; omega
    · by_cases h128 : k < 128
      · by_cases hbit : XN xl xh / 2 ^ k % 2 = 1
        · have ht : (bits .and .u64 (xh / 2 ^ (k - 64)) 1 == 1) = true := by rw [test_hi k hxl hxh (by omega)]; simpa using hbit
          have HBit : Hid (XN xl xh / 2 ^ k % 2 = 1) := hbit
          clear hbit
          go_wp2_with fail
          have hbit := HBit.out
          refine (add320 n0 n1 n2 n3 n4 d0 d1 d2 d3 d4 _ hn.1 hn.2.1 hn.2.2.1 hn.2.2.2.1 hn.2.2.2.2 hd.1 hd.2.1 hd.2.2.1 hd.2.2.2.1 hd.2.2.2.2).mono ?_
          rintro e w1 ⟨s0, s1, s2, s3, s4, c, rfl, hs0, hs1, hs2, hs3, hs4, cc0, cc1, HA, b1⟩
          have bn1 := HB.out.1.below b1 (by omega)
          have bd1 := HB.out.2.below b1 (by omega)
          have bel1 := bel.trans (b1.mono bel.size)
          have hz1 : w.heap.size + 1 < w1.heap.size := Nat.lt_of_lt_of_le hz b1.size
          have E1 : Hid (_ ∧ _) := ⟨round_one hbit E.out.1 E.out.2 HA, E.out.2⟩
          have HB1 : Hid (_ ∧ _) := ⟨bn1, bd1⟩
          obtain ⟨en0, en1, en2, en3, en4⟩ := bn1.cells
          obtain ⟨ed0, ed1, ed2, ed3, ed4⟩ := bd1.cells
          have ff0 := bn1.thaw 0
          have ff1 := bn1.thaw 1
          have ff2 := bn1.thaw 2
          have ff3 := bn1.thaw 3
          have ff4 := bn1.thaw 4
          clear HA b1 bn1 bd1 HB E cc0 cc1 cn0 cn1 cn2 cn3 cn4 cd0 cd1 cd2 cd3 cd4 fn0 fn1 fn2 fn3 fn4 fd0 fd1 fd2 fd3 fd4
          go_wp2_with fail
          refine (shl1 d0 d1 d2 d3 d4 _ hd.1 hd.2.1 hd.2.2.1 hd.2.2.2.1 hd.2.2.2.2).mono ?_
          rintro e w2 ⟨r0, r1, r2, r3, r4, rfl, hr0, hr1, hr2, hr3, hr4, HR, b2⟩
          have b2' : Below (put5 w1 w.heap.size s0 s1 s2 s3 s4).heap.size (put5 w1 w.heap.size s0 s1 s2 s3 s4) w2 := b2
          rw [put5_size] at b2'
          have bn2 : Blk w2 w.heap.size s0 s1 s2 s3 s4 := (HB1.out.1.put s0 s1 s2 s3 s4).below b2' (by omega)
          have bd2 : Blk w2 (w.heap.size + 1) d0 d1 d2 d3 d4 := (HB1.out.2.other s0 s1 s2 s3 s4 (by omega)).below b2' (by omega)
          have bel2 := (put5_below s0 s1 s2 s3 s4 bel1 (Nat.le_refl _)).trans (b2'.mono bel1.size)
          have hz2 : w.heap.size + 1 < w2.heap.size := by have := b2'.size; rw [put5_size] at this; omega
          have E2 : Hid (_ ∧ _) := ⟨E1.out.1, round_shl E1.out.2 HR⟩
          have HB2 : Hid (_ ∧ _) := ⟨bn2, bd2⟩
          obtain ⟨gd0, gd1, gd2, gd3, gd4⟩ := bd2.cells
          have hd0 := bd2.thaw 0
          have hd1 := bd2.thaw 1
          have hd2 := bd2.thaw 2
          have hd3 := bd2.thaw 3
          have hd4 := bd2.thaw 4
          clear HR b2 b2' bn2 bd2 HB1 E1 bel1 hz1 en0 en1 en2 en3 en4 ed0 ed1 ed2 ed3 ed4 ff0 ff1 ff2 ff3 ff4
          go_wp2_with fail
          go_roundw
          case rel => exact ⟨k + 1, s0, s1, s2, s3, s4, r0, r1, r2, r3, r4, by omega, by go_num, put5_below r0 r1 r2 r3 r4 bel2 (by omega), Nat.lt_of_lt_of_eq hz2 (put5_size w2 (w.heap.size + 1) r0 r1 r2 r3 r4).symm,
            HB2.out.1.other r0 r1 r2 r3 r4 (by omega), HB2.out.2.put r0 r1 r2 r3 r4, ⟨hs0, hs1, hs2, hs3, hs4⟩, ⟨hr0, hr1, hr2, hr3, hr4⟩, E2.out.1, E2.out.2⟩
          case measure => simp [intOf]; omega
        · have ht : (bits .and .u64 (xh / 2 ^ (k - 64)) 1 == 1) = false := by rw [test_hi (xl := xl) k hxl hxh (by omega)]; simpa using hbit
          have HBit : Hid (¬ XN xl xh / 2 ^ k % 2 = 1) := hbit
          clear hbit
          go_wp2_with fail
          have hbit := HBit.out
          refine (shl1 d0 d1 d2 d3 d4 _ hd.1 hd.2.1 hd.2.2.1 hd.2.2.2.1 hd.2.2.2.2).mono ?_
          rintro e w2 ⟨r0, r1, r2, r3, r4, rfl, hr0, hr1, hr2, hr3, hr4, HR, b2⟩
          have bn2 := HB.out.1.below b2 (by omega)
          have bd2 := HB.out.2.below b2 (by omega)
          have bel2 := bel.trans (b2.mono bel.size)
          have hz2 : w.heap.size + 1 < w2.heap.size := Nat.lt_of_lt_of_le hz b2.size
          have E2 : Hid (_ ∧ _) := ⟨round_nil hbit E.out.1, round_shl E.out.2 HR⟩
          have HB2 : Hid (_ ∧ _) := ⟨bn2, bd2⟩
          obtain ⟨gd0, gd1, gd2, gd3, gd4⟩ := bd2.cells
          have hd0 := bd2.thaw 0
          have hd1 := bd2.thaw 1
          have hd2 := bd2.thaw 2
          have hd3 := bd2.thaw 3
          have hd4 := bd2.thaw 4
          clear HR b2 bn2 bd2 HB E cn0 cn1 cn2 cn3 cn4 cd0 cd1 cd2 cd3 cd4 fn0 fn1 fn2 fn3 fn4 fd0 fd1 fd2 fd3 fd4
          go_wp2_with fail
          go_roundw
          case rel => exact ⟨k + 1, n0, n1, n2, n3, n4, r0, r1, r2, r3, r4, by omega, by go_num, put5_below r0 r1 r2 r3 r4 bel2 (by omega), Nat.lt_of_lt_of_eq hz2 (put5_size w2 (w.heap.size + 1) r0 r1 r2 r3 r4).symm,
            HB2.out.1.other r0 r1 r2 r3 r4 (by omega), HB2.out.2.put r0 r1 r2 r3 r4, hn, ⟨hr0, hr1, hr2, hr3, hr4⟩, E2.out.1, E2.out.2⟩
          case measure => simp [intOf]; omega
      · have hk128 : k = 128 := by omega
        subst hk128
        go_wp2_with fail
        refine (mulWide xh xl yh ym yl _ hxh hxl hyh hym hyl).mono ?_
        rintro e w1 ⟨z0, z1, z2, z3, z4, rfl, hz0, hz1, hz2, hz3, hz4, HZ, b1⟩
        rw [prod_eq] at HZ
        obtain ⟨c, hc⟩ := E.out.1
        rw [Nat.mod_eq_of_lt (XN_lt hxl hxh), XN_eq hxl hxh, ← HZ] at hc
        obtain ⟨rfl, rfl, rfl, rfl, rfl⟩ := pv_inj hn.1 hn.2.1 hn.2.2.1 hn.2.2.2.1 hn.2.2.2.2 hz0 hz1 hz2 hz3 hz4 c 0 (by omega)
        have bn1 : Blk w1 w.heap.size n0 n1 n2 n3 n4 := ((HB.out.1.alloc _).alloc _).below b1 (by simp; omega)
        have bel1 : Below w.heap.size w w1 := ((bel.alloc bel.size _).alloc (Nat.le_trans bel.size (by simp)) _).trans (b1.mono (Nat.le_trans bel.size (by simp; omega)))
        have hz1' : w.heap.size < w1.heap.size := by have := b1.size; simp at this; omega
        obtain ⟨en0, en1, en2, en3, en4⟩ := bn1.cells
        clear hc HZ b1 bn1 HB E cn0 cn1 cn2 cn3 cn4 cd0 cd1 cd2 cd3 cd4 fn0 fn1 fn2 fn3 fn4 fd0 fd1 fd2 fd3 fd4
        go_wp2_with fail
        go_ret
        exact ⟨rfl, bel1.alloc bel1.size _⟩
end Go.Proofs.Qxb6626220a

import Derived.Test.Qxb6626311aLaw2Base
namespace Go.Proofs.Qxb6626311a
open Go.ChangeShapes Go.WideShapes Go.ChangeAt Go.RowKit

set_option maxRecDepth 100000 in
set_option maxHeartbeats 4000000 in
theorem law2_some (cause : Int) (x : Addr) (c : Nat) (xs : List Int) (b : Option Addr) (d : Nat) (ys : List Int) (w : World) (hs : Sl w (some x) xs) (hb : Sl w b ys) (hn : xs.length + ys.length ≤ 1048576) :
    Calls Try.prog 4 #[.int .u8 cause, .slice (some x) xs.length c, .slice b ys.length d] w fun e w' => e = .returned (.bool true) ∧ Below w.heap.size w w' := by
  have hne := fun w => run_neq_slice_nil_any (P := Try.prog) w 22 5 (some x) xs.length c 0 0 Try.underlying22
  obtain ⟨Z, hZ, hmk⟩ := make_len xs.length (by omega)
  obtain ⟨hcp, rcp, B1, zcp⟩ := copy_facts hs c hZ
  have hsl := sl_of_range rcp
  have hb1 := hb.below B1 (Nat.le_refl _)
  obtain ⟨Z2, hZ2, hmk2⟩ := make_at (xs.length + ys.length) (by omega) ((xs.length : Int) + (ys.length : Int)) (by omega)
  obtain ⟨W1, hW1⟩ : ∃ W1, W1 = (w.alloc (.cells Z 5)).setCells w.heap.size 0 (vals xs) := ⟨_, rfl⟩
  rw [← hW1] at hcp rcp B1 zcp hsl hb1
  obtain ⟨s1, p1, s2, p2, r2, b2, zz2⟩ := join_facts hsl hb1 xs.length d hZ2
  have p2' : ((W1.alloc (.cells Z2 5)).setCells W1.heap.size 0 (vals xs)).there W1.heap.size (0 + xs.length) (vals ys).length := by rw [Nat.zero_add]; exact p2
  have HW : Hid (W1 = (w.alloc (.cells Z 5)).setCells w.heap.size 0 (vals xs)) := hW1
  clear hW1
  go_enter Try.func4, Try.ntmps4
  go_wp2_with fail
  refine (bytes10 _ _ _ _ _ _ _ _ (by omega) (by omega)).mono ?_
  rintro e w' ⟨t, rfl, rfl⟩
  cases t
  · go_wp2_with fail
    go_ret
    exact ⟨rfl, Below.refl _ _⟩
  go_wp2_with (first
    | refine wpList_copy_at (.tmp 33) (.tmp 34) 22 22 rfl rfl _ _ rfl rfl _ _ hcp ?_
    | refine wpList_append_room1 _ rfl (.tmp 43) (.tmp 44) 22 22 rfl 5 _ 1 Try.underlying22 info5 W1.heap.size 0 0 (xs.length + ys.length) rfl _ rfl xs.length (vals xs) s1 (by omega) (fun j hj => (p1 j hj).1) (fun j hj => (p1 j hj).2) ?_
    | refine wpList_append_room1 _ rfl (.tmp 46) (.tmp 47) 22 22 rfl 5 _ 1 Try.underlying22 info5 W1.heap.size 0 xs.length (xs.length + ys.length) rfl _ rfl ys.length (vals ys) s2 (by omega) (fun j hj => (p2' j hj).1) (fun j hj => (p2' j hj).2) ?_)
  clear s1 p1 s2 p2 p2' hmk2 hne hb hb1 hZ2 hcp hmk hs HW
  generalize ((W1.alloc (.cells Z2 5)).setCells W1.heap.size 0 (vals xs)).setCells W1.heap.size xs.length (vals ys) = W4 at *
  obtain ⟨zs, hzs⟩ : ∃ zs, zs = xs ++ ys := ⟨_, rfl⟩
  rw [← hzs] at r2
  have hzl : zs.length = xs.length + ys.length := by rw [hzs, List.length_append]
  rw [← hzl]
  have hpre : ∀ k, k < xs.length → zs.getD k 0 = xs.getD k 0 := fun k hk => by rw [hzs, List.getD_eq_getElem?_getD, List.getD_eq_getElem?_getD, List.getElem?_append_left hk]
  have hzm : zs.length ≤ 1048576 := by omega
  have hxz : xs.length ≤ zs.length := by omega
  have zz3 : W1.heap.size < W4.heap.size := by omega
  clear hzs hsl hzl zz2
  have slz := sl_of_range r2
  have B2 : Below w.heap.size w W4 := B1.trans (b2.mono B1.size)
  have slx4 : Sl W4 (some ⟨w.heap.size, 0, none⟩) xs := sl_of_range (rangeAt_below rcp b2 zcp)
  refine (status cause (some ⟨W1.heap.size, 0, none⟩) zs.length zs W4 slz (.inr ⟨_, _, rfl⟩) (Nat.le_refl _) (by omega) (by omega)).mono ?_
  rintro e w5 ⟨cap1, rfl, hcap1, r3, b5⟩
  have z5 : W4.heap.size < w5.heap.size := World.block_lt_of_cell? w5 ⟨W4.heap.size, 0, none⟩ (cell_of_range r3 0 (by rw [st_length]; split <;> omega))
  have slx5 : Sl w5 (some ⟨w.heap.size, 0, none⟩) xs := slx4.below b5 (Nat.le_refl _)
  have r2' := rangeAt_below r2 b5 (by omega)
  have B5 : Below w.heap.size w w5 := B2.trans (b5.mono B2.size)
  clear slz slx4 r2 B1 B2 b2
  go_wp2_with fail
  refine (status cause (some ⟨w.heap.size, 0, none⟩) xs.length xs w5 slx5 (.inr ⟨_, _, rfl⟩) (Nat.le_refl _) (by omega) (by omega)).mono ?_
  rintro e w6 ⟨cap2, rfl, hcap2, r4, b6⟩
  have B6 : Below w.heap.size w w6 := B5.trans (b6.mono B5.size)
  have rz := rangeAt_below r2' b6 (by omega)
  have rs := rangeAt_below r3 b6 z5
  clear r2' r3 slx5 B5
  obtain ⟨ia, ia1, ia2, hia, hLu, hdu⟩ := st_parts cause xs
  obtain ⟨iz, iz1, iz2, hiz, hLs, hds⟩ := st_parts cause zs
  obtain ⟨na, hna⟩ : ∃ na, na = min xs.length 32767 := ⟨_, rfl⟩
  obtain ⟨nz, hnz⟩ : ∃ nz, nz = min zs.length 32767 := ⟨_, rfl⟩
  rw [← hna] at hia hLu hdu
  rw [← hnz] at hiz hLs hds
  rw [hLs] at hcap1
  rw [hLu] at hcap2
  rw [hLs, hLu]
  have naz : na ≤ nz := by omega
  have nzm : nz ≤ 32767 := by omega
  have nax : na ≤ xs.length := by omega
  have nzz : nz ≤ zs.length := by omega
  obtain ⟨g0, g1, g2, g3, g4⟩ := st_head cause zs
  obtain ⟨h0, h1, h2, h3, h4⟩ := st_head cause xs
  have c0 := cell_of_range rs 0 (by omega)
  have c1 := cell_of_range rs 1 (by omega)
  have c2 := cell_of_range rs 2 (by omega)
  have c3 := cell_of_range rs 3 (by omega)
  have c4 := cell_of_range rs 4 (by omega)
  have d0 := cell_of_range r4 0 (by omega)
  have d1 := cell_of_range r4 1 (by omega)
  have d2 := cell_of_range r4 2 (by omega)
  have d3 := cell_of_range r4 3 (by omega)
  have d4 := cell_of_range r4 4 (by omega)
  rw [g0] at c0
  rw [g1] at c1
  rw [g2] at c2
  rw [g3] at c3
  rw [g4] at c4
  rw [h0] at d0
  rw [h1] at d1
  rw [h2] at d2
  rw [h3] at d3
  rw [h4] at d4
  have HA1 : Hid (∀ i, i < nz - na → w6.cell? ⟨W4.heap.size, 5 + iz + na + i, none⟩ = some (.int .u8 (zs.getD (na + i) 0))) := fun i hi => by
    rw [cell_of_range rs (5 + iz + na + i) (by omega), show 5 + iz + na + i = 5 + iz + (na + i) by omega, hds (na + i) (by omega)]
  have HB1 : Hid (nz - na = 0 ∨ ∃ bb, (some ⟨W1.heap.size, 0, none⟩ : Option Addr) = some (⟨bb, 0, none⟩ : Addr) ∧ ∀ i, i < nz - na → w6.cell? ⟨bb, na + i, none⟩ = some (.int .u8 (zs.getD (na + i) 0))) := .inr ⟨_, rfl, fun i hi => cell_of_range rz (na + i) (by omega)⟩
  have HA2 : Hid (∀ i, i < na → w6.cell? ⟨W4.heap.size, 5 + iz + i, none⟩ = some (.int .u8 (xs.getD i 0))) := fun i hi => by
    rw [cell_of_range rs (5 + iz + i) (by omega), hds i (by omega), hpre i (by omega)]
  have HB2 : Hid (na = 0 ∨ ∃ bb, (some ⟨w5.heap.size, 0, none⟩ : Option Addr) = some (⟨bb, 0, none⟩ : Addr) ∧ ∀ i, i < na → w6.cell? ⟨bb, 5 + ia + i, none⟩ = some (.int .u8 (xs.getD i 0))) := .inr ⟨_, rfl, fun i hi => by
    rw [cell_of_range r4 (5 + ia + i) (by omega), hdu i (by omega)]⟩
  have HNA : Hid (na = min xs.length 32767) := hna
  have HNZ : Hid (nz = min zs.length 32767) := hnz
  have HIA : Hid ((if na < 128 then (1 : Int) else 2) = (ia : Int)) := hia
  have HIZ : Hid ((if nz < 128 then (1 : Int) else 2) = (iz : Int)) := hiz
  clear g0 g1 g2 g3 g4 h0 h1 h2 h3 h4 hna hnz hia hiz hLs hLu hds hdu hpre rs rz r4 b5 b6
  go_wp2_with fail
  refine (carried xs.length w6 (by omega)).mono ?_
  rintro e w' ⟨rfl, rfl⟩
  rw [show min xs.length 32767 = na from HNA.out.symm]
  go_wp2_with fail
  refine (carried zs.length w6 (by omega)).mono ?_
  rintro e w' ⟨rfl, rfl⟩
  rw [show min zs.length 32767 = nz from HNZ.out.symm]
  go_wp2_with fail
  refine (indLen nz w6 (by omega)).mono ?_
  rintro e w' ⟨rfl, rfl⟩
  rw [HIZ.out]
  go_wp2_with fail
  refine (indLen na w6 (by omega)).mono ?_
  rintro e w' ⟨rfl, rfl⟩
  rw [HIA.out]
  go_wp2_with fail
  refine (same_at _ _ _ W4.heap.size (5 + iz + nz) cap1 (5 + iz + na) _ zs.length zs.length na (nz - na) (fun i => zs.getD (na + i) 0) w6 ?_ ?_ ?_ (by omega) (by omega) (by omega) (by omega) HA1.out HB1.out).mono ?_
  · omega
  · omega
  · omega
  rintro e w7 ⟨rfl, q, rfl⟩
  go_wp2_with fail
  refine (same_at _ _ _ W4.heap.size (5 + iz + nz) cap1 (5 + iz) _ (5 + ia + na) cap2 (5 + ia) na (fun i => xs.getD i 0) (w6.drewN q) ?_ ?_ ?_ (by omega) (by omega) (by omega) (by omega) HA2.out HB2.out).mono ?_
  · omega
  · omega
  · omega
  rintro e w8 ⟨rfl, q2, rfl⟩
  go_wp2_with fail
  go_ret
  exact ⟨rfl, below_drewN B6 _⟩
end Go.Proofs.Qxb6626311a

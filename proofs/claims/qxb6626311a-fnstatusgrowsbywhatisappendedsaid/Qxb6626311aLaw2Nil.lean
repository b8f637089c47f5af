import Derived.Test.Qxb6626311aLaw2Base
namespace Go.Proofs.Qxb6626311a
open Go.ChangeShapes Go.WideShapes Go.ChangeAt Go.RowKit

set_option maxRecDepth 100000 in
set_option maxHeartbeats 4000000 in
theorem law2_nil (cause : Int) (b : Option Addr) (d : Nat) (ys : List Int) (w : World) (hb : Sl w b ys) (hn : ys.length ≤ 1048576) :
    Calls Try.prog 4 #[.int .u8 cause, .slice none 0 0, .slice b ys.length d] w fun e w' => e = .returned (.bool true) ∧ Below w.heap.size w w' := by
  have hne := fun w => run_neq_slice_nil_any (P := Try.prog) w 22 5 none 0 0 0 0 Try.underlying22
  have hsl : Sl w none [] := .inl ⟨rfl, rfl⟩
  have B1 : Below w.heap.size w w := Below.refl _ _
  have hb1 := hb
  obtain ⟨Z2, hZ2, hmk2⟩ := make_at ys.length (by omega) (ys.length : Int) rfl
  obtain ⟨s1, p1, s2, p2, r2, b2, zz2⟩ := join_facts hsl hb1 0 d (by rw [hZ2]; simp)
  go_enter Try.func4, Try.ntmps4
  go_wp2_with fail
  refine (bytes10 _ _ _ _ _ _ _ _ (by omega) (by omega)).mono ?_
  rintro e w' ⟨t, rfl, rfl⟩
  cases t
  · go_wp2_with fail
    go_ret
    exact ⟨rfl, Below.refl _ _⟩
  go_wp2_with (first
    | refine wpList_append_room1 _ rfl (.tmp 43) (.tmp 44) 22 22 rfl 5 _ 1 Try.underlying22 info5 w.heap.size 0 0 ys.length rfl _ rfl 0 (vals ([] : List Int)) s1 (by omega) (fun j hj => (p1 j hj).1) (fun j hj => (p1 j hj).2) ?_
    | refine wpList_append_room1 _ rfl (.tmp 46) (.tmp 47) 22 22 rfl 5 _ 1 Try.underlying22 info5 w.heap.size 0 0 ys.length rfl _ rfl ys.length (vals ys) s2 (by omega) (fun j hj => (p2 j hj).1) (fun j hj => (p2 j hj).2) ?_)
  simp only [List.length_nil, List.nil_append] at r2 b2 zz2
  clear s1 p1 s2 p2 hmk2 hne hb hb1 hZ2
  generalize ((w.alloc (.cells Z2 5)).setCells w.heap.size 0 (vals [])).setCells w.heap.size 0 (vals ys) = W4 at *
  obtain ⟨zs, hzs⟩ : ∃ zs, zs = ys := ⟨_, rfl⟩
  rw [← hzs] at r2
  have hzl : zs.length = ys.length := by rw [hzs]
  rw [← hzl]
  have hpre : ∀ k, k < ([] : List Int).length → zs.getD k 0 = ([] : List Int).getD k 0 := fun k hk => by simp at hk
  have hX : ([] : List Int).length = 0 := rfl
  have hzm : zs.length ≤ 1048576 := by omega
  have hxz : ([] : List Int).length ≤ zs.length := by omega
  have zz3 : w.heap.size < W4.heap.size := by omega
  clear hzs hsl hzl zz2
  have slz := sl_of_range r2
  have B2 : Below w.heap.size w W4 := B1.trans (b2.mono B1.size)
  have slx4 : Sl W4 none ([] : List Int) := .inl ⟨rfl, rfl⟩
  refine (status cause (some ⟨w.heap.size, 0, none⟩) zs.length zs W4 slz (.inr ⟨_, _, rfl⟩) (Nat.le_refl _) (by omega) (by omega)).mono ?_
  rintro e w5 ⟨cap1, rfl, hcap1, r3, b5⟩
  have z5 : W4.heap.size < w5.heap.size := World.block_lt_of_cell? w5 ⟨W4.heap.size, 0, none⟩ (cell_of_range r3 0 (by rw [st_length]; split <;> omega))
  have slx5 : Sl w5 none ([] : List Int) := slx4.below b5 (Nat.le_refl _)
  have r2' := rangeAt_below r2 b5 (by omega)
  have B5 : Below w.heap.size w w5 := B2.trans (b5.mono B2.size)
  clear slz slx4 r2 B1 B2 b2
  go_wp2_with fail
  refine (status cause none 0 ([] : List Int) w5 slx5 (.inl rfl) (Nat.le_refl _) (by simp) (by omega)).mono ?_
  rintro e w6 ⟨cap2, rfl, hcap2, r4, b6⟩
  have B6 : Below w.heap.size w w6 := B5.trans (b6.mono B5.size)
  have rz := rangeAt_below r2' b6 (by omega)
  have rs := rangeAt_below r3 b6 z5
  clear r2' r3 slx5 B5
  obtain ⟨ia, ia1, ia2, hia, hLu, hdu⟩ := st_parts cause ([] : List Int)
  obtain ⟨iz, iz1, iz2, hiz, hLs, hds⟩ := st_parts cause zs
  obtain ⟨na, hna⟩ : ∃ na, na = min ([] : List Int).length 32767 := ⟨_, rfl⟩
  obtain ⟨nz, hnz⟩ : ∃ nz, nz = min zs.length 32767 := ⟨_, rfl⟩
  rw [← hna] at hia hLu hdu
  rw [← hnz] at hiz hLs hds
  rw [hLs] at hcap1
  rw [hLu] at hcap2
  rw [hLs, hLu]
  have naz : na ≤ nz := by omega
  have nzm : nz ≤ 32767 := by omega
  have nax : na ≤ ([] : List Int).length := by omega
  have nzz : nz ≤ zs.length := by omega
  obtain ⟨g0, g1, g2, g3, g4⟩ := st_head cause zs
  obtain ⟨h0, h1, h2, h3, h4⟩ := st_head cause ([] : List Int)
  have c0 := cell_of_range rs 0 (by omega)
  have c1 := cell_of_range rs 1 (by omega)
  have c2 := cell_of_range rs 2 (by omega)
  have c3 := cell_of_range rs 3 (by omega)
  have c4 := cell_of_range rs 4 (by omega)
  have d0 := cell_of_range r4 0 (by omega)
  have d1 := cell_of_range r4 1 (by omega)
  have d2 := cell_of_range r4 2 (by omega)
  have d3 := cell_of_range r4 3 (by omega)
  have d4 := cell_of_range r4 4 (by omega)
  rw [g0] at c0
  rw [g1] at c1
  rw [g2] at c2
  rw [g3] at c3
  rw [g4] at c4
  rw [h0] at d0
  rw [h1] at d1
  rw [h2] at d2
  rw [h3] at d3
  rw [h4] at d4
  have HA1 : Hid (∀ i, i < nz - na → w6.cell? ⟨W4.heap.size, 5 + iz + na + i, none⟩ = some (.int .u8 (zs.getD (na + i) 0))) := fun i hi => by
    rw [cell_of_range rs (5 + iz + na + i) (by omega), show 5 + iz + na + i = 5 + iz + (na + i) by omega, hds (na + i) (by omega)]
  have HB1 : Hid (nz - na = 0 ∨ ∃ bb, (some ⟨w.heap.size, 0, none⟩ : Option Addr) = some (⟨bb, 0, none⟩ : Addr) ∧ ∀ i, i < nz - na → w6.cell? ⟨bb, na + i, none⟩ = some (.int .u8 (zs.getD (na + i) 0))) := .inr ⟨_, rfl, fun i hi => cell_of_range rz (na + i) (by omega)⟩
  have HA2 : Hid (∀ i, i < na → w6.cell? ⟨W4.heap.size, 5 + iz + i, none⟩ = some (.int .u8 (([] : List Int).getD i 0))) := fun i hi => by
    rw [cell_of_range rs (5 + iz + i) (by omega), hds i (by omega), hpre i (by omega)]
  have HB2 : Hid (na = 0 ∨ ∃ bb, (some ⟨w5.heap.size, 0, none⟩ : Option Addr) = some (⟨bb, 0, none⟩ : Addr) ∧ ∀ i, i < na → w6.cell? ⟨bb, 5 + ia + i, none⟩ = some (.int .u8 (([] : List Int).getD i 0))) := .inr ⟨_, rfl, fun i hi => by
    rw [cell_of_range r4 (5 + ia + i) (by omega), hdu i (by omega)]⟩
  have HNA : Hid (na = min ([] : List Int).length 32767) := hna
  have HNZ : Hid (nz = min zs.length 32767) := hnz
  have HIA : Hid ((if na < 128 then (1 : Int) else 2) = (ia : Int)) := hia
  have HIZ : Hid ((if nz < 128 then (1 : Int) else 2) = (iz : Int)) := hiz
  clear g0 g1 g2 g3 g4 h0 h1 h2 h3 h4 hna hnz hia hiz hLs hLu hds hdu hpre rs rz r4 b5 b6
  go_wp2_with fail
  refine (carried 0 w6 (by omega)).mono ?_
  rintro e w' ⟨rfl, rfl⟩
  rw [show min 0 32767 = na from HNA.out.symm]
  go_wp2_with fail
  refine (carried zs.length w6 (by omega)).mono ?_
  rintro e w' ⟨rfl, rfl⟩
  rw [show min zs.length 32767 = nz from HNZ.out.symm]
  go_wp2_with fail
  refine (indLen nz w6 (by omega)).mono ?_
  rintro e w' ⟨rfl, rfl⟩
  rw [HIZ.out]
  go_wp2_with fail
  refine (indLen na w6 (by omega)).mono ?_
  rintro e w' ⟨rfl, rfl⟩
  rw [HIA.out]
  go_wp2_with fail
  refine (same_at _ _ _ W4.heap.size (5 + iz + nz) cap1 (5 + iz + na) _ zs.length zs.length na (nz - na) (fun i => zs.getD (na + i) 0) w6 ?_ ?_ ?_ (by omega) (by omega) (by omega) (by omega) HA1.out HB1.out).mono ?_
  · omega
  · omega
  · omega
  rintro e w7 ⟨rfl, q, rfl⟩
  go_wp2_with fail
  refine (same_at _ _ _ W4.heap.size (5 + iz + nz) cap1 (5 + iz) _ (5 + ia + na) cap2 (5 + ia) na (fun i => ([] : List Int).getD i 0) (w6.drewN q) ?_ ?_ ?_ (by omega) (by omega) (by omega) (by omega) HA2.out HB2.out).mono ?_
  · omega
  · omega
  · omega
  rintro e w8 ⟨rfl, q2, rfl⟩
  go_wp2_with fail
  go_ret
  exact ⟨rfl, below_drewN B6 _⟩
end Go.Proofs.Qxb6626311a

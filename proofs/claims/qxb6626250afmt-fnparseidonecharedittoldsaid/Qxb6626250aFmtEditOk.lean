import Derived.Test.Qxb6626250aFmtEdit
namespace Go.Proofs.Qxb6626250aFmt
open Go.ChangeShapes Go.WideShapes Go.ChangeAt Go.RowKit
open Go.Extern.Stop Go.Stop Go.Extern Go.PlainAid

theorem arr_set (l : List Int) (i : Nat) (v : Int) : (arr l).setIfInBounds i (.int .u8 v) = arr (l.set i v) := by
  simp [arr, List.map_set]

set_option maxHeartbeats 4000000 in
theorem edit_ok (l : List Int) (hl : l.length = 20) (hb : ∀ i, i < 20 → 0 ≤ l.getD i 0 ∧ l.getD i 0 ≤ 255) (P : Nat) (hP : P < 40) (c : Int) (c0 : 0 ≤ c) (c1 : c ≤ 255) (hgood : hexB c = true) (Q : Nat) (hQ : Q < 20) (hPQ : P / 2 = Q) (w : World) :
    Calls Tryf.prog 4 #[.agg (arr l), .int .i64 P, .int .u8 c] w fun e w' => e = .returned (.bool true) ∧ Below w.heap.size w w' := by
  have h1 := arr_one l
  have i24 := size24' l hl
  have i23 := size23' l hl
  have eqs := eq_same l hl
  have z24 := zero24
  have u23 := Tryf.underlying23
  have u24 := Tryf.underlying24
  have HB : Hid (∀ i, i < 20 → 0 ≤ l.getD i 0 ∧ l.getD i 0 ≤ 255) := hb
  clear hb
  have hsz : (arr zl).size = (arr l).size := by rw [arr_size, arr_size, hl]; rfl
  go_enter Tryf.func4, Tryf.ntmps4
  go_wp2_with (first
    | refine wpList_load_arr 23 _ rfl rfl w.heap.size 0 rfl (arr l).toList _ (rangeAt_new w (arr l) 23) u23 rfl (by simpa using i23) ?_)
  refine (idStr l hl _ HB.out).mono ?_
  rintro e w1 ⟨rfl, b1⟩
  have r1 : w1.rangeAt w.heap.size 0 (arr l).toList := rangeAt_below (rangeAt_new w (arr l) 23) b1 (by simp)
  have z1 : w.heap.size < w1.heap.size := by have := b1.size; simp at this; omega
  have B1 : Below w.heap.size w w1 := ((Below.refl _ _).alloc (Nat.le_refl _) _).trans (b1.mono (by simp))
  clear b1
  have hS := hexs_size l
  go_wp2_with fail
  refine (parse_ok _ _ hS (fun j hj => by rw [bt_hexs HB.out j hj]; exact (hx_bd HB.out j hj).2.2)).mono ?_
  rintro e w2 ⟨rfl, b2⟩
  rw [dec_arr, db_hexs hl HB.out]
  have r2 := rangeAt_below r1 b2 z1
  have B2 := B1.trans (b2.mono B1.size)
  have z2 : w.heap.size < w2.heap.size := Nat.lt_of_lt_of_le z1 b2.size
  clear b2 r1 z1 B1
  obtain ⟨cap, u1, hconv, bu, zu, cu, fu⟩ := conv_bytes (hexs l) (w2.alloc (.cells (arr l) 24))
  rw [World.size_alloc] at hconv bu zu cu fu
  rw [hS] at hconv cu fu
  have hcu : ∀ i, i < 40 → (u1.setCell ⟨w2.heap.size + 1, P, none⟩ (.int .u8 c)).cell? ⟨w2.heap.size + 1, 0 + i, none⟩ = some (.int .u8 (((List.range 40).map (edit l P c)).getD i 0)) := fun i hi => by
    rw [getD_range _ hi, Nat.zero_add]
    by_cases e : i = P
    · subst e
      rw [World.cell?_setCell_same _ _ _ (cu i hi)]
      simp [edit]
    · rw [World.cell?_setCell_other _ _ _ _ (fun h => e (by injection h with _ h2 _; exact h2.symm)), cu i hi, bt_hexs HB.out i hi]
      simp [edit, e]
  have hcv := run_convert_bytes_arg (P := Tryf.prog) _ 31 5 Tryf.underlying31 Tryf.underlying5 (w2.heap.size + 1) 0 40 cap ((List.range 40).map (edit l P c)) (by simp) hcu 9 Tryf.underlying9
  change _ = Result.ok (Value.string (eds l P c)) _ at hcv
  have cP := cu P hP
  have fP := fu P hP
  have Bu : Below w.heap.size w (u1.setCell ⟨w2.heap.size + 1, P, none⟩ (.int .u8 c)) := ((B2.alloc B2.size _).trans (bu.mono (by omega))).setCell (show w.heap.size ≤ w2.heap.size + 1 by omega) _
  have ru : (u1.setCell ⟨w2.heap.size + 1, P, none⟩ (.int .u8 c)).rangeAt w.heap.size 0 (arr l).toList := fun j v hv => by
    rw [World.cell?_setCell_other _ _ _ _ (fun h => by injection h with h2 _ _; omega)]
    exact rangeAt_below (World.rangeAt_alloc r2 _) bu (by omega) j v hv
  have zu' : w.heap.size < (u1.setCell ⟨w2.heap.size + 1, P, none⟩ (.int .u8 c)).heap.size := by rw [World.size_setCell]; omega
  clear hcu cu fu bu
  go_wp2_with (first
    | refine wpList_alloc_arr 24 rfl rfl (arr zl) (z24 _) w2.heap.size rfl ?_
    | refine wpList_store_new 24 _ _ rfl rfl w2 (arr zl) (arr l) rfl w2.heap.size rfl rfl rfl i24 hsz h1 ?_
    | refine wpList_load_guarded 24 _ rfl rfl w2.heap.size 0 rfl (arr l).toList _ (rangeAt_new w2 (arr l) 24) u24 rfl (by simpa using i24) ?_
    | refine wpList_load_guarded 23 _ rfl rfl w.heap.size 0 rfl (arr l).toList _ (World.rangeAt_alloc r2 _) u23 rfl (by simpa using i23) ?_)
  have hz5 := eds_size l P c
  refine (parse_ok (eds l P c) _ hz5 ?hgd).mono ?_
  case hgd =>
    intro j hj
    rw [bt_eds HB.out P c c0 c1 j (by omega)]
    unfold edit
    split
    · exact hgood
    · exact (hx_bd HB.out j (by omega)).2.2
  rintro e w5 ⟨rfl, b5⟩
  rw [dec_arr, db_eds hl HB.out P hP c c0 c1, hPQ]
  have B5 := Bu.trans (b5.mono Bu.size)
  have r5 := rangeAt_below ru b5 zu'
  have z5 : w.heap.size < w5.heap.size := Nat.lt_of_lt_of_le zu' b5.size
  clear b5 Bu ru zu' hcv hconv cP fP zu hz5
  obtain ⟨n0, n1⟩ := nib_pos hgood
  obtain ⟨x0, x1⟩ := HB.out Q hQ
  have hat : (arr l)[Q]? = some (.int .u8 (l.getD Q 0)) := by
    rw [arr_at l Q (by omega)]; simp [List.getD, List.getElem?_eq_getElem (show Q < l.length by omega)]
  have hset := arr_set l Q (nby (l.getD Q 0) P (nib c))
  have hl5 : (l.set Q (nby (l.getD Q 0) P (nib c))).length = 20 := by simpa using hl
  have HN : Hid (nby (l.getD Q 0) P (nib c) = if P % 2 = 0 then nib c * 16 + l.getD Q 0 % 16 else l.getD Q 0 / 16 * 16 + nib c) := rfl
  have hq : (P : Int) / 2 = (Q : Int) := by omega
  generalize l.getD Q 0 = x at *
  generalize nby x P (nib c) = nb at *
  generalize l.set Q nb = l5 at *
  have ea := and15 x0 x1
  have eb := and240 x0 x1
  have j24 := size24' l5 hl5
  have j23 := size23' l5 hl5
  have k1 := arr_one l5
  have eq5 := eq_same l5 hl5
  have z23 := zero23
  have hsz5 : (arr zl).size = (arr l5).size := by rw [arr_size, arr_size, hl5]; rfl
  clear hgood eqs r2 B2 z2 hPQ
  generalize hv : nib c = v at *
  by_cases par : P % 2 = 0
  · have hr : ((P : Int) % 2 == 0) = true := by simp; omega
    have hor : bits .or .u8 (v * 16) (x % 16) = nb := by rw [or16 ⟨n0, n1⟩ (by omega), HN.out, if_pos par]
    clear HN par
    go_wp2_with (first
      | (go_at_call 7; refine (nibble _ _ c0 c1).mono ?_; rintro e w' ⟨rfl, rfl⟩)
      | refine wpList_alloc_arr 24 rfl rfl (arr zl) (z24 _) w5.heap.size rfl ?_
      | refine wpList_store_new 24 _ _ rfl rfl w5 (arr zl) (arr l5) rfl w5.heap.size rfl rfl rfl j24 hsz5 k1 ?_
      | refine wpList_load_arr 23 _ rfl rfl w.heap.size 0 rfl (arr l).toList _ (World.rangeAt_alloc r5 _) u23 rfl (by simpa using i23) ?_
      | refine wpList_alloc_arr 23 rfl rfl (arr zl) (z23 _) (w5.heap.size + 1) (by simp) ?_
      | refine wpList_store_new 23 _ _ rfl rfl (w5.alloc (.cells (arr l5) 24)) (arr zl) (arr l) rfl (w5.heap.size + 1) (by simp) rfl rfl i23 hsz h1 ?_
      | refine wpList_load_guarded 24 _ rfl rfl w5.heap.size 0 rfl (arr l5).toList _ (World.rangeAt_alloc (rangeAt_new w5 (arr l5) 24) _) u24 rfl (by simpa using j24) ?_
      | refine wpList_load_guarded 23 _ rfl rfl (w5.heap.size + 1) 0 rfl (arr l5).toList _ (rangeAt_second w5 _ (arr l5) 23) u23 rfl (by simpa using j23) ?_)
    go_ret
    exact ⟨rfl, (B5.alloc B5.size _).alloc (Nat.le_trans B5.size (by simp)) _⟩
  · have hr : ((P : Int) % 2 == 0) = false := by simp; omega
    have hor : bits .or .u8 (x / 16 * 16) v = nb := by rw [or16 (by omega) ⟨n0, n1⟩, HN.out, if_neg par]
    clear HN par
    go_wp2_with (first
      | (go_at_call 7; refine (nibble _ _ c0 c1).mono ?_; rintro e w' ⟨rfl, rfl⟩)
      | refine wpList_alloc_arr 24 rfl rfl (arr zl) (z24 _) w5.heap.size rfl ?_
      | refine wpList_store_new 24 _ _ rfl rfl w5 (arr zl) (arr l5) rfl w5.heap.size rfl rfl rfl j24 hsz5 k1 ?_
      | refine wpList_load_arr 23 _ rfl rfl w.heap.size 0 rfl (arr l).toList _ (World.rangeAt_alloc r5 _) u23 rfl (by simpa using i23) ?_
      | refine wpList_alloc_arr 23 rfl rfl (arr zl) (z23 _) (w5.heap.size + 1) (by simp) ?_
      | refine wpList_store_new 23 _ _ rfl rfl (w5.alloc (.cells (arr l5) 24)) (arr zl) (arr l) rfl (w5.heap.size + 1) (by simp) rfl rfl i23 hsz h1 ?_
      | refine wpList_load_guarded 24 _ rfl rfl w5.heap.size 0 rfl (arr l5).toList _ (World.rangeAt_alloc (rangeAt_new w5 (arr l5) 24) _) u24 rfl (by simpa using j24) ?_
      | refine wpList_load_guarded 23 _ rfl rfl (w5.heap.size + 1) 0 rfl (arr l5).toList _ (rangeAt_second w5 _ (arr l5) 23) u23 rfl (by simpa using j23) ?_)
    go_ret
    exact ⟨rfl, (B5.alloc B5.size _).alloc (Nat.le_trans B5.size (by simp)) _⟩
end Go.Proofs.Qxb6626250aFmt

import Derived.Test.Qxb6626250aFmtPlain
namespace Go.Proofs.Qxb6626250aFmt
open Go.ChangeShapes Go.WideShapes Go.ChangeAt Go.RowKit
open Go.Extern.Stop Go.Stop Go.Extern Go.PlainAid

set_option maxHeartbeats 1000000 in
theorem edit_out (l : List Int) (p c : Int) (w : World) (h : p < 0 ∨ 40 ≤ p) :
    Calls Tryf.prog 4 #[.agg (arr l), .int .i64 p, .int .u8 c] w fun e w' => e = .returned (.bool true) ∧ Below w.heap.size w w' := by
  rcases h with h | h
  · go_enter Tryf.func4, Tryf.ntmps4
    go_wp2_with fail
    go_ret
    exact ⟨rfl, (Below.refl _ _).alloc (Nat.le_refl _) _⟩
  · have h' : ¬ p < 0 := by omega
    go_enter Tryf.func4, Tryf.ntmps4
    go_wp2_with fail
    go_ret
    exact ⟨rfl, (Below.refl _ _).alloc (Nat.le_refl _) _⟩

theorem rangeAt_below {B : Nat} {w w' : World} {b o : Nat} {cs : List Value} (h : w.rangeAt b o cs) (hb : Below B w w') (hlt : b < B) : w'.rangeAt b o cs := fun j v hv => by
  rw [hb.cell (p := ⟨b, o + j, none⟩) hlt]
  exact h j v hv

set_option maxHeartbeats 4000000 in
theorem edit_bad (l : List Int) (hl : l.length = 20) (hb : ∀ i, i < 20 → 0 ≤ l.getD i 0 ∧ l.getD i 0 ≤ 255) (P : Nat) (hP : P < 40) (c : Int) (c0 : 0 ≤ c) (c1 : c ≤ 255) (hbad : hexB c = false) (w : World) :
    Calls Tryf.prog 4 #[.agg (arr l), .int .i64 P, .int .u8 c] w fun e w' => e = .returned (.bool true) ∧ Below w.heap.size w w' := by
  have h1 := arr_one l
  have i24 := size24' l hl
  have i23 := size23' l hl
  have eqs := eq_same l hl
  have z24 := zero24
  have u23 := Tryf.underlying23
  have u24 := Tryf.underlying24
  have HB : Hid (∀ i, i < 20 → 0 ≤ l.getD i 0 ∧ l.getD i 0 ≤ 255) := hb
  clear hb
  have hsz : (arr zl).size = (arr l).size := by rw [arr_size, arr_size, hl]; rfl
  go_enter Tryf.func4, Tryf.ntmps4
  go_wp2_with (first
    | refine wpList_load_arr 23 _ rfl rfl w.heap.size 0 rfl (arr l).toList _ (rangeAt_new w (arr l) 23) u23 rfl (by simpa using i23) ?_)
  refine (idStr l hl _ HB.out).mono ?_
  rintro e w1 ⟨rfl, b1⟩
  have r1 : w1.rangeAt w.heap.size 0 (arr l).toList := rangeAt_below (rangeAt_new w (arr l) 23) b1 (by simp)
  have z1 : w.heap.size < w1.heap.size := by have := b1.size; simp at this; omega
  have B1 : Below w.heap.size w w1 := ((Below.refl _ _).alloc (Nat.le_refl _) _).trans (b1.mono (by simp))
  clear b1
  have hS := hexs_size l
  go_wp2_with fail
  refine (parse_ok _ _ hS (fun j hj => by rw [bt_hexs HB.out j hj]; exact (hx_bd HB.out j hj).2.2)).mono ?_
  rintro e w2 ⟨rfl, b2⟩
  rw [dec_arr, db_hexs hl HB.out]
  have r2 := rangeAt_below r1 b2 z1
  have B2 := B1.trans (b2.mono B1.size)
  have z2 : w.heap.size < w2.heap.size := Nat.lt_of_lt_of_le z1 b2.size
  clear b2 r1 z1 B1
  obtain ⟨cap, u1, hconv, bu, zu, cu, fu⟩ := conv_bytes (hexs l) (w2.alloc (.cells (arr l) 24))
  rw [World.size_alloc] at hconv bu zu cu fu
  rw [hS] at hconv cu fu
  have hcu : ∀ i, i < 40 → (u1.setCell ⟨w2.heap.size + 1, P, none⟩ (.int .u8 c)).cell? ⟨w2.heap.size + 1, 0 + i, none⟩ = some (.int .u8 (((List.range 40).map (edit l P c)).getD i 0)) := fun i hi => by
    rw [getD_range _ hi, Nat.zero_add]
    by_cases e : i = P
    · subst e
      rw [World.cell?_setCell_same _ _ _ (cu i hi)]
      simp [edit]
    · rw [World.cell?_setCell_other _ _ _ _ (fun h => e (by injection h with _ h2 _; exact h2.symm)), cu i hi, bt_hexs HB.out i hi]
      simp [edit, e]
  have hcv := run_convert_bytes_arg (P := Tryf.prog) _ 31 5 Tryf.underlying31 Tryf.underlying5 (w2.heap.size + 1) 0 40 cap ((List.range 40).map (edit l P c)) (by simp) hcu 9 Tryf.underlying9
  change _ = Result.ok (Value.string (eds l P c)) _ at hcv
  have cP := cu P hP
  have fP := fu P hP
  have Bu : Below w.heap.size w (u1.setCell ⟨w2.heap.size + 1, P, none⟩ (.int .u8 c)) := ((B2.alloc B2.size _).trans (bu.mono (by omega))).setCell (show w.heap.size ≤ w2.heap.size + 1 by omega) _
  have ru : (u1.setCell ⟨w2.heap.size + 1, P, none⟩ (.int .u8 c)).rangeAt w.heap.size 0 (arr l).toList := fun j v hv => by
    rw [World.cell?_setCell_other _ _ _ _ (fun h => by injection h with h2 _ _; omega)]
    exact rangeAt_below (World.rangeAt_alloc r2 _) bu (by omega) j v hv
  have zu' : w.heap.size < (u1.setCell ⟨w2.heap.size + 1, P, none⟩ (.int .u8 c)).heap.size := by rw [World.size_setCell]; omega
  clear hcu cu fu bu
  go_wp2_with (first
    | refine wpList_alloc_arr 24 rfl rfl (arr zl) (z24 _) w2.heap.size rfl ?_
    | refine wpList_store_new 24 _ _ rfl rfl w2 (arr zl) (arr l) rfl w2.heap.size rfl rfl rfl i24 hsz h1 ?_
    | refine wpList_load_guarded 24 _ rfl rfl w2.heap.size 0 rfl (arr l).toList _ (rangeAt_new w2 (arr l) 24) u24 rfl (by simpa using i24) ?_
    | refine wpList_load_guarded 23 _ rfl rfl w.heap.size 0 rfl (arr l).toList _ (World.rangeAt_alloc r2 _) u23 rfl (by simpa using i23) ?_)
  have hz5 := eds_size l P c
  refine (parse_bad (eds l P c) _ hz5 P hP ?hbd ?hgd).mono ?_
  case hbd => rw [bt_eds HB.out P c c0 c1 P hP]; simpa [edit] using hbad
  case hgd =>
    intro j hj
    rw [bt_eds HB.out P c c0 c1 j (by omega)]
    unfold edit
    rw [if_neg (by omega)]
    exact (hx_bd HB.out j (by omega)).2.2
  rintro e w5 ⟨q, rfl, b5⟩
  rw [Z20_arr]
  have B5 := Bu.trans (b5.mono Bu.size)
  clear b5 Bu ru zu' hcv hconv cP fP zu hz5
  have hneg := nib_neg hbad
  have eqz := eq_same zl zl_length
  have d23 := build23
  have j24 := size24' zl zl_length
  have k1 := arr_one zl
  clear hbad
  go_wp2_with (first
    | (go_at_call 7; refine (nibble _ _ c0 c1).mono ?_; rintro e w' ⟨rfl, rfl⟩)
    | refine wpList_alloc_arr 24 rfl rfl (arr zl) (z24 _) w5.heap.size rfl ?_
    | refine wpList_store_new 24 _ _ rfl rfl w5 (arr zl) (arr zl) rfl w5.heap.size rfl rfl rfl j24 rfl k1 ?_
    | refine wpList_build_none 23 rfl rfl (.agg (arr zl)) (d23 _) ?_
    | refine wpList_load_guarded 24 _ rfl rfl w5.heap.size 0 rfl (arr zl).toList _ (rangeAt_new w5 (arr zl) 24) u24 rfl (by simpa using j24) ?_)
  go_ret
  exact ⟨rfl, B5.alloc B5.size _⟩
end Go.Proofs.Qxb6626250aFmt

import Derived.Test.Qxb6626250aFmtArr
namespace Go.Proofs.Qxb6626250aFmt
open Go.ChangeShapes Go.WideShapes Go.ChangeAt Go.RowKit
open Go.Extern.Stop Go.Stop Go.Extern Go.PlainAid

set_option maxHeartbeats 400000 in
theorem bytes5 (s : ByteArray) (w : World) (hn : s.size ≤ 2 ^ 63 - 1) : Calls Tryf.prog 5 #[.string s] w fun e w' => ∃ t, e = .returned (.bool t) ∧ w = w' := by
  by_cases h1 : s.size ≤ 1048576
  · go_enter Tryf.func5, Tryf.ntmps5
    go_wp2
    all_goals (go_ret; exact ⟨_, rfl, rfl⟩)
  · go_enter Tryf.func5, Tryf.ntmps5
    go_wp2
    all_goals (go_ret; exact ⟨_, rfl, rfl⟩)

set_option maxHeartbeats 1000000 in
theorem nib_long (s : ByteArray) (w : World) (hn : s.size ≤ 2 ^ 63 - 1) (h : 1048576 < s.size) : Calls Tryf.prog 3 #[.string s] w fun e w' => e = .returned (.bool true) ∧ Below w.heap.size w w' := by
  go_enter Tryf.func3, Tryf.ntmps3
  go_wp2_with fail
  refine (bytes5 _ _ hn).mono ?_
  rintro e w' ⟨t, rfl, rfl⟩
  cases t
  · go_wp2_with fail
    go_ret
    exact ⟨rfl, Below.refl _ _⟩
  go_wp2_with fail
  go_ret
  exact ⟨rfl, Below.refl _ _⟩

theorem rangeAt_second (w : World) (o : Obj) (c : Array Value) (t : TypeId) : ((w.alloc o).alloc (.cells c t)).rangeAt (w.heap.size + 1) 0 c.toList := by
  have := rangeAt_new (w.alloc o) c t
  rwa [World.size_alloc] at this

set_option maxHeartbeats 2000000 in
theorem nib_len (s : ByteArray) (w : World) (h : s.size ≤ 1048576) (hne : s.size ≠ 40) : Calls Tryf.prog 3 #[.string s] w fun e w' => e = .returned (.bool true) ∧ Below w.heap.size w w' := by
  have h40 : ((s.size : Int) == 40) = false := by simp; omega
  go_enter Tryf.func3, Tryf.ntmps3
  go_wp2_with fail
  refine (bytes5 _ _ (by omega)).mono ?_
  rintro e w' ⟨t, rfl, rfl⟩
  cases t
  · go_wp2_with fail
    go_ret
    exact ⟨rfl, Below.refl _ _⟩
  go_wp2_with fail
  refine (parse_len _ _ (by omega) hne).mono ?_
  rintro e w1 ⟨p, rfl, b1⟩
  rw [Z20_arr]
  have hl := zl_length
  have eqz := eq_same zl zl_length
  have z24 := zero24
  have z23 := zero23
  have d23 := build23
  have ha := arr_size zl
  have h1 := arr_one zl
  have i24 := size24' zl zl_length
  have i23 := size23' zl zl_length
  generalize zl = l at *
  go_wp2_with (first
    | refine wpList_alloc_arr 24 rfl rfl (arr l) (z24 _) w1.heap.size rfl ?_
    | refine wpList_alloc_arr 23 rfl rfl (arr l) (z23 _) (w1.heap.size + 1) (by simp) ?_
    | refine wpList_build_none 23 rfl rfl (.agg (arr l)) (d23 _) ?_
    | refine wpList_store_new 24 _ _ rfl rfl w1 (arr l) (arr l) rfl w1.heap.size rfl rfl rfl i24 rfl h1 ?_
    | refine wpList_store_new 23 _ _ rfl rfl (w1.alloc (.cells (arr l) 24)) (arr l) (arr l) rfl (w1.heap.size + 1) (by simp) rfl rfl i23 rfl h1 ?_
    | refine wpList_load_arr 24 _ rfl rfl w1.heap.size 0 rfl (arr l).toList _ (rangeAt_new w1 (arr l) 24) Tryf.underlying24 rfl (by simpa using i24) ?_
    | refine wpList_load_guarded 23 _ rfl rfl (w1.heap.size + 1) 0 rfl (arr l).toList _ (rangeAt_second w1 _ (arr l) 23) Tryf.underlying23 rfl (by simpa using i23) ?_)
  go_ret
  exact ⟨rfl, (b1.alloc b1.size _).alloc (Nat.le_trans b1.size (by simp)) _⟩

set_option maxHeartbeats 4000000 in
theorem nib_bad (s : ByteArray) (w : World) (hs : s.size = 40) (m : Nat) (hm : m < 40) (hbad : hexB (bt s m) = false) (hgood : ∀ j, j < m → hexB (bt s j) = true) :
    Calls Tryf.prog 3 #[.string s] w fun e w' => e = .returned (.bool true) ∧ Below w.heap.size w w' := by
  have gb := get_bt s
  go_enter Tryf.func3, Tryf.ntmps3
  go_wp2_with fail
  refine (bytes5 _ _ (by omega)).mono ?_
  rintro e w' ⟨t, rfl, rfl⟩
  cases t
  · go_wp2_with fail
    go_ret
    exact ⟨rfl, Below.refl _ _⟩
  go_wp2_with fail
  refine (parse_bad _ _ hs m hm hbad hgood).mono ?_
  rintro e w1 ⟨p, rfl, b1⟩
  rw [Z20_arr]
  have hl := zl_length
  have eqz := eq_same zl zl_length
  have z24 := zero24
  have z23 := zero23
  have d23 := build23
  have h1 := arr_one zl
  have i24 := size24' zl zl_length
  have i23 := size23' zl zl_length
  generalize zl = l at *
  have HG : Hid (∀ j, j < m → hexB (bt s j) = true) := hgood
  have hneg := nib_neg hbad
  clear hgood hbad
  go_wp2_with (first
    | refine wpList_alloc_arr 24 rfl rfl (arr l) (z24 _) w1.heap.size rfl ?_
    | refine wpList_alloc_arr 23 rfl rfl (arr l) (z23 _) (w1.heap.size + 1) (by simp) ?_
    | refine wpList_store_new 24 _ _ rfl rfl w1 (arr l) (arr l) rfl w1.heap.size rfl rfl rfl i24 rfl h1 ?_
    | refine wpList_store_new 23 _ _ rfl rfl (w1.alloc (.cells (arr l) 24)) (arr l) (arr l) rfl (w1.heap.size + 1) (by simp) rfl rfl i23 rfl h1 ?_
    | refine wpList_load_arr 24 _ rfl rfl w1.heap.size 0 rfl (arr l).toList _ (rangeAt_new w1 (arr l) 24) Tryf.underlying24 rfl (by simpa using i24) ?_)
  go_loop [6, 7] (fun ok i => ∃ k : Nat, k ≤ m ∧ i = .int .i64 k ∧ ok = .bool true) (fun _ i => 40 - (intOf i).toNat)
  case atStart => exact ⟨0, Nat.zero_le _, rfl, rfl⟩
  case round =>
    obtain ⟨k, hk, rfl, rfl⟩ := hrel
    have hk40 : k < 40 := by omega
    by_cases hlt : k < m
    · have hp := (nib_pos (HG.out k hlt)).1
      go_wp2_with (go_at_call 7; refine (nibble _ _ (bt_nonneg s _) (bt_le s _)).mono ?_; rintro e w' ⟨rfl, rfl⟩)
      go_round
      case rel => exact ⟨k + 1, by omega, by go_num, rfl⟩
      case measure => simp [intOf]; omega
    · have hkm : k = m := by omega
      subst hkm
      go_wp2_with (first
        | (go_at_call 7; refine (nibble _ _ (bt_nonneg s _) (bt_le s _)).mono ?_; rintro e w' ⟨rfl, rfl⟩)
        | refine wpList_build_none 23 rfl rfl (.agg (arr l)) (d23 _) ?_
        | refine wpList_load_guarded 23 _ rfl rfl (w1.heap.size + 1) 0 rfl (arr l).toList _ (rangeAt_second w1 _ (arr l) 23) Tryf.underlying23 rfl (by simpa using i23) ?_)
      go_ret
      exact ⟨rfl, (b1.alloc b1.size _).alloc (Nat.le_trans b1.size (by simp)) _⟩
end Go.Proofs.Qxb6626250aFmt

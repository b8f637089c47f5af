import Derived.Test.Qxb6626250aFmtNib
namespace Go.Proofs.Qxb6626250aFmt
open Go.ChangeShapes Go.WideShapes Go.ChangeAt Go.RowKit
open Go.Extern.Stop Go.Stop Go.Extern Go.PlainAid

theorem dec_list (x : Nat → Int) : dec x 20 = (arr (db x)).toList := by rw [← dec_arr]
theorem rangeAt_drewN {w : World} {b o : Nat} {cs : List Value} (h : w.rangeAt b o cs) (n : Nat) : (w.drewN n).rangeAt b o cs := h
theorem there_drewN {w : World} {b o n : Nat} (h : w.there b o n) (m : Nat) : (w.drewN m).there b o n := h
theorem setCell_drewN (w : World) (n : Nat) (a : Addr) (v : Value) : (w.drewN n).setCell a v = (w.setCell a v).drewN n := rfl

theorem step8 {U wr : World} {b n k : Nat} {x : Nat → Int} (h : wr = (U.setCells b 0 (dec x k)).drewN n) :
    (wr.setCell ⟨b, k, none⟩ (.int .u8 (nib (x (2 * k)) * 16 + nib (x (2 * k + 1))))).drew = (U.setCells b 0 (dec x (k + 1))).drewN (n + 1) := by
  rw [dec_succ, setCells_snoc, dec_length, Nat.zero_add, h, setCell_drewN]
  rfl

theorem index_at (s : ByteArray) (i : Int) (n : Nat) (hi : i = n) (hn : n < s.size) (w : World) : (Instr.index 9 (.string s) (.int .i64 i)).run Tryf.prog w = .ok (.int .u8 (bt s n)) w := by
  subst hi
  rw [run_index_string w 9 s .i64 n Tryf.underlying9, dif_pos ⟨by omega, by omega⟩]
  have h := get_bt s n hn
  simp only [Int.toNat_natCast]
  rw [h]

set_option maxHeartbeats 4000000 in
theorem nib_ok (s : ByteArray) (w : World) (hs : s.size = 40) (hgood : ∀ j, j < 40 → hexB (bt s j) = true) :
    Calls Tryf.prog 3 #[.string s] w fun e w' => e = .returned (.bool true) ∧ Below w.heap.size w w' := by
  have gb := get_bt s
  go_enter Tryf.func3, Tryf.ntmps3
  go_wp2_with fail
  refine (bytes5 _ _ (by omega)).mono ?_
  rintro e w' ⟨t, rfl, rfl⟩
  cases t
  · go_wp2_with fail
    go_ret
    exact ⟨rfl, Below.refl _ _⟩
  go_wp2_with fail
  refine (parse_ok _ _ hs hgood).mono ?_
  rintro e w1 ⟨rfl, b1⟩
  rw [dec_arr]
  have hl := zl_length
  have z24 := zero24
  have z23 := zero23
  have eqz := eq_same (db (bt s)) (db_length _)
  have h1 := arr_one (db (bt s))
  have i24 := size24' (db (bt s)) (db_length _)
  have i23 := size23' (db (bt s)) (db_length _)
  have HD : Hid (dec (bt s) 20 = (arr (db (bt s))).toList) := dec_list _
  have hsz : (arr zl).size = (arr (db (bt s))).size := by rw [arr_size, arr_size, db_length]; rfl
  have hth : ∀ u : World, (u.alloc (.cells (arr zl) 23)).there u.heap.size 0 20 := fun u => there_new u _ 23 20 (by rw [arr_size]; rfl)
  generalize hd : db (bt s) = D at *
  clear hd
  generalize zl = l at *
  have HG : Hid (∀ j, j < 40 → hexB (bt s j) = true) := hgood
  clear hgood
  go_wp2_with (first
    | refine wpList_alloc_arr 24 rfl rfl (arr l) (z24 _) w1.heap.size rfl ?_
    | refine wpList_alloc_arr 23 rfl rfl (arr l) (z23 _) (w1.heap.size + 1) (by simp) ?_
    | refine wpList_store_new 24 _ _ rfl rfl w1 (arr l) (arr D) rfl w1.heap.size rfl rfl rfl i24 hsz h1 ?_
    | refine wpList_store_new 23 _ _ rfl rfl (w1.alloc (.cells (arr D) 24)) (arr l) (arr D) rfl (w1.heap.size + 1) (by simp) rfl rfl i23 hsz h1 ?_
    | refine wpList_load_arr 24 _ rfl rfl w1.heap.size 0 rfl (arr D).toList _ (rangeAt_new w1 (arr D) 24) Tryf.underlying24 rfl (by simpa using i24) ?_)
  go_loop [6, 7] (fun ok i => ∃ k : Nat, k ≤ 40 ∧ i = .int .i64 k ∧ ok = .bool true) (fun _ i => 40 - (intOf i).toNat)
  case atStart => exact ⟨0, Nat.zero_le _, rfl, rfl⟩
  case round =>
    obtain ⟨k, hk, rfl, rfl⟩ := hrel
    by_cases hlt : k < 40
    · have hp := (nib_pos (HG.out k hlt)).1
      go_wp2_with (go_at_call 7; refine (nibble _ _ (bt_nonneg s _) (bt_le s _)).mono ?_; rintro e w' ⟨rfl, rfl⟩)
      go_round
      case rel => exact ⟨k + 1, by omega, by go_num, rfl⟩
      case measure => simp [intOf]; omega
    · have hkm : k = 40 := by omega
      subst hkm
      go_wp2_with (first
        | refine wpList_alloc_arr 23 rfl rfl (arr l) (z23 _) (w1.heap.size + 1 + 1) (by simp) ?_)
      have hU1 : (((w1.alloc (.cells (arr D) 24)).alloc (.cells (arr D) 23)).alloc (.cells (arr l) 23)).there (w1.heap.size + 1 + 1) 0 20 := by
        have := hth ((w1.alloc (.cells (arr D) 24)).alloc (.cells (arr D) 23)); simpa using this
      have hU2 : (((w1.alloc (.cells (arr D) 24)).alloc (.cells (arr D) 23)).alloc (.cells (arr l) 23)).rangeAt (w1.heap.size + 1) 0 (arr D).toList := World.rangeAt_alloc (rangeAt_second w1 _ (arr D) 23) _
      have hU3 : Below w.heap.size w (((w1.alloc (.cells (arr D) 24)).alloc (.cells (arr D) 23)).alloc (.cells (arr l) 23)) :=
        ((b1.alloc b1.size _).alloc (Nat.le_trans b1.size (by simp)) _).alloc (Nat.le_trans b1.size (by simp; omega)) _
      have hB : w.heap.size ≤ w1.heap.size := b1.size
      generalize ((w1.alloc (.cells (arr D) 24)).alloc (.cells (arr D) 23)).alloc (.cells (arr l) 23) = U at *
      generalize hb8 : w1.heap.size + 1 + 1 = b8 at *
      generalize hb5 : w1.heap.size + 1 = b5 at *
      have H8 : Hid (b5 ≠ b8 ∧ w.heap.size ≤ b8) := ⟨by omega, by omega⟩
      clear hb8 hb5 hB b1 hth z24 z23 hsz
      go_loopw [9] (fun i wr => ∃ k n : Nat, k ≤ 20 ∧ i = .int .i64 k ∧ wr = (U.setCells b8 0 (dec (bt s) k)).drewN n) (fun i _ => 20 - (intOf i).toNat)
      case atStart => exact ⟨0, 0, by omega, rfl, rfl⟩
      case round =>
        obtain ⟨k, n, hk20, rfl, hwr⟩ := hrel
        by_cases hlt2 : k < 20
        · have ht := there_drewN (World.there_setCells hU1 b8 0 (dec (bt s) k)) n
          rw [← hwr] at ht
          obtain ⟨f0, f1⟩ := ht k hlt2
          rw [Nat.zero_add] at f0 f1
          obtain ⟨old, f0⟩ := Option.isSome_iff_exists.1 f0
          have n0 := nib_pos (HG.out (2 * k) (by omega))
          have n1 := nib_pos (HG.out (2 * k + 1) (by omega))
          have H : Hid (wr = (U.setCells b8 0 (dec (bt s) k)).drewN n) := hwr
          clear hwr ht hU1 hU2 hU3
          have ix0 := index_at s (2 * (k : Int)) (2 * k) (by omega) (by omega)
          have ix1 := index_at s (2 * (k : Int) + 1) (2 * k + 1) (by omega) (by omega)
          have e0 : IntKind.i64.wrap (2 * (k : Int)) = 2 * (k : Int) := by rw [IntKind.wrap_i64]; omega
          have e1 : IntKind.i64.wrap (2 * (k : Int) + 1) = 2 * (k : Int) + 1 := by rw [IntKind.wrap_i64]; omega
          have e2 : IntKind.i64.wrap (nib (bt s (2 * k)) * 16) = nib (bt s (2 * k)) * 16 := by rw [IntKind.wrap_i64]; omega
          have e3 : IntKind.i64.wrap (nib (bt s (2 * k)) * 16 + nib (bt s (2 * k + 1))) = nib (bt s (2 * k)) * 16 + nib (bt s (2 * k + 1)) := by rw [IntKind.wrap_i64]; omega
          have e4 : IntKind.u8.wrap (nib (bt s (2 * k)) * 16 + nib (bt s (2 * k + 1))) = nib (bt s (2 * k)) * 16 + nib (bt s (2 * k + 1)) := by rw [IntKind.wrap_u8]; omega
          go_wp2
          go_region_with (go_at_call 7; refine (nibble _ _ (bt_nonneg s _) (bt_le s _)).mono ?_; rintro e w' ⟨rfl, rfl⟩)
          all_goals go_wp2
          all_goals
            go_roundw
            case rel => exact ⟨k + 1, n + 1, by omega, by go_num, step8 H.out⟩
            case measure => simp [intOf]; omega
        · have hk2 : k = 20 := by omega
          subst hk2
          have r8 : wr.rangeAt b8 0 (arr D).toList := by
            rw [hwr, ← HD.out]; exact rangeAt_drewN (World.rangeAt_setCells_same _ b8 0 _ (by rw [dec_length]; exact hU1)) n
          have r5 : wr.rangeAt b5 0 (arr D).toList := by
            rw [hwr]; exact rangeAt_drewN (World.rangeAt_setCells_apart hU2 b8 0 _ (.inl H8.out.1)) n
          have bw : Below w.heap.size w wr := by
            rw [hwr]; exact below_drewN (below_setCells _ _ _ _ hU3 H8.out.2) n
          clear hwr hU1 hU2 hU3
          go_wp2_with (first
            | refine wpList_load_guarded 23 _ rfl rfl b5 0 rfl (arr D).toList _ r5 Tryf.underlying23 rfl (by simpa using i23) ?_
            | refine wpList_load_guarded 23 _ rfl rfl b8 0 rfl (arr D).toList _ r8 Tryf.underlying23 rfl (by simpa using i23) ?_)
          go_ret
          exact ⟨rfl, bw⟩
end Go.Proofs.Qxb6626250aFmt

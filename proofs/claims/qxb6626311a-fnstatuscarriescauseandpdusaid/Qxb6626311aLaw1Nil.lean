import Derived.Test.Qxb6626311aLaw1Base
import Derived.Test.Qxb6626311aCopy
import Derived.WalkSpells
namespace Go.Proofs.Qxb6626311a
open Go.ChangeShapes Go.WideShapes Go.ChangeAt Go.RowKit

set_option maxRecDepth 100000 in
set_option maxHeartbeats 4000000 in
theorem law1_nil (cause other : Int) (w : World)  :
    Calls Try.prog 3 #[.int .u8 cause, .int .u8 other, .slice none 0 0] w fun e w' => e = .returned (.bool true) ∧ Below w.heap.size w w' := by
  have hne := fun w => run_neq_slice_nil_any (P := Try.prog) w 22 5 none 0 0 0 0 Try.underlying22
  have hsl : Sl w none [] := .inl ⟨rfl, rfl⟩
  have hsh : min ([] : List Int).length 32767 < 128 := by simp
  go_enter Try.func3, Try.ntmps3
  go_wp2_with fail
  refine (bytes5 _ _ _ _ _ _ (by omega)).mono ?_
  rintro e w' ⟨t, rfl, rfl⟩
  cases t
  · go_wp2_with fail
    go_ret
    exact ⟨rfl, Below.refl _ _⟩
  go_wp2_with fail
  have B1 : Below w.heap.size w w := Below.refl _ _
  refine (status cause none 0 [] w hsl (.inl rfl) (by simp) (by simp) (by omega)).mono ?_
  rintro e w2 ⟨cap1, rfl, hcap1, r1, b2⟩
  have hsl2 : Sl w2 none [] := .inl ⟨rfl, rfl⟩
  have B2 : Below w.heap.size w w2 := B1.trans (b2.mono B1.size)
  have zz : w.heap.size < w2.heap.size := World.block_lt_of_cell? w2 ⟨w.heap.size, 0, none⟩ (cell_of_range r1 0 (by rw [st_length]; split <;> omega))
  go_wp2_with fail
  refine (status other none 0 [] w2 hsl2 (.inl rfl) (Nat.le_refl _) (by simp) (by omega)).mono ?_
  rintro e w3 ⟨cap2, rfl, hcap2, r2, b3⟩
  have B3 : Below w.heap.size w w3 := B2.trans (b3.mono B2.size)
  have r1' := rangeAt_below r1 b3 zz
  have hsl3 : Sl w3 none [] := .inl ⟨rfl, rfl⟩
  clear hsl hsl2 r1 B1 B2
  obtain ⟨m, hm⟩ : ∃ m, m = min ([] : List Int).length 32767 := ⟨_, rfl⟩
  have hm0 : m = 0 := by rw [hm]; simp
  have hm32 : m ≤ 32767 := by omega
  have hmX : m ≤ ([] : List Int).length := by rw [hm0]; exact Nat.zero_le _
  have hLs : (st cause []).length = 6 + m := by rw [st_length, if_pos hsh, hm]
  have hLt : (st other []).length = 6 + m := by rw [st_length, if_pos hsh, hm]
  rw [hLs] at hcap1
  rw [hLt] at hcap2
  rw [hLs, hLt]
  obtain ⟨g0, g1, g2, g3, g4⟩ := st_head cause []
  have c0 := cell_of_range r1' 0 (by omega)
  have c1 := cell_of_range r1' 1 (by omega)
  have c2 := cell_of_range r1' 2 (by omega)
  have c3 := cell_of_range r1' 3 (by omega)
  have c4 := cell_of_range r1' 4 (by omega)
  have c5 := cell_of_range r1' 5 (by omega)
  rw [g0] at c0
  rw [g1] at c1
  rw [g2] at c2
  rw [g3] at c3
  rw [g4] at c4
  obtain ⟨g5, g6⟩ := st_short cause [] hsh
  rw [g5, ← hm] at c5
  have hdat : ∀ i, i < m → w3.cell? ⟨w.heap.size, 6 + i, none⟩ = some (.int .u8 (([] : List Int).getD i 0)) := fun i hi => by
    rw [cell_of_range r1' (6 + i) (by omega), g6 i (by omega)]
  have hpdu : m = 0 ∨ ∃ bb, (none : Option Addr) = some (⟨bb, 0, none⟩ : Addr) ∧ ∀ i, i < m → w3.cell? ⟨bb, 0 + i, none⟩ = some (.int .u8 (([] : List Int).getD i 0)) := .inl (by omega)
  have HC : Hid ((∀ k, k < 6 + m → w3.cell? ⟨w.heap.size, k, none⟩ = some (.int .u8 ((st cause []).getD k 0))) ∧ (∀ k, k < 6 + m → k ≠ 3 → w3.cell? ⟨w2.heap.size, k, none⟩ = some (.int .u8 ((st cause []).getD k 0))) ∧ w3.cell? ⟨w2.heap.size, 3, none⟩ = some (.int .u8 other)) :=
    ⟨fun k hk => cell_of_range r1' k (by omega), fun k hk h3 => by rw [cell_of_range r2 k (by omega), st_other cause other [] k h3], by rw [cell_of_range r2 3 (by omega), (st_head other []).2.2.2.1]⟩
  have HM : Hid (m = min ([] : List Int).length 32767) := hm
  have hm128 : m < 128 := by omega
  have HZ : Hid (m = 0) := hm0
  clear hm0
  clear r1' r2 g0 g1 g2 g3 g4 g5 g6 hLs hLt hm hsl3 hsh
  go_wp2_with fail
  refine (carried 0 w3 (by omega)).mono ?_
  rintro e w' ⟨rfl, rfl⟩
  rw [show min 0 32767 = m from HM.out.symm]
  go_wp2_with fail
  refine (readIE_short w.heap.size (6 + m) cap1 1 1 7 w3 (by omega) (by omega) (by omega) c1 (by simpa using c2)).mono ?_
  rintro e w' ⟨rfl, rfl⟩
  go_wp2_with fail
  refine (readIE_short w.heap.size (6 + m) cap1 4 m 21 w3 (by omega) hm128 (by omega) c4 c5).mono ?_
  rintro e w' ⟨rfl, rfl⟩
  go_wp2_with fail
  · rename_i hh; simp at hh; omega
  refine (same w.heap.size (6 + m) cap1 6 none 0 0 0 m (fun i => ([] : List Int).getD i 0) w3 (by omega) (by have := HZ.out; omega) (by omega) (by omega) hdat hpdu).mono ?_
  rintro e w4 ⟨rfl, q, rfl⟩
  clear hdat hpdu c0 c1 c2 c3 c4 c5 
  go_wp2_with fail
  go_loopw [24] (fun i wr => ∃ k q : Nat, k ≤ 6 + m ∧ i = .int .i64 k ∧ wr = w3.drewN q) (fun i _ => 6 + m - (intOf i).toNat)
  case atStart => exact ⟨0, q, by omega, rfl, rfl⟩
  case round =>
    obtain ⟨k, q', hk, rfl, rfl⟩ := hrel
    by_cases hlt : k < 6 + m
    · by_cases h3 : k = 3
      · subst h3
        have ct := HC.out.2.2
        go_wp2
        go_roundw
        case rel => exact ⟨4, q', by omega, rfl, rfl⟩
        case measure => simp [intOf]; omega
      · have hk3 : ((k : Int) == 3) = false := by simp; omega
        have ca := HC.out.1 k hlt
        have ct := HC.out.2.1 k hlt h3
        clear h3
        generalize (st cause []).getD k 0 = vv at *
        go_wp2
        go_quiet (fail)
        go_wp2
        go_roundw
        case rel => exact ⟨k + 1, q' + nq, by omega, by go_num, rfl⟩
        case measure => simp [intOf]; omega
    · go_wp2
      go_ret
      exact ⟨rfl, below_drewN B3 _⟩

end Go.Proofs.Qxb6626311a

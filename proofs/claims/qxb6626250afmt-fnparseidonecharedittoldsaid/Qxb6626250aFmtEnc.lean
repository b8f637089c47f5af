import Derived.Test.Qxb6626250aFmtNibOk
import Derived.Laws.BytesArg
namespace Go.Proofs.Qxb6626250aFmt
open Go.ChangeShapes Go.WideShapes Go.ChangeAt Go.RowKit
open Go.Extern.Stop Go.Stop Go.Extern Go.PlainAid

/-- The digit of a nibble. -/
def hd (n : Int) : Int := if n < 10 then 48 + n else 87 + n
def htab : ByteArray := ⟨#[48, 49, 50, 51, 52, 53, 54, 55, 56, 57, 97, 98, 99, 100, 101, 102]⟩

theorem htab_hd {n : Int} (h0 : 0 ≤ n) (h1 : n ≤ 15) : ∀ h : n.toNat < htab.size, ((htab[n.toNat]'h).toNat : Int) = hd n := by
  have h16 : n = 0 ∨ n = 1 ∨ n = 2 ∨ n = 3 ∨ n = 4 ∨ n = 5 ∨ n = 6 ∨ n = 7 ∨ n = 8 ∨ n = 9 ∨ n = 10 ∨ n = 11 ∨ n = 12 ∨ n = 13 ∨ n = 14 ∨ n = 15 := by omega
  rcases h16 with rfl | rfl | rfl | rfl | rfl | rfl | rfl | rfl | rfl | rfl | rfl | rfl | rfl | rfl | rfl | rfl
  all_goals (intro h; rfl)
theorem hexB_hd {n : Int} (h0 : 0 ≤ n) (h1 : n ≤ 15) : hexB (hd n) = true := by
  rw [hexB_iff]; unfold hd; split <;> omega
theorem nib_hd {n : Int} (h0 : 0 ≤ n) (h1 : n ≤ 15) : nib (hd n) = n := by
  unfold nib hd; split <;> split <;> (try split) <;> omega
theorem and15 {v : Int} (h0 : 0 ≤ v) (h1 : v ≤ 255) : bits .and .u8 v 15 = v % 16 := by
  obtain ⟨m, rfl⟩ := Int.eq_ofNat_of_zero_le h0
  have h := bits_and_u8_nat m 15 (by omega) (by omega)
  have e : m &&& 15 = m % 16 := Nat.and_two_pow_sub_one_eq_mod m 4
  rw [e] at h
  exact h.trans (by omega)

/-- Character i of an id's text. -/
def hx (l : List Int) (i : Nat) : Int := if i % 2 = 0 then hd (l.getD (i / 2) 0 / 16) else hd (l.getD (i / 2) 0 % 16)
def enc (l : List Int) (k : Nat) : List Value := (List.range (2 * k)).map fun i => .int .u8 (hx l i)
theorem enc_succ (l : List Int) (k : Nat) : enc l (k + 1) = enc l k ++ [.int .u8 (hd (l.getD k 0 / 16))] ++ [.int .u8 (hd (l.getD k 0 % 16))] := by
  have e0 : hx l (2 * k) = hd (l.getD k 0 / 16) := by unfold hx; rw [if_pos (by omega), show 2 * k / 2 = k by omega]
  have e1 : hx l (2 * k + 1) = hd (l.getD k 0 % 16) := by unfold hx; rw [if_neg (by omega), show (2 * k + 1) / 2 = k by omega]
  rw [← e0, ← e1]
  simp [enc, show 2 * (k + 1) = 2 * k + 1 + 1 by omega, List.range_succ]
theorem enc_length (l : List Int) (k : Nat) : (enc l k).length = 2 * k := by simp [enc]

set_option maxHeartbeats 2000000 in
theorem encode (bd bs cap : Nat) (l : List Int) (w : World) (hd' : w.there bd 0 40) (hne : bs ≠ bd) (hb : ∀ i, i < 20 → 0 ≤ l.getD i 0 ∧ l.getD i 0 ≤ 255) (hc : ∀ i, i < 20 → w.cell? ⟨bs, i, none⟩ = some (.int .u8 (l.getD i 0))) :
    Calls Tryf.prog 15 #[.slice (some ⟨bd, 0, none⟩) 40 40, .slice (some ⟨bs, 0, none⟩) 20 cap] w fun e w' => e = .returned (.int .i64 40) ∧ w' = w.setCells bd 0 (enc l 20) := by
  go_enter Tryf.func15, Tryf.ntmps15
  go_wp2
  go_loopw [5, 10] (fun j i wr => ∃ k : Nat, k ≤ 20 ∧ i = .int .i64 k ∧ j = .int .i64 ((2 * k : Nat) : Int) ∧ wr = w.setCells bd 0 (enc l k)) (fun _ i _ => 20 - (intOf i).toNat)
  case atStart => exact ⟨0, by omega, rfl, rfl, rfl⟩
  case round =>
    obtain ⟨k, hk, rfl, rfl, hwr⟩ := hrel
    by_cases hlt : k < 20
    · have c0 : wr.cell? ⟨bs, k, none⟩ = some (.int .u8 (l.getD k 0)) := by
        rw [hwr, World.cell?_setCells_out bd _ 0 w ⟨bs, k, none⟩ (fun e _ => absurd e hne)]; exact hc _ hlt
      have ht := World.there_setCells hd' bd 0 (enc l k)
      rw [← hwr] at ht
      obtain ⟨f0, f1⟩ := ht (2 * k) (by omega)
      obtain ⟨g0, g1⟩ := ht (2 * k + 1) (by omega)
      rw [Nat.zero_add] at f0 f1 g0 g1
      obtain ⟨old0, f0⟩ := Option.isSome_iff_exists.1 f0
      obtain ⟨old1, g0⟩ := Option.isSome_iff_exists.1 g0
      obtain ⟨v0, v1⟩ := hb k hlt
      have HS : Hid (enc l (k + 1) = enc l k ++ [.int .u8 (hd (l.getD k 0 / 16))] ++ [.int .u8 (hd (l.getD k 0 % 16))]) := enc_succ l k
      have H : Hid (wr = w.setCells bd 0 (enc l k)) := hwr
      clear hwr hc hb ht
      generalize l.getD k 0 = v at *
      have ea := and15 v0 v1
      have t0 := htab_hd (n := v / 16) (by omega) (by omega)
      have t1 := htab_hd (n := v % 16) (by omega) (by omega)
      unfold htab at t0 t1
      have m0 : 0 ≤ v / 16 := by omega
      have m1 : v / 16 < 16 := by omega
      have m2 : 0 ≤ v % 16 := by omega
      have m3 : v % 16 < 16 := by omega
      have hw : (wr.setCell ⟨bd, 2 * k, none⟩ (.int .u8 (hd (v / 16)))).setCell ⟨bd, 2 * k + 1, none⟩ (.int .u8 (hd (v % 16))) = w.setCells bd 0 (enc l (k + 1)) := by
        rw [HS.out, setCells_snoc, setCells_snoc, List.length_append, enc_length, Nat.zero_add, Nat.zero_add, ← H.out]
        rfl
      have HW : Hid (_ = _) := hw
      clear hw
      go_wp2
      go_roundw
      case rel => exact ⟨k + 1, by omega, by go_num, by go_num, HW.out⟩
      case measure => simp [intOf]; omega
    · have hk20 : k = 20 := by omega
      subst hk20
      have H : Hid (wr = w.setCells bd 0 (enc l 20)) := hwr
      clear hwr
      go_wp2
      go_ret
      exact ⟨rfl, H.out⟩

/-! ### EncodeToString, String -/
theorem make40 (w : World) : (Instr.makeSlice 31 (.int .i64 40) (.int .i64 40)).run Tryf.prog w = .ok (.slice (some ⟨w.heap.size, 0, none⟩) 40 40) (w.alloc (.cells (arr (List.replicate 40 0)) 5)) := by kernel_rfl

theorem encodedLen (w : World) : Calls Tryf.prog 14 #[.int .i64 20] w fun e w' => e = .returned (.int .i64 40) ∧ w = w' := by
  go_enter Tryf.func14, Tryf.ntmps14
  go_wp2
  go_ret
  exact ⟨rfl, rfl⟩

/-- The id's text. -/
def hexs (l : List Int) : ByteArray := strOfNums ((List.range 40).map (hx l))

theorem getD_range {n i : Nat} (f : Nat → Int) (h : i < n) : ((List.range n).map f).getD i 0 = f i := by
  simp [List.getD, h]

set_option maxHeartbeats 2000000 in
theorem encStr (bs cap : Nat) (l : List Int) (w : World) (hlt : bs < w.heap.size) (hb : ∀ i, i < 20 → 0 ≤ l.getD i 0 ∧ l.getD i 0 ≤ 255) (hc : ∀ i, i < 20 → w.cell? ⟨bs, i, none⟩ = some (.int .u8 (l.getD i 0))) :
    Calls Tryf.prog 11 #[.slice (some ⟨bs, 0, none⟩) 20 cap] w fun e w' => e = .returned (.string (hexs l)) ∧ Below w.heap.size w w' := by
  have mk := make40
  have ht : (w.alloc (.cells (arr (List.replicate 40 0)) 5)).there w.heap.size 0 40 := there_new w _ 5 40 (by rw [arr_size]; rfl)
  have hc' : ∀ i, i < 20 → (w.alloc (.cells (arr (List.replicate 40 0)) 5)).cell? ⟨bs, i, none⟩ = some (.int .u8 (l.getD i 0)) := fun i hi => by
    rw [World.cell?_alloc_lt _ _ _ hlt]; exact hc i hi
  have hB : Below w.heap.size w (w.alloc (.cells (arr (List.replicate 40 0)) 5)) := (Below.refl _ _).alloc (Nat.le_refl _) _
  clear hc
  generalize arr (List.replicate 40 0) = Z at *
  go_enter Tryf.func11, Tryf.ntmps11
  go_wp2_with fail
  refine (encodedLen _).mono ?_
  rintro e w' ⟨rfl, rfl⟩
  go_wp2_with fail
  refine (encode w.heap.size bs cap l _ ht (by omega) hb hc').mono ?_
  rintro e u ⟨rfl, hu⟩
  have hcu : ∀ i, i < 40 → u.cell? ⟨w.heap.size, 0 + i, none⟩ = some (.int .u8 (((List.range 40).map (hx l)).getD i 0)) := fun i hi => by
    have hr := World.rangeAt_setCells_same _ w.heap.size 0 (enc l 20) (by rw [enc_length]; exact ht)
    rw [hu, getD_range _ hi]
    exact hr i _ (by simp [enc, hi])
  have hcv := run_convert_bytes_arg (P := Tryf.prog) u 31 5 Tryf.underlying31 Tryf.underlying5 w.heap.size 0 40 40 ((List.range 40).map (hx l)) (by simp) hcu 9 Tryf.underlying9
  have hBu : Below w.heap.size w u := by rw [hu]; exact below_setCells _ _ _ _ hB (Nat.le_refl _)
  clear hu hcu hc' hB ht mk
  change _ = Result.ok (Value.string (hexs l)) u at hcv
  go_wp2_with fail
  go_ret
  exact ⟨rfl, hBu⟩

set_option maxHeartbeats 2000000 in
theorem idStr (l : List Int) (hl : l.length = 20) (w : World) (hb : ∀ i, i < 20 → 0 ≤ l.getD i 0 ∧ l.getD i 0 ≤ 255) :
    Calls Tryf.prog 8 #[.agg (arr l)] w fun e w' => e = .returned (.string (hexs l)) ∧ Below w.heap.size w w' := by
  have hc : ∀ i, i < 20 → (w.alloc (.cells (arr l) 24)).cell? ⟨w.heap.size, i, none⟩ = some (.int .u8 (l.getD i 0)) := fun i hi => by
    rw [cell_of_row _ _ i (arr l) 24 (0, 0) (heap_alloc_new w _), arr_at l i (by omega)]
    simp [List.getD, List.getElem?_eq_getElem (show i < l.length by omega)]
  go_enter Tryf.func8, Tryf.ntmps8
  go_wp2_with fail
  refine (encStr w.heap.size 20 l _ (by simp) hb hc).mono ?_
  rintro e u ⟨rfl, hu⟩
  have hBu : Below w.heap.size w u := ((Below.refl _ _).alloc (Nat.le_refl _) _).trans (hu.mono (by simp))
  clear hu
  go_wp2_with fail
  go_ret
  exact ⟨rfl, hBu⟩
end Go.Proofs.Qxb6626250aFmt

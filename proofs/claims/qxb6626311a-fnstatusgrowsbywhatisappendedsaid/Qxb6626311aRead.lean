import Derived.Test.Qxb6626311aStatus
namespace Go.Proofs.Qxb6626311a
open Go.ChangeShapes Go.WideShapes Go.ChangeAt Go.RowKit

theorem bits_and_u8_nat (a b : Nat) (ha : a < 256) (hb : b < 256) : bits .and .u8 (a : Int) (b : Int) = ((a &&& b : Nat) : Int) := by
  have hx : a &&& b < 2 ^ 8 := Nat.and_lt_two_pow _ (by omega)
  have h1 : (BitVec.ofInt 8 (a : Int)).toNat = a := by
    rw [BitVec.ofInt_natCast, BitVec.toNat_ofNat]; exact Nat.mod_eq_of_lt (by omega)
  have h2 : (BitVec.ofInt 8 (b : Int)).toNat = b := by
    rw [BitVec.ofInt_natCast, BitVec.toNat_ofNat]; exact Nat.mod_eq_of_lt (by omega)
  show IntKind.u8.wrap ((BitVec.ofInt 8 (a : Int) &&& BitVec.ofInt 8 (b : Int)).toNat : Int) = _
  rw [BitVec.toNat_and, h1, h2, IntKind.wrap_u8]
  omega

theorem top_set (m : Nat) (hm : m < 128) : bits .and .u8 (128 + (m : Int)) 128 = 128 := by
  have h := bits_and_u8_nat (128 + m) 128 (by omega) (by omega)
  have e : ∀ f : Fin 128, (128 + f.val) &&& 128 = 128 := by decide +kernel
  have e' := e ⟨m, hm⟩
  simp only at e'
  rw [e'] at h
  have e2 : ((128 + m : Nat) : Int) = 128 + (m : Int) := by omega
  rw [e2] at h
  exact h
theorem low_bits (m : Nat) (hm : m < 128) : bits .and .u8 (128 + (m : Int)) 127 = (m : Int) := by
  have h := bits_and_u8_nat (128 + m) 127 (by omega) (by omega)
  have e : ∀ f : Fin 128, (128 + f.val) &&& 127 = f.val := by decide +kernel
  have e' := e ⟨m, hm⟩
  simp only at e'
  rw [e'] at h
  have e2 : ((128 + m : Nat) : Int) = 128 + (m : Int) := by omega
  rw [e2] at h
  exact h
theorem top_clear {h : Int} (h0 : 0 ≤ h) (h1 : h < 128) : bits .and .u8 h 128 = 0 := by
  obtain ⟨m, rfl⟩ := Int.eq_ofNat_of_zero_le h0
  have g := bits_and_u8_nat m 128 (by omega) (by omega)
  have e : ∀ f : Fin 128, f.val &&& 128 = 0 := by decide +kernel
  have e' := e ⟨m, by omega⟩
  simp only at e'
  rw [e'] at g
  exact g
theorem or_word {h l : Int} (h0 : 0 ≤ h) (h1 : h < 128) (l0 : 0 ≤ l) (l1 : l < 256) : bits .or .i64 (h * 256) l = h * 256 + l := by
  obtain ⟨m, rfl⟩ := Int.eq_ofNat_of_zero_le h0
  obtain ⟨n, rfl⟩ := Int.eq_ofNat_of_zero_le l0
  have e : (m : Int) * 256 = ((2 ^ 8 * m : Nat) : Int) := by omega
  have ha : (BitVec.ofInt 64 ((2 ^ 8 * m : Nat) : Int)).toNat = 2 ^ 8 * m := by
    rw [BitVec.ofInt_natCast, BitVec.toNat_ofNat]; exact Nat.mod_eq_of_lt (by omega)
  have hb : (BitVec.ofInt 64 (n : Int)).toNat = n := by
    rw [BitVec.ofInt_natCast, BitVec.toNat_ofNat]; exact Nat.mod_eq_of_lt (by omega)
  rw [e]
  show IntKind.i64.wrap ((BitVec.ofInt 64 ((2 ^ 8 * m : Nat) : Int) ||| BitVec.ofInt 64 (n : Int)).toNat : Int) = _
  rw [BitVec.toNat_or, ha, hb, ← Nat.two_pow_add_eq_or_of_lt (by omega), IntKind.wrap_i64]
  omega

set_option maxRecDepth 100000 in
set_option maxHeartbeats 1000000 in
theorem readIE_short (b n cap off m : Nat) (k : Int) (w : World) (hn : n ≤ 4294967296) (hm : m < 128) (hfit : off + 2 + m ≤ n)
    (c0 : w.cell? ⟨b, off, none⟩ = some (.int .u8 k)) (c1 : w.cell? ⟨b, off + 1, none⟩ = some (.int .u8 (128 + (m : Int)))) :
    Calls Try.prog 8 #[.slice (some ⟨b, 0, none⟩) n cap, .int .i64 off] w fun e w' =>
      e = .returned (.tuple #[.int .u8 k, .int .i64 ((off + 2 : Nat) : Int), .int .i64 m, .int .i64 ((off + 2 + m : Nat) : Int), .bool true, .bool true]) ∧ w = w' := by
  have e1 := top_set m hm
  have e2 := low_bits m hm
  go_enter Try.func8, Try.ntmps8
  go_wp2
  refine bodyPost_ret (v := .tuple #[.int .u8 k, .int .i64 ((off : Int) + 2), .int .i64 m, .int .i64 ((off : Int) + 2 + m), .bool true, .bool true]) (by simp [results, Try.results8]) rfl ⟨?_, rfl⟩
  rw [show ((off + 2 : Nat) : Int) = (off : Int) + 2 by omega, show ((off + 2 + m : Nat) : Int) = (off : Int) + 2 + m by omega]

set_option maxRecDepth 100000 in
set_option maxHeartbeats 1000000 in
theorem readIE_long (b n cap off m : Nat) (k h l : Int) (w : World) (hn : n ≤ 4294967296) (h0 : 0 ≤ h) (h1 : h < 128) (l0 : 0 ≤ l) (l1 : l < 256) (hm : h * 256 + l = (m : Int)) (hfit : off + 3 + m ≤ n)
    (c0 : w.cell? ⟨b, off, none⟩ = some (.int .u8 k)) (c1 : w.cell? ⟨b, off + 1, none⟩ = some (.int .u8 h)) (c2 : w.cell? ⟨b, off + 2, none⟩ = some (.int .u8 l)) :
    Calls Try.prog 8 #[.slice (some ⟨b, 0, none⟩) n cap, .int .i64 off] w fun e w' =>
      e = .returned (.tuple #[.int .u8 k, .int .i64 ((off + 3 : Nat) : Int), .int .i64 m, .int .i64 ((off + 3 + m : Nat) : Int), .bool false, .bool true]) ∧ w = w' := by
  have e1 := top_clear h0 h1
  have e2 := or_word h0 h1 l0 l1
  rw [hm] at e2
  have HM : Hid (h * 256 + l = (m : Int)) := hm
  clear hm
  go_enter Try.func8, Try.ntmps8
  go_wp2
  refine bodyPost_ret (v := .tuple #[.int .u8 k, .int .i64 ((off : Int) + 3), .int .i64 m, .int .i64 ((off : Int) + 3 + m), .bool false, .bool true]) (by simp [results, Try.results8]) rfl ⟨?_, rfl⟩
  rw [show ((off + 3 : Nat) : Int) = (off : Int) + 3 by omega, show ((off + 3 + m : Nat) : Int) = (off : Int) + 3 + m by omega]

theorem carried (n : Nat) (w : World) (hn : n ≤ 4294967296) : Calls Try.prog 7 #[.int .i64 n] w fun e w' => e = .returned (.int .i64 ((min n 32767 : Nat) : Int)) ∧ w = w' := by
  by_cases h : n ≤ 32767
  · rw [Nat.min_eq_left h]
    go_enter Try.func7, Try.ntmps7
    go_wp2
    go_ret
    exact ⟨rfl, rfl⟩
  · rw [Nat.min_eq_right (by omega)]
    go_enter Try.func7, Try.ntmps7
    go_wp2
    go_ret
    exact ⟨rfl, rfl⟩

set_option maxRecDepth 100000 in
theorem indLen (n : Nat) (w : World) (hn : n ≤ 4294967296) : Calls Try.prog 11 #[.int .i64 n] w fun e w' => e = .returned (.int .i64 (if n < 128 then 1 else 2)) ∧ w = w' := by
  by_cases h : n < 128
  · rw [if_pos h]
    go_enter Try.func11, Try.ntmps11
    go_wp2
    go_ret
    exact ⟨rfl, rfl⟩
  · rw [if_neg h]
    go_enter Try.func11, Try.ntmps11
    go_wp2
    go_ret
    exact ⟨rfl, rfl⟩

set_option maxHeartbeats 1000000 in
theorem same (ba la ca ai : Nat) (ab : Option Addr) (lb cb bi n : Nat) (v : Nat → Int) (w : World) (h1 : ai + n ≤ la) (h2 : bi + n ≤ lb) (h3 : la ≤ 4294967296) (h4 : lb ≤ 4294967296)
    (hA : ∀ i, i < n → w.cell? ⟨ba, ai + i, none⟩ = some (.int .u8 (v i))) (hB : n = 0 ∨ ∃ bb, ab = some ⟨bb, 0, none⟩ ∧ ∀ i, i < n → w.cell? ⟨bb, bi + i, none⟩ = some (.int .u8 (v i))) :
    Calls Try.prog 9 #[.slice (some ⟨ba, 0, none⟩) la ca, .int .i64 ai, .slice ab lb cb, .int .i64 bi, .int .i64 n] w fun e w' => e = .returned (.bool true) ∧ ∃ m, w' = w.drewN m := by
  go_enter Try.func9, Try.ntmps9
  go_wp2
  go_loopw [11] (fun i wr => ∃ k m : Nat, k ≤ n ∧ i = .int .i64 k ∧ wr = w.drewN m) (fun i _ => n - (intOf i).toNat)
  case atStart => exact ⟨0, 0, by omega, rfl, rfl⟩
  case round =>
    obtain ⟨k, m, hk, rfl, rfl⟩ := hrel
    by_cases hlt : k < n
    · rcases hB with hB | ⟨bb, rfl, hB⟩
      · omega
      · have cA := hA k hlt
        have cB := hB k hlt
        clear hA hB
        go_wp2
        go_quiet (fail)
        go_wp2
        go_roundw
        case rel => exact ⟨k + 1, m + nq, by omega, by go_num, rfl⟩
        case measure => simp [intOf]; omega
    · go_wp2
      go_ret
      exact ⟨rfl, _, rfl⟩
end Go.Proofs.Qxb6626311a

import Derived.Test.Qxb6626250aFmtFacts
import Derived.Deep.MidRow
namespace Go.Proofs.Qxb6626250aFmt
open Go.ChangeShapes Go.WideShapes Go.ChangeAt Go.RowKit
open Go.Extern.Stop Go.Stop Go.Extern

/-- Byte i of the id: the digit at 2i times 16 plus the digit at 2i+1. -/
def dbyte (x : Nat → Int) (i : Nat) : Int := nib (x (2 * i)) * 16 + nib (x (2 * i + 1))
def dec (x : Nat → Int) (k : Nat) : List Value := (List.range k).map fun i => .int .u8 (dbyte x i)

theorem dec_succ (x : Nat → Int) (k : Nat) : dec x (k + 1) = dec x k ++ [.int .u8 (dbyte x k)] := by simp [dec, List.range_succ]
theorem dec_length (x : Nat → Int) (k : Nat) : (dec x k).length = k := by simp [dec]

theorem setCells_snoc (b : Nat) : ∀ (vs : List Value) (o : Nat) (w : World) (v : Value), w.setCells b o (vs ++ [v]) = (w.setCells b o vs).setCell ⟨b, o + vs.length, none⟩ v
  | [], _, _, _ => rfl
  | u :: r, o, w, v => by
    rw [List.cons_append, World.setCells, World.setCells, setCells_snoc b r (o + 1) _ v]
    simp only [List.length_cons]
    rw [show o + 1 + r.length = o + (r.length + 1) by omega]

/-- hex's table of digits' values, as the program's text has it. -/
def tab : ByteArray := ⟨#[255, 255, 255, 255, 255, 255, 255, 255, 255, 255, 255, 255, 255, 255, 255, 255, 255, 255, 255, 255, 255, 255, 255, 255, 255, 255, 255, 255, 255, 255, 255, 255, 255, 255, 255, 255, 255, 255, 255, 255, 255, 255, 255, 255, 255, 255, 255, 255, 0, 1, 2, 3, 4, 5, 6, 7, 8, 9, 255, 255, 255, 255, 255, 255, 255, 10, 11, 12, 13, 14, 15, 255, 255, 255, 255, 255, 255, 255, 255, 255, 255, 255, 255, 255, 255, 255, 255, 255, 255, 255, 255, 255, 255, 255, 255, 255, 255, 10, 11, 12, 13, 14, 15, 255, 255, 255, 255, 255, 255, 255, 255, 255, 255, 255, 255, 255, 255, 255, 255, 255, 255, 255, 255, 255, 255, 255, 255, 255, 255, 255, 255, 255, 255, 255, 255, 255, 255, 255, 255, 255, 255, 255, 255, 255, 255, 255, 255, 255, 255, 255, 255, 255, 255, 255, 255, 255, 255, 255, 255, 255, 255, 255, 255, 255, 255, 255, 255, 255, 255, 255, 255, 255, 255, 255, 255, 255, 255, 255, 255, 255, 255, 255, 255, 255, 255, 255, 255, 255, 255, 255, 255, 255, 255, 255, 255, 255, 255, 255, 255, 255, 255, 255, 255, 255, 255, 255, 255, 255, 255, 255, 255, 255, 255, 255, 255, 255, 255, 255, 255, 255, 255, 255, 255, 255, 255, 255, 255, 255, 255, 255, 255, 255, 255, 255, 255, 255, 255, 255, 255, 255, 255, 255, 255, 255, 255, 255, 255, 255, 255, 255, 255, 255, 255, 255, 255, 255]⟩

theorem tab_nib {p : Int} (hp : hexB p = true) : ∀ h : p.toNat < tab.size, ((tab[p.toNat]'h).toNat : Int) = nib p := by
  rw [hexB_iff] at hp
  have h16 : p = 48 ∨ p = 49 ∨ p = 50 ∨ p = 51 ∨ p = 52 ∨ p = 53 ∨ p = 54 ∨ p = 55 ∨ p = 56 ∨ p = 57 ∨ p = 97 ∨ p = 98 ∨ p = 99 ∨ p = 100 ∨ p = 101 ∨ p = 102 := by omega
  rcases h16 with rfl | rfl | rfl | rfl | rfl | rfl | rfl | rfl | rfl | rfl | rfl | rfl | rfl | rfl | rfl | rfl
  all_goals (intro h; rfl)

theorem bits_or_u8_nat (a b : Nat) (ha : a < 256) (hb : b < 256) : bits .or .u8 (a : Int) (b : Int) = ((a ||| b : Nat) : Int) := by
  have hx : a ||| b < 2 ^ 8 := Nat.or_lt_two_pow (by omega) (by omega)
  have h1 : (BitVec.ofInt 8 (a : Int)).toNat = a := by
    rw [BitVec.ofInt_natCast, BitVec.toNat_ofNat]; exact Nat.mod_eq_of_lt (by omega)
  have h2 : (BitVec.ofInt 8 (b : Int)).toNat = b := by
    rw [BitVec.ofInt_natCast, BitVec.toNat_ofNat]; exact Nat.mod_eq_of_lt (by omega)
  show IntKind.u8.wrap ((BitVec.ofInt 8 (a : Int) ||| BitVec.ofInt 8 (b : Int)).toNat : Int) = _
  rw [BitVec.toNat_or, h1, h2, IntKind.wrap_u8]
  omega
theorem bits_and_u8_nat (a b : Nat) (ha : a < 256) (hb : b < 256) : bits .and .u8 (a : Int) (b : Int) = ((a &&& b : Nat) : Int) := by
  have hx : a &&& b < 2 ^ 8 := Nat.and_lt_two_pow _ (by omega)
  have h1 : (BitVec.ofInt 8 (a : Int)).toNat = a := by
    rw [BitVec.ofInt_natCast, BitVec.toNat_ofNat]; exact Nat.mod_eq_of_lt (by omega)
  have h2 : (BitVec.ofInt 8 (b : Int)).toNat = b := by
    rw [BitVec.ofInt_natCast, BitVec.toNat_ofNat]; exact Nat.mod_eq_of_lt (by omega)
  show IntKind.u8.wrap ((BitVec.ofInt 8 (a : Int) &&& BitVec.ofInt 8 (b : Int)).toNat : Int) = _
  rw [BitVec.toNat_and, h1, h2, IntKind.wrap_u8]
  omega

theorem or16 {a b : Int} (ha : 0 ≤ a ∧ a ≤ 15) (hb : 0 ≤ b ∧ b ≤ 15) : bits .or .u8 (a * 16) b = a * 16 + b := by
  obtain ⟨m, rfl⟩ := Int.eq_ofNat_of_zero_le ha.1
  obtain ⟨n, rfl⟩ := Int.eq_ofNat_of_zero_le hb.1
  have e : (m : Int) * 16 = ((2 ^ 4 * m : Nat) : Int) := by omega
  rw [e, bits_or_u8_nat _ _ (by omega) (by omega), ← Nat.two_pow_add_eq_or_of_lt (by omega)]
  omega

set_option maxRecDepth 100000 in
set_option maxHeartbeats 2000000 in
theorem decode (bd bs cap : Nat) (x : Nat → Int) (w : World) (hd : w.there bd 0 20) (hne : bs ≠ bd) (hx : ∀ i, i < 40 → w.cell? ⟨bs, i, none⟩ = some (.int .u8 (x i))) (hv : ∀ i, i < 40 → hexB (x i) = true) :
    Calls Tryf.prog 10 #[.slice (some ⟨bd, 0, none⟩) 20 20, .slice (some ⟨bs, 0, none⟩) 40 cap] w fun e w' => e = .returned (.tuple #[.int .i64 20, .nilIface]) ∧ w' = w.setCells bd 0 (dec x 20) := by
  go_enter Tryf.func10, Tryf.ntmps10
  go_wp2
  go_loopw [6, 7] (fun i j wr => ∃ k : Nat, k ≤ 20 ∧ i = .int .i64 k ∧ j = .int .i64 ((2 * k : Nat) : Int) ∧ wr = w.setCells bd 0 (dec x k)) (fun i _ _ => 20 - (intOf i).toNat)
  case atStart => exact ⟨0, by omega, rfl, rfl, rfl⟩
  case round =>
    obtain ⟨k, hk, rfl, rfl, hwr⟩ := hrel
    by_cases hlt : k < 20
    · have c0 : wr.cell? ⟨bs, 2 * k, none⟩ = some (.int .u8 (x (2 * k))) := by
        rw [hwr, World.cell?_setCells_out bd _ 0 w ⟨bs, 2 * k, none⟩ (fun e _ => absurd e hne)]; exact hx _ (by omega)
      have c1 : wr.cell? ⟨bs, 2 * k + 1, none⟩ = some (.int .u8 (x (2 * k + 1))) := by
        rw [hwr, World.cell?_setCells_out bd _ 0 w ⟨bs, 2 * k + 1, none⟩ (fun e _ => absurd e hne)]; exact hx _ (by omega)
      have ht := World.there_setCells hd bd 0 (dec x k)
      rw [← hwr] at ht
      obtain ⟨f0, f1⟩ := ht k hlt
      rw [Nat.zero_add] at f0 f1
      obtain ⟨old, f0⟩ := Option.isSome_iff_exists.1 f0
      have v0 := hv (2 * k) (by omega)
      have v1 := hv (2 * k + 1) (by omega)
      have H : Hid (wr = w.setCells bd 0 (dec x k)) := hwr
      clear hwr hx hv ht
      generalize hp : x (2 * k) = p at *
      generalize hq : x (2 * k + 1) = q at *
      have HP : Hid (x (2 * k) = p ∧ x (2 * k + 1) = q) := ⟨hp, hq⟩
      clear hp hq
      have b0 := (hexB_iff p).1 v0
      have b1 := (hexB_iff q).1 v1
      have p0 : 0 ≤ p := by omega
      have p1 : p < 256 := by omega
      have q0 : 0 ≤ q := by omega
      have q1 : q < 256 := by omega
      have t0 := tab_nib v0
      have t1 := tab_nib v1
      have n0 := nib_pos v0
      have n1 := nib_pos v1
      unfold tab at t0 t1
      have HV : Hid ((0 ≤ nib p ∧ nib p ≤ 15) ∧ (0 ≤ nib q ∧ nib q ≤ 15)) := ⟨n0, n1⟩
      clear b0 b1 v0 v1
      go_wp2
      have hw : wr.setCell ⟨bd, k, none⟩ (.int .u8 (bits .or .u8 (nib p * 16) (nib q))) = w.setCells bd 0 (dec x (k + 1)) := by
        rw [dec_succ, setCells_snoc, dec_length, Nat.zero_add, ← H.out, or16 HV.out.1 HV.out.2, dbyte, HP.out.1, HP.out.2]
      go_roundw
      case rel => exact ⟨k + 1, by omega, by go_num, by go_num, hw⟩
      case measure => simp [intOf]; omega
    · have hk20 : k = 20 := by omega
      subst hk20
      have H : Hid (wr = w.setCells bd 0 (dec x 20)) := hwr
      clear hwr
      go_wp2
      go_ret2
      exact ⟨rfl, H.out⟩
end Go.Proofs.Qxb6626250aFmt

import Derived.Test.Qxb6626250aFmtFacts
import Derived.Deep.RegionHeld3
import Derived.PlainAid
namespace Go.Proofs.Qxb6626250aFmt
open Go.ChangeShapes Go.WideShapes Go.ChangeAt Go.RowKit
open Go.Extern.Stop Go.Stop Go.Extern Go.PlainAid

/-- The zero id. -/
def Z20 : Array Value := #[.int .u8 0, .int .u8 0, .int .u8 0, .int .u8 0, .int .u8 0, .int .u8 0, .int .u8 0, .int .u8 0, .int .u8 0, .int .u8 0, .int .u8 0, .int .u8 0, .int .u8 0, .int .u8 0, .int .u8 0, .int .u8 0, .int .u8 0, .int .u8 0, .int .u8 0, .int .u8 0]

theorem size24 : (Tryf.prog.info? 24).map (·.size) = some 20 := by kernel_rfl
theorem size23 : (Tryf.prog.info? 23).map (·.size) = some 20 := by kernel_rfl

theorem rangeAt_new (w : World) (c : Array Value) (t : TypeId) : (w.alloc (.cells c t)).rangeAt w.heap.size 0 c.toList := fun j v hv => by
  rw [Nat.zero_add, cell_of_row _ _ j c t (0, 0) (heap_alloc_new w _)]
  simpa using hv
theorem there_new (w : World) (c : Array Value) (t : TypeId) (n : Nat) (hn : c.size = n) : (w.alloc (.cells c t)).there w.heap.size 0 n := fun j hj => by
  rw [Nat.zero_add]
  refine ⟨?_, frozen_of_row _ _ j c t (heap_alloc_new w _)⟩
  rw [cell_of_row _ _ j c t (0, 0) (heap_alloc_new w _), Array.getElem?_eq_getElem (by omega)]
  rfl

theorem below_setCells {B : Nat} {a : World} (b : Nat) : ∀ (vs : List Value) (o : Nat) (w : World), Below B a w → B ≤ b → Below B a (w.setCells b o vs)
  | [], _, _, h, _ => h
  | v :: r, o, w, h, hb => by rw [World.setCells]; exact below_setCells b r (o + 1) _ (h.setCell hb _) hb

theorem Z20_size : Z20.size = 20 := rfl
theorem Z20_one : Z20.all (·.oneCell') = true := by simp [Z20, Value.oneCell']

set_option maxHeartbeats 2000000 in
theorem parse_len (s : ByteArray) (w : World) (_hs : s.size ≤ 2 ^ 63 - 1) (hne : s.size ≠ 40) :
    Calls Tryf.prog 6 #[.string s] w fun e w' => ∃ p, e = .returned (.tuple #[.agg Z20, .iface 44 (.pointer (some p))]) ∧ Below w.heap.size w w' := by
  have h40 : ((s.size : Int) != 40) = true := by simp; omega
  go_enter Tryf.func6, Tryf.ntmps6
  go_wp2
  change Code.wp _ _ _ _ ((w.alloc (.cells Z20 24)).alloc (.cells Z20 24))
  have fr : ((w.alloc (.cells Z20 24)).alloc (.cells Z20 24)).rangeAt (w.heap.size + 1) 0 Z20.toList := by
    have := rangeAt_new (w.alloc (.cells Z20 24)) Z20 24
    rwa [World.size_alloc] at this
  have ft : ((w.alloc (.cells Z20 24)).alloc (.cells Z20 24)).there w.heap.size 0 20 := World.there_alloc (there_new w Z20 24 20 rfl) _
  have fb : Below w.heap.size w ((w.alloc (.cells Z20 24)).alloc (.cells Z20 24)) := ((Below.refl _ _).alloc (Nat.le_refl _) _).alloc (by simp) _
  have fz : w.heap.size + 2 = ((w.alloc (.cells Z20 24)).alloc (.cells Z20 24)).heap.size := by simp
  generalize (w.alloc (.cells Z20 24)).alloc (.cells Z20 24) = u at *
  have zs := Z20_size
  have z1 := Z20_one
  have i24 := size24
  have u24 := Tryf.underlying24
  generalize hZ : Z20 = Z at *
  have HZ : Hid (Z20 = Z) := hZ
  clear hZ
  have hl : Z.toList.length = 20 := by simpa using zs
  have hi : (Tryf.prog.info? 24).map (·.size) = some Z.toList.length := by rw [hl]; exact i24
  have h1 : ∀ v ∈ Z.toList, v.oneCell' = true := fun v hv => Array.all_eq_true_iff_forall_mem.1 z1 v (by simpa using hv)
  clear i24 z1
  go_region_held3 (fun w' => w'.rangeAt (w.heap.size + 1) 0 Z.toList ∧ w'.there w.heap.size 0 20) (go_keep_ranges)
    (first | (go_at_call 9; refine (errorf3 s 40 s.size _ _ (by simp [go_sem]) (by simp [go_sem]) (by simp [go_sem])).mono ?_; rintro e w' ⟨rfl, t, rfl⟩))
  go_wp2
  have ft' : ((u.alloc (.cells #[.iface 9 (.string s), .iface 3 (.int .i64 40), .iface 3 (.int .i64 s.size)] 20)).alloc (.cells #[.string t] 46)).drew.drew.there w.heap.size 0 Z.toList.length := by
    rw [hl]; simp only [World.there_drew]; exact World.there_alloc (World.there_alloc ft _) _
  have hld := run_loadVar_mid (P := Tryf.prog) _ w.heap.size 0 24 Z.toList _ (World.rangeAt_setCells_same _ w.heap.size 0 Z.toList ft') u24 rfl hi
  refine bodyPost_ret (v := .tuple #[.agg Z, .iface 44 (.pointer (some ⟨u.heap.size + 1, 0, none⟩))]) (by simp [results, Tryf.results6, asAddr, hld]) rfl ⟨_, by rw [HZ.out], ?_⟩
  exact fb.trans (below_setCells _ _ _ _ ((((Below.refl _ _).alloc (by omega) _).alloc (by simp; omega) _).drew.drew) (by omega))

/-- What the two new variables of ParseID are, the world a letter. -/
structure Two (w u : World) : Prop where
  range : u.rangeAt (w.heap.size + 1) 0 Z20.toList
  there : u.there w.heap.size 0 20
  there' : u.there (w.heap.size + 1) 0 20
  below : Below w.heap.size w u
  size : w.heap.size + 2 ≤ u.heap.size

theorem two_new (w : World) : Two w ((w.alloc (.cells Z20 24)).alloc (.cells Z20 24)) where
  range := by have := rangeAt_new (w.alloc (.cells Z20 24)) Z20 24; rwa [World.size_alloc] at this
  there := World.there_alloc (there_new w Z20 24 20 rfl) _
  there' := by have := there_new (w.alloc (.cells Z20 24)) Z20 24 20 rfl; rwa [World.size_alloc] at this
  below := ((Below.refl _ _).alloc (Nat.le_refl _) _).alloc (by simp) _
  size := by simp

set_option maxHeartbeats 2000000 in
theorem parse_bad (s : ByteArray) (w : World) (hs : s.size = 40) (m : Nat) (hm : m < 40) (hbad : hexB (bt s m) = false) (hgood : ∀ j, j < m → hexB (bt s j) = true) :
    Calls Tryf.prog 6 #[.string s] w fun e w' => ∃ p, e = .returned (.tuple #[.agg Z20, .iface 44 (.pointer (some p))]) ∧ Below w.heap.size w w' := by
  have gb := get_bt s
  go_enter Tryf.func6, Tryf.ntmps6
  go_wp2
  change Code.wp _ _ _ _ ((w.alloc (.cells Z20 24)).alloc (.cells Z20 24))
  have h2 := two_new w
  generalize (w.alloc (.cells Z20 24)).alloc (.cells Z20 24) = u at *
  go_loop [5] (fun i => ∃ k : Nat, k ≤ m ∧ i = .int .i64 k) (fun i => 40 - (intOf i).toNat)
  case atStart => exact ⟨0, Nat.zero_le _, rfl⟩
  case round =>
    obtain ⟨k, hk, rfl⟩ := hrel
    have hk40 : k < 40 := by omega
    by_cases hlt : k < m
    · have hg := (hexB_iff _).1 (hgood k hlt)
      have HG : Hid (∀ j, j < m → hexB (bt s j) = true) := hgood
      clear hgood
      rcases hg with ⟨g1, g2⟩ | ⟨g1, g2⟩
      · go_wp2
        go_round
        case rel => exact ⟨k + 1, by omega, by go_num⟩
        case measure => simp [intOf]; omega
      · go_wp2
        go_round
        case rel => exact ⟨k + 1, by omega, by go_num⟩
        case measure => simp [intOf]; omega
    · have hkm : k = m := by omega
      subst hkm
      have hb : ¬ ((48 ≤ bt s k ∧ bt s k ≤ 57) ∨ (97 ≤ bt s k ∧ bt s k ≤ 102)) := fun h => by rw [(hexB_iff _).2 h] at hbad; cases hbad
      clear hgood hbad hlt hk
      have fr := h2.range
      have ft := h2.there
      have fb := h2.below
      have fz := h2.size
      clear h2
      have zs := Z20_size
      have z1 := Z20_one
      have i24 := size24
      have u24 := Tryf.underlying24
      generalize hZ : Z20 = Z at *
      have HZ : Hid (Z20 = Z) := hZ
      clear hZ
      have hl : Z.toList.length = 20 := by simpa using zs
      have hi : (Tryf.prog.info? 24).map (·.size) = some Z.toList.length := by rw [hl]; exact i24
      have h1 : ∀ v ∈ Z.toList, v.oneCell' = true := fun v hv => Array.all_eq_true_iff_forall_mem.1 z1 v (by simpa using hv)
      clear i24 z1
      have hp : bt s k < 48 ∨ (57 < bt s k ∧ bt s k < 97) ∨ 102 < bt s k := by omega
      clear hb
      have hq : (bt s k < 48) ∨ (¬ bt s k < 48 ∧ 57 < bt s k ∧ bt s k < 97) ∨ (¬ bt s k < 48 ∧ 57 < bt s k ∧ ¬ bt s k < 97 ∧ 102 < bt s k) := by omega
      clear hp
      rcases hq with q1 | ⟨q1, q2, q3⟩ | ⟨q1, q2, q3, q4⟩
      all_goals
        go_wp2
        go_region_held3 (fun w' => w'.rangeAt (w.heap.size + 1) 0 Z.toList ∧ w'.there w.heap.size 0 20) (go_keep_ranges)
          (first | (go_at_call 9; refine (errorf2 s k _ _ (by simp [go_sem]) (by simp [go_sem])).mono ?_; rintro e w' ⟨rfl, t, rfl⟩))
        go_wp2
        have ft' : ((u.alloc (.cells #[.iface 9 (.string s), .iface 3 (.int .i64 k)] 20)).alloc (.cells #[.string t] 46)).drew.drew.there w.heap.size 0 Z.toList.length := by
          rw [hl]; simp only [World.there_drew]; exact World.there_alloc (World.there_alloc ft _) _
        have hld := run_loadVar_mid (P := Tryf.prog) _ w.heap.size 0 24 Z.toList _ (World.rangeAt_setCells_same _ w.heap.size 0 Z.toList ft') u24 rfl hi
        refine bodyPost_ret (v := .tuple #[.agg Z, .iface 44 (.pointer (some ⟨u.heap.size + 1, 0, none⟩))]) (by simp [results, Tryf.results6, asAddr, hld]) rfl ⟨_, by rw [HZ.out], ?_⟩
        exact fb.trans (below_setCells _ _ _ _ ((((Below.refl _ _).alloc (by omega) _).alloc (by simp; omega) _).drew.drew) (by omega))
end Go.Proofs.Qxb6626250aFmt

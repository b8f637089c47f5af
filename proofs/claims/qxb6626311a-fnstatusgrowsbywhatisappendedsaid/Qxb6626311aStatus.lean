import Derived.Test.Qxb6626311aIE
namespace Go.Proofs.Qxb6626311a
open Go.ChangeShapes Go.WideShapes Go.ChangeAt Go.RowKit

/-- What Status gives. -/
def st (cause : Int) (xs : List Int) : List Int := [65, 7, 129, cause] ++ ie 21 (xs.take 32767)

theorem make_at (m : Nat) (hm : m ≤ 4294967296) (z : Int) (hz : z = (m : Int)) : ∃ Z : Array Value, Z.size = m ∧ ∀ w, (Instr.makeSlice 22 (.int .i64 0) (.int .i64 z)).run Try.prog w = .ok (.slice (some ⟨w.heap.size, 0, none⟩) 0 m) (w.alloc (.cells Z 5)) := by
  subst hz
  exact ⟨_, by simp [madeCells], fun w => run_make_room 22 5 (.int .u8 0) 1 Try.underlying22 info5 rfl .i64 .i64 m (by omega) (by omega) w⟩

theorem there_new (w : World) (c : Array Value) (t : TypeId) (n : Nat) (hn : c.size = n) : (w.alloc (.cells c t)).there w.heap.size 0 n := fun j hj => by
  rw [Nat.zero_add]
  refine ⟨?_, frozen_of_row _ _ j c t (heap_alloc_new w _)⟩
  rw [cell_of_row _ _ j c t (0, 0) (heap_alloc_new w _), Array.getElem?_eq_getElem (by omega)]
  rfl
theorem rangeAt_nil (w : World) (b o : Nat) : w.rangeAt b o (vals []) := fun j v hv => by simp [vals] at hv

/-- A slice just made of one byte. -/
theorem sl_one (w : World) (v : Int) (n : Nat) (hn : n = w.heap.size) : Sl (w.alloc (.cells #[.int .u8 v] 5)) (some ⟨n, 0, none⟩) [v] := by
  subst hn
  refine .inr ⟨_, rfl, fun j u hu => ?_⟩
  rw [Addr.add_mid, Nat.zero_add, cell_of_row _ _ j _ 5 (0, 0) (heap_alloc_new w _)]
  simpa [vals] using hu

set_option maxRecDepth 100000 in
set_option maxHeartbeats 2000000 in
theorem status_short (cause : Int) (a : Option Addr) (c : Nat) (xs : List Int) (w : World) (hs : Sl w a xs) (hn : xs.length ≤ 32767) :
    Calls Try.prog 6 #[.int .u8 cause, .slice a xs.length c] w fun e w' => ∃ cap, e = .returned (.slice (some ⟨w.heap.size, 0, none⟩) (st cause xs).length cap) ∧ (st cause xs).length ≤ cap ∧ w'.rangeAt w.heap.size 0 (vals (st cause xs)) ∧ Below w.heap.size w w' := by
  obtain ⟨ys, hys⟩ : ∃ ys, ys = xs.take 32767 := ⟨_, rfl⟩
  have hxy : xs = ys := by rw [hys, List.take_of_length_le (by omega)]
  have hs' : Sl w a ys := by rw [← hxy]; exact hs
  have hy : ys.length ≤ 32767 := by rw [← hxy]; exact hn
  rw [show xs.length = ys.length by rw [hxy]]
  have HY : Hid (ys = xs.take 32767) := hys
  clear hxy hs hn hys
  have lt' : ∀ x, a = some x → ys ≠ [] → x.block < w.heap.size := fun x hx hne => by subst hx; exact hs'.lt hne
  obtain ⟨Z, hZ, hmk⟩ := make_at (8 + ys.length) (by omega) (8 + (ys.length : Int)) (by omega)
  have tz := World.there_alloc (there_new w Z 5 _ hZ) (.cells #[.int .u8 65] 5)
  have s1 := (sl_one (w.alloc (.cells Z 5)) 65 (w.heap.size + 1) (by simp)).src 1
  have p1 := there_part tz (0 + 0) (vals [65]).length (by simp [vals]; omega)
  have r1 : (((w.alloc (.cells Z 5)).alloc (.cells #[.int .u8 65] 5)).setCells w.heap.size 0 (vals [65])).rangeAt w.heap.size 0 (vals [65]) :=
    rangeAt_snoc (vs := vals [65]) (rangeAt_nil ((w.alloc (.cells Z 5)).alloc (.cells #[.int .u8 65] 5)) w.heap.size 0) (there_part tz _ _ (by simp [vals]; omega))
  have t1 := World.there_setCells tz w.heap.size 0 (vals [65])
  have g1 := grown_trans (grown_trans (grown_alloc w (.cells Z 5) (some w.heap.size)) (grown_alloc _ (.cells #[.int .u8 65] 5) _)) (grown_setCells w.heap.size (vals [65]) 0 _)
  have z1 : w.heap.size < (((w.alloc (.cells Z 5)).alloc (.cells #[.int .u8 65] 5)).setCells w.heap.size 0 (vals [65])).heap.size := by
    have := (grown_setCells w.heap.size (vals [65]) 0 ((w.alloc (.cells Z 5)).alloc (.cells #[.int .u8 65] 5))).size
    simp at this ⊢
    omega
  go_enter Try.func6, Try.ntmps6
  go_wp2_with (first
    | refine wpList_append_room1 _ rfl (.tmp 15) (.tmp 16) 22 22 rfl 5 _ 1 Try.underlying22 info5 w.heap.size 0 0 (8 + ys.length) rfl _ rfl 1 (vals [65]) s1 (by omega) (fun j hj => (p1 j hj).1) (fun j hj => (p1 j hj).2) ?_)
  clear tz s1 p1
  generalize ((w.alloc (.cells Z 5)).alloc (.cells #[.int .u8 65] 5)).setCells w.heap.size 0 (vals [65]) = W1 at *
  refine (appendIE_short w.heap.size (8 + ys.length) 7 _ 1 [cause] [65] _ (World.rangeAt_alloc r1 _) (World.there_alloc t1 _) (sl_one W1 cause _ rfl) (fun x hx _ => by cases hx; show W1.heap.size ≠ w.heap.size; omega) (by simp) (by simp; omega) (by omega)).mono ?_
  rintro e w2 ⟨rfl, r2, t2, g2⟩
  have g2' := grown_trans g1 (grown_trans (grown_alloc W1 _ _) g2)
  have e2 : ([65] : List Int) ++ ie 7 [cause] = [65, 7, 129, cause] := rfl
  have l2 : ([65] : List Int).length + (ie 7 [cause]).length = 4 := rfl
  rw [e2] at r2
  rw [l2]
  have s2 := hs'.grown g2' (fun x hx hne => by have := lt' x hx hne; omega)
  clear g2 g1 t1 r1 e2 l2 hmk
  go_wp2_with fail
  have fin : ∀ (e : Ending) (w' : World), (e = .returned (.slice (some ⟨w.heap.size, 0, none⟩) (([65, 7, 129, cause] : List Int).length + (ie 21 ys).length) (8 + ys.length)) ∧ w'.rangeAt w.heap.size 0 (vals ([65, 7, 129, cause] ++ ie 21 ys)) ∧ w'.there w.heap.size 0 (8 + ys.length) ∧ w2.grownBy w' (some w.heap.size)) →
      (e = .returned (.slice (some ⟨w.heap.size, 0, none⟩) (st cause xs).length (8 + ys.length)) ∧ w'.rangeAt w.heap.size 0 (vals (st cause xs)) ∧ Below w.heap.size w w') := by
    rintro e w' ⟨rfl, r, _, g⟩
    have e4 : [65, 7, 129, cause] ++ ie 21 ys = st cause xs := by rw [HY.out]; rfl
    rw [e4] at r
    refine ⟨by rw [← e4]; simp; omega, r, ?_⟩
    have gg := grown_trans g2' g
    exact ⟨gg.os, gg.tape, gg.output, gg.size, fun k hk => gg.block k hk (by simp; omega)⟩
  have hil : (st cause xs).length ≤ 8 + ys.length := by
    have e4 : st cause xs = [65, 7, 129, cause] ++ ie 21 ys := by rw [HY.out]; rfl
    rw [e4]
    unfold ie
    split <;> simp <;> omega
  have HF : Hid (_ ∧ _) := ⟨fin, hil⟩
  clear fin hil g2'
  by_cases h128 : ys.length < 128
  · refine (appendIE_short w.heap.size (8 + ys.length) 21 a c ys [65, 7, 129, cause] _ r2 t2 s2 (fun x hx hne => by have := lt' x hx hne; omega) h128 (by simp; omega) (by omega)).mono ?_
    rintro e w3 h3
    obtain ⟨rfl, r3, b3⟩ := HF.out.1 e w3 h3
    clear h3
    go_wp2_with fail
    go_ret
    exact ⟨_, rfl, HF.out.2, r3, b3⟩
  · refine (appendIE_long w.heap.size (8 + ys.length) 21 a c ys [65, 7, 129, cause] _ r2 t2 s2 (fun x hx hne => by have := lt' x hx hne; omega) h128 hy (by simp; omega) (by omega)).mono ?_
    rintro e w3 h3
    obtain ⟨rfl, r3, b3⟩ := HF.out.1 e w3 h3
    clear h3
    go_wp2_with fail
    go_ret
    exact ⟨_, rfl, HF.out.2, r3, b3⟩


set_option maxRecDepth 100000 in
set_option maxHeartbeats 2000000 in
theorem status_long (cause : Int) (b o : Nat) (c : Nat) (xs : List Int) (w : World) (hs : Sl w (some ⟨b, o, none⟩) xs) (hn : 32767 < xs.length) (hm : xs.length ≤ 1048576) (hc : xs.length ≤ c) (hc2 : c ≤ 9223372036854775807) :
    Calls Try.prog 6 #[.int .u8 cause, .slice (some ⟨b, o, none⟩) xs.length c] w fun e w' => ∃ cap, e = .returned (.slice (some ⟨w.heap.size, 0, none⟩) (st cause xs).length cap) ∧ (st cause xs).length ≤ cap ∧ w'.rangeAt w.heap.size 0 (vals (st cause xs)) ∧ Below w.heap.size w w' := by
  obtain ⟨ys, hys⟩ : ∃ ys, ys = xs.take 32767 := ⟨_, rfl⟩
  have hlen : ys.length = 32767 := by rw [hys, List.length_take]; omega
  have hs' : Sl w (some ⟨b, o, none⟩) ys := by
    rcases hs with ⟨h, _⟩ | ⟨x, e, hx⟩
    · cases h
    · refine .inr ⟨x, e, fun j u hu => hx j u ?_⟩
      have hj : j < ys.length := by have := (List.getElem?_eq_some_iff.1 hu).1; rwa [vals_length] at this
      rw [← hu, hys]
      simp only [vals, List.map_take]
      rw [List.getElem?_take_of_lt (by omega)]
  have hlt : b < w.heap.size := hs'.lt (fun e => by rw [e] at hlen; cases hlen)
  have HY : Hid (ys = xs.take 32767) := hys
  have HL : Hid (ys.length = 32767) := hlen
  clear hs hys hlen
  obtain ⟨Z, hZ, hmk⟩ := make_at 32775 (by omega) 32775 rfl
  have tz := World.there_alloc (there_new w Z 5 _ hZ) (.cells #[.int .u8 65] 5)
  have s1 := (sl_one (w.alloc (.cells Z 5)) 65 (w.heap.size + 1) (by simp)).src 1
  have p1 := there_part tz (0 + 0) (vals [65]).length (by simp [vals])
  have r1 : (((w.alloc (.cells Z 5)).alloc (.cells #[.int .u8 65] 5)).setCells w.heap.size 0 (vals [65])).rangeAt w.heap.size 0 (vals [65]) :=
    rangeAt_snoc (vs := vals [65]) (rangeAt_nil ((w.alloc (.cells Z 5)).alloc (.cells #[.int .u8 65] 5)) w.heap.size 0) (there_part tz _ _ (by simp [vals]))
  have t1 := World.there_setCells tz w.heap.size 0 (vals [65])
  have g1 := grown_trans (grown_trans (grown_alloc w (.cells Z 5) (some w.heap.size)) (grown_alloc _ (.cells #[.int .u8 65] 5) _)) (grown_setCells w.heap.size (vals [65]) 0 _)
  have z1 : w.heap.size < (((w.alloc (.cells Z 5)).alloc (.cells #[.int .u8 65] 5)).setCells w.heap.size 0 (vals [65])).heap.size := by
    have := (grown_setCells w.heap.size (vals [65]) 0 ((w.alloc (.cells Z 5)).alloc (.cells #[.int .u8 65] 5))).size
    simp at this ⊢
    omega
  go_enter Try.func6, Try.ntmps6
  go_wp2_with (first
    | refine wpList_append_room1 _ rfl (.tmp 15) (.tmp 16) 22 22 rfl 5 _ 1 Try.underlying22 info5 w.heap.size 0 0 32775 rfl _ rfl 1 (vals [65]) s1 (by omega) (fun j hj => (p1 j hj).1) (fun j hj => (p1 j hj).2) ?_)
  clear tz s1 p1
  generalize ((w.alloc (.cells Z 5)).alloc (.cells #[.int .u8 65] 5)).setCells w.heap.size 0 (vals [65]) = W1 at *
  refine (appendIE_short w.heap.size 32775 7 _ 1 [cause] [65] _ (World.rangeAt_alloc r1 _) (World.there_alloc t1 _) (sl_one W1 cause _ rfl) (fun x hx _ => by cases hx; show W1.heap.size ≠ w.heap.size; omega) (by simp) (by simp) (by omega)).mono ?_
  rintro e w2 ⟨rfl, r2, t2, g2⟩
  have g2' := grown_trans g1 (grown_trans (grown_alloc W1 _ _) g2)
  have e2 : ([65] : List Int) ++ ie 7 [cause] = [65, 7, 129, cause] := rfl
  have l2 : ([65] : List Int).length + (ie 7 [cause]).length = 4 := rfl
  rw [e2] at r2
  rw [l2]
  have off' : Off (some ⟨b, o, none⟩) ys w.heap.size := fun x hx _ => by cases hx; show b ≠ w.heap.size; omega
  have s2 := hs'.grown g2' off'
  clear g2 g1 t1 r1 e2 l2 hmk
  go_wp2_with fail
  have hA := appendIE_long w.heap.size 32775 21 (some ⟨b, o, none⟩) c ys [65, 7, 129, cause] _ r2 t2 s2 off' (by rw [HL.out]; omega) (by rw [HL.out]; omega) (by rw [HL.out]; simp) (by omega)
  rw [HL.out] at hA
  have e4 : [65, 7, 129, cause] ++ ie 21 ys = st cause xs := by rw [HY.out]; rfl
  have hil : (st cause xs).length = 4 + (ie 21 ys).length := by rw [← e4]; simp; omega
  have hie : (ie 21 ys).length = 32770 := by unfold ie; rw [if_neg (by rw [HL.out]; omega)]; simp [HL.out]
  rw [e4] at hA
  have HI : Hid ((st cause xs).length = 4 + (ie 21 ys).length ∧ (ie 21 ys).length = 32770) := ⟨hil, hie⟩
  clear e4 hil hie
  refine hA.mono ?_
  rintro e w3 ⟨rfl, r3, _, g3⟩
  have gg := grown_trans g2' g3
  have b3 : Below w.heap.size w w3 := ⟨gg.os, gg.tape, gg.output, gg.size, fun k hk => gg.block k hk (by simp; omega)⟩
  clear gg g2' g3 hA
  go_wp2_with fail
  go_ret
  exact ⟨_, by rw [HI.out.1]; rfl, by rw [HI.out.1, HI.out.2]; omega, r3, b3⟩

/-- Status. -/
theorem status (cause : Int) (a : Option Addr) (c : Nat) (xs : List Int) (w : World) (hs : Sl w a xs) (ha : xs = [] ∨ ∃ b o, a = some ⟨b, o, none⟩) (hc : xs.length ≤ c) (hm : xs.length ≤ 1048576) (hc2 : c ≤ 9223372036854775807) :
    Calls Try.prog 6 #[.int .u8 cause, .slice a xs.length c] w fun e w' => ∃ cap, e = .returned (.slice (some ⟨w.heap.size, 0, none⟩) (st cause xs).length cap) ∧ (st cause xs).length ≤ cap ∧ w'.rangeAt w.heap.size 0 (vals (st cause xs)) ∧ Below w.heap.size w w' := by
  by_cases hn : xs.length ≤ 32767
  · exact status_short cause a c xs w hs hn
  · rcases ha with rfl | ⟨b, o, rfl⟩
    · simp at hn
    · exact status_long cause b o c xs w hs (by omega) hm hc hc2
end Go.Proofs.Qxb6626311a

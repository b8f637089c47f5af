import Derived.Test.Qxb6626311aBase
namespace Go.Proofs.Qxb6626311a
open Go.ChangeShapes Go.WideShapes Go.ChangeAt Go.RowKit

set_option maxRecDepth 100000 in
set_option maxHeartbeats 2000000 in
theorem appendIE_short (bd cap : Nat) (k : Int) (a : Option Addr) (c : Nat) (xs ys : List Int) (w : World) (hr : w.rangeAt bd 0 (vals ys)) (ht : w.there bd 0 cap)
    (hs : Sl w a xs) (ho : Off a xs bd) (hm : xs.length < 128) (hroom : ys.length + (2 + xs.length) ≤ cap) (_hcap : cap ≤ 4294967296) :
    Calls Try.prog 12 #[.slice (some ⟨bd, 0, none⟩) ys.length cap, .int .u8 k, .slice a xs.length c] w fun e w' =>
      e = .returned (.slice (some ⟨bd, 0, none⟩) (ys.length + (ie k xs).length) cap) ∧ w'.rangeAt bd 0 (vals (ys ++ ie k xs)) ∧ w'.there bd 0 cap ∧ w.grownBy w' (some bd) := by
  have e128 := or128 (n := (xs.length : Int)) (by omega) (by omega)
  have hie : ie k xs = [k, 128 + (xs.length : Int)] ++ xs := by unfold ie; rw [if_pos hm]
  have hil : (ie k xs).length = 2 + xs.length := by rw [hie]; simp; omega
  have t1 := World.there_alloc ht (.cells #[.int .u8 k, .int .u8 (128 + (xs.length : Int))] 5)
  have g1 : w.grownBy ((w.alloc (.cells #[.int .u8 k, .int .u8 (128 + (xs.length : Int))] 5)).setCells bd ys.length (vals [k, 128 + (xs.length : Int)])) (some bd) := grown_trans (grown_alloc w _ _) (grown_setCells bd _ _ _)
  have r1 : ((w.alloc (.cells #[.int .u8 k, .int .u8 (128 + (xs.length : Int))] 5)).setCells bd ys.length (vals [k, 128 + (xs.length : Int)])).rangeAt bd 0 (vals (ys ++ [k, 128 + (xs.length : Int)])) := by
    rw [vals_append, ← vals_length ys]
    exact rangeAt_snoc (World.rangeAt_alloc hr _) (there_part t1 _ _ (by simp [vals_length]; omega))
  have t2 : ((w.alloc (.cells #[.int .u8 k, .int .u8 (128 + (xs.length : Int))] 5)).setCells bd ys.length (vals [k, 128 + (xs.length : Int)])).there bd 0 cap := World.there_setCells t1 bd ys.length (vals [k, 128 + (xs.length : Int)])
  have s2 := (hs.grown g1 ho).src c
  have src1 : Src Try.prog 1 22 (.slice (some ⟨w.heap.size, 0, none⟩) 2 2) 2 (vals [k, 128 + (xs.length : Int)]) (w.alloc (.cells #[.int .u8 k, .int .u8 (128 + (xs.length : Int))] 5)) :=
    Src.ofSlice _ Try.underlying22 ⟨w.heap.size, 0, none⟩ 2 2 _ rfl (fun j u hu => by
      rw [Addr.add_mid, Nat.zero_add, cell_of_row _ _ j _ 5 (0, 0) (heap_alloc_new w _)]
      simpa [vals] using hu) (vals_one _)
  have p1 := there_part t1 (0 + ys.length) (vals [k, 128 + (xs.length : Int)]).length (by simp [vals]; omega)
  have p2 := there_part t2 (0 + (ys.length + 2)) (vals xs).length (by simp [vals]; omega)
  have r3 := rangeAt_snoc (vs := vals xs) r1 (there_part t2 _ _ (by simp [vals_length]; omega))
  have t3 := World.there_setCells t2 bd (ys.length + 2) (vals xs)
  have g3 := grown_trans g1 (grown_setCells bd (vals xs) (ys.length + 2) _)
  rw [← vals_append, List.append_assoc, ← hie] at r3
  have e3 : (vals (ys ++ [k, 128 + (xs.length : Int)])).length = ys.length + 2 := by simp [vals_length]
  rw [e3] at r3
  have HR : Hid (_ ∧ _ ∧ _ ∧ _) := ⟨r3, t3, g3, hil⟩
  clear hs ho hr ht t1 r1 t2 g1 r3 t3 g3 hie hil e3
  go_enter Try.func12, Try.ntmps12
  go_wp2_with (first
    | refine wpList_append_room1 _ rfl (.tmp 14) (.tmp 19) 22 22 rfl 5 _ 1 Try.underlying22 info5 bd 0 ys.length cap rfl _ rfl 2 (vals [k, 128 + (xs.length : Int)]) src1 (by omega) (fun j hj => (p1 j hj).1) (fun j hj => (p1 j hj).2) ?_
    | refine wpList_append_room1 _ rfl (.tmp 33) (.tmp 34) 22 22 rfl 5 _ 1 Try.underlying22 info5 bd 0 (ys.length + 2) cap rfl _ rfl xs.length (vals xs) s2 (by omega) (fun j hj => (p2 j hj).1) (fun j hj => (p2 j hj).2) ?_)
  go_ret
  exact ⟨by rw [HR.out.2.2.2, show ys.length + (2 + xs.length) = ys.length + 2 + xs.length by omega]; rfl, HR.out.1, HR.out.2.1, HR.out.2.2.1⟩

set_option maxRecDepth 100000 in
set_option maxHeartbeats 2000000 in
theorem appendIE_long (bd cap : Nat) (k : Int) (a : Option Addr) (c : Nat) (xs ys : List Int) (w : World) (hr : w.rangeAt bd 0 (vals ys)) (ht : w.there bd 0 cap)
    (hs : Sl w a xs) (ho : Off a xs bd) (hm : ¬ xs.length < 128) (_hm2 : xs.length ≤ 32767) (hroom : ys.length + (3 + xs.length) ≤ cap) (_hcap : cap ≤ 4294967296) :
    Calls Try.prog 12 #[.slice (some ⟨bd, 0, none⟩) ys.length cap, .int .u8 k, .slice a xs.length c] w fun e w' =>
      e = .returned (.slice (some ⟨bd, 0, none⟩) (ys.length + (ie k xs).length) cap) ∧ w'.rangeAt bd 0 (vals (ys ++ ie k xs)) ∧ w'.there bd 0 cap ∧ w.grownBy w' (some bd) := by
  have ew : IntKind.u8.wrap (xs.length : Int) = (xs.length : Int) % 256 := IntKind.wrap_u8 _
  have hie : ie k xs = [k, (xs.length : Int) / 256, (xs.length : Int) % 256] ++ xs := by unfold ie; rw [if_neg hm]
  have hil : (ie k xs).length = 3 + xs.length := by rw [hie]; simp; omega
  have t1 := World.there_alloc ht (.cells #[.int .u8 k, .int .u8 ((xs.length : Int) / 256), .int .u8 ((xs.length : Int) % 256)] 5)
  have g1 : w.grownBy ((w.alloc (.cells #[.int .u8 k, .int .u8 ((xs.length : Int) / 256), .int .u8 ((xs.length : Int) % 256)] 5)).setCells bd ys.length (vals [k, (xs.length : Int) / 256, (xs.length : Int) % 256])) (some bd) := grown_trans (grown_alloc w _ _) (grown_setCells bd _ _ _)
  have r1 : ((w.alloc (.cells #[.int .u8 k, .int .u8 ((xs.length : Int) / 256), .int .u8 ((xs.length : Int) % 256)] 5)).setCells bd ys.length (vals [k, (xs.length : Int) / 256, (xs.length : Int) % 256])).rangeAt bd 0 (vals (ys ++ [k, (xs.length : Int) / 256, (xs.length : Int) % 256])) := by
    rw [vals_append, ← vals_length ys]
    exact rangeAt_snoc (World.rangeAt_alloc hr _) (there_part t1 _ _ (by simp [vals_length]; omega))
  have t2 : ((w.alloc (.cells #[.int .u8 k, .int .u8 ((xs.length : Int) / 256), .int .u8 ((xs.length : Int) % 256)] 5)).setCells bd ys.length (vals [k, (xs.length : Int) / 256, (xs.length : Int) % 256])).there bd 0 cap := World.there_setCells t1 bd ys.length (vals [k, (xs.length : Int) / 256, (xs.length : Int) % 256])
  have s2 := (hs.grown g1 ho).src c
  have src1 : Src Try.prog 1 22 (.slice (some ⟨w.heap.size, 0, none⟩) 3 3) 3 (vals [k, (xs.length : Int) / 256, (xs.length : Int) % 256]) (w.alloc (.cells #[.int .u8 k, .int .u8 ((xs.length : Int) / 256), .int .u8 ((xs.length : Int) % 256)] 5)) :=
    Src.ofSlice _ Try.underlying22 ⟨w.heap.size, 0, none⟩ 3 3 _ rfl (fun j u hu => by
      rw [Addr.add_mid, Nat.zero_add, cell_of_row _ _ j _ 5 (0, 0) (heap_alloc_new w _)]
      simpa [vals] using hu) (vals_one _)
  have p1 := there_part t1 (0 + ys.length) (vals [k, (xs.length : Int) / 256, (xs.length : Int) % 256]).length (by simp [vals]; omega)
  have p2 := there_part t2 (0 + (ys.length + 3)) (vals xs).length (by simp [vals]; omega)
  have r3 := rangeAt_snoc (vs := vals xs) r1 (there_part t2 _ _ (by simp [vals_length]; omega))
  have t3 := World.there_setCells t2 bd (ys.length + 3) (vals xs)
  have g3 := grown_trans g1 (grown_setCells bd (vals xs) (ys.length + 3) _)
  rw [← vals_append, List.append_assoc, ← hie] at r3
  have e3 : (vals (ys ++ [k, (xs.length : Int) / 256, (xs.length : Int) % 256])).length = ys.length + 3 := by simp [vals_length]
  rw [e3] at r3
  have HR : Hid (_ ∧ _ ∧ _ ∧ _) := ⟨r3, t3, g3, hil⟩
  clear hs ho hr ht t1 r1 t2 g1 r3 t3 g3 hie hil e3
  go_enter Try.func12, Try.ntmps12
  go_wp2_with (first
    | refine wpList_append_room1 _ rfl (.tmp 24) (.tmp 31) 22 22 rfl 5 _ 1 Try.underlying22 info5 bd 0 ys.length cap rfl _ rfl 3 (vals [k, (xs.length : Int) / 256, (xs.length : Int) % 256]) src1 (by omega) (fun j hj => (p1 j hj).1) (fun j hj => (p1 j hj).2) ?_
    | refine wpList_append_room1 _ rfl (.tmp 33) (.tmp 34) 22 22 rfl 5 _ 1 Try.underlying22 info5 bd 0 (ys.length + 3) cap rfl _ rfl xs.length (vals xs) s2 (by omega) (fun j hj => (p2 j hj).1) (fun j hj => (p2 j hj).2) ?_)
  go_ret
  exact ⟨by rw [HR.out.2.2.2, show ys.length + (3 + xs.length) = ys.length + 3 + xs.length by omega]; rfl, HR.out.1, HR.out.2.1, HR.out.2.2.1⟩

end Go.Proofs.Qxb6626311a

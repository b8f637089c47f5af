import Derived.Test.Qxb6626311aRead
namespace Go.Proofs.Qxb6626311a
open Go.ChangeShapes Go.WideShapes Go.ChangeAt Go.RowKit

theorem wpList_copy_at {P : Program} {w : World} {ops : Array Oper} {rest : List Oper} {o : Oper} {a : Act} {Q : Exit → Act → World → Prop} (d s : Operand) (t t' : TypeId)
    (ho : o.op = .call { callee := .builtin .copy, args := #[d, s], argTypes := #[t, t'] }) (hgd : o.guard = none) (v u : Value) (hd : a.eval d = v) (hs : a.eval s = u) (v' : Value) (w' : World)
    (hr : ∀ ty, (Builtin.copy_ #[t, t'] ty #[v, u]).run P w = .ok v' w') (h : wpList P ops Q rest (a.put o.dst v') w') : wpList P ops Q (o :: rest) a w :=
  wpList_plain hgd fun _ hK => by
    unfold Oper.wp execOp
    simp only [ho, resolve, invoke, builtin, Sem.run_bind, Sem.run_pure, Result.andThen_ok, List.map_toArray, List.map_cons, List.map_nil, hd, hs, hr]
    exact hK _ _ h

theorem make_len (m : Nat) (hm : m ≤ 4294967296) : ∃ Z : Array Value, Z.size = m ∧ ∀ w, (Instr.makeSlice 22 (.int .i64 (m : Int)) (.int .i64 (m : Int))).run Try.prog w = .ok (.slice (some ⟨w.heap.size, 0, none⟩) m m) (w.alloc (.cells Z 5)) :=
  ⟨_, by simp [madeCells], fun w => run_make_row' 22 5 (.int .u8 0) 1 Try.underlying22 info5 rfl .i64 .i64 m (by omega) (by omega) w⟩

theorem size5 : (Try.prog.info? 5).map (·.size) = some 1 := by kernel_rfl

theorem setCells_size (b : Nat) : ∀ (vs : List Value) (o : Nat) (w : World), (w.setCells b o vs).heap.size = w.heap.size
  | [], _, _ => rfl
  | v :: r, o, w => by rw [World.setCells, setCells_size b r (o + 1)]; simp [World.setCell]

/-- The copy that the laws make first: what it runs to, what the new slice leads to. -/
theorem copy_facts {w : World} {x : Addr} {xs : List Int} (hs : Sl w (some x) xs) (c : Nat) {Z : Array Value} (hZ : Z.size = xs.length) :
    (∀ ty, (Builtin.copy_ #[22, 22] ty #[.slice (some ⟨w.heap.size, 0, none⟩) xs.length xs.length, .slice (some x) xs.length c]).run Try.prog (w.alloc (.cells Z 5)) = .ok (goInt xs.length) ((w.alloc (.cells Z 5)).setCells w.heap.size 0 (vals xs))) ∧
    ((w.alloc (.cells Z 5)).setCells w.heap.size 0 (vals xs)).rangeAt w.heap.size 0 (vals xs) ∧
    Below w.heap.size w ((w.alloc (.cells Z 5)).setCells w.heap.size 0 (vals xs)) ∧ w.heap.size < ((w.alloc (.cells Z 5)).setCells w.heap.size 0 (vals xs)).heap.size := by
  have ht := there_new w Z 5 _ hZ
  have hlen := vals_length xs
  refine ⟨fun ty => ?_, World.rangeAt_setCells_same _ _ 0 _ (by rw [hlen]; exact ht), ?_, by rw [setCells_size]; simp⟩
  · have hs' : Sl (w.alloc (.cells Z 5)) (some x) xs := hs.grown (grown_alloc w _ (some w.heap.size)) (fun y hy hne => by cases hy; have := hs.lt hne; omega)
    have hsrc : ∀ j v, (vals xs)[j]? = some v → (w.alloc (.cells Z 5)).cell? (x.add j) = some v := by
      rcases hs' with ⟨h, _⟩ | ⟨y, e, h⟩
      · cases h
      · cases e; exact h
    have hr := run_copy_cells (P := Try.prog) (w.alloc (.cells Z 5)) 22 22 ty 5 w.heap.size 0 xs.length xs.length x xs.length c (vals xs) Try.underlying22 size5 (by rw [hlen]; exact (Nat.min_self _).symm) hsrc
      (fun j hj => (ht j (by omega)).1) (fun j hj => (ht j (by omega)).2) (vals_one xs)
    rwa [hlen] at hr
  · have g := grown_trans (grown_alloc w (.cells Z 5) (some w.heap.size)) (grown_setCells w.heap.size (vals xs) 0 _)
    exact ⟨g.os, g.tape, g.output, g.size, fun k hk => g.block k hk (by simp; omega)⟩

theorem sl_of_range {w : World} {b : Nat} {xs : List Int} (h : w.rangeAt b 0 (vals xs)) : Sl w (some ⟨b, 0, none⟩) xs :=
  .inr ⟨_, rfl, fun j u hu => by rw [Addr.add_mid]; exact h j u hu⟩

theorem cell_of_range {w : World} {b : Nat} {zs : List Int} (h : w.rangeAt b 0 (vals zs)) (i : Nat) (hi : i < zs.length) : w.cell? ⟨b, i, none⟩ = some (.int .u8 (zs.getD i 0)) := by
  have := h i _ (vals_at hi)
  rwa [Nat.zero_add] at this

theorem rangeAt_below {B : Nat} {w w' : World} {b o : Nat} {cs : List Value} (h : w.rangeAt b o cs) (hb : Below B w w') (hlt : b < B) : w'.rangeAt b o cs := fun j v hv => by
  rw [hb.cell (p := ⟨b, o + j, none⟩) hlt]
  exact h j v hv

/-! ### What Status gives, position by position -/
theorem st_length (cause : Int) (xs : List Int) : (st cause xs).length = (if min xs.length 32767 < 128 then 6 else 7) + min xs.length 32767 := by
  unfold st ie
  rw [List.length_append, List.length_append, List.length_take, show min 32767 xs.length = min xs.length 32767 from Nat.min_comm _ _]
  split <;> simp <;> omega
theorem st_head (cause : Int) (xs : List Int) : (st cause xs).getD 0 0 = 65 ∧ (st cause xs).getD 1 0 = 7 ∧ (st cause xs).getD 2 0 = 129 ∧ (st cause xs).getD 3 0 = cause ∧ (st cause xs).getD 4 0 = 21 := by
  unfold st ie
  split <;> simp
theorem st_short (cause : Int) (xs : List Int) (h : min xs.length 32767 < 128) : (st cause xs).getD 5 0 = 128 + ((min xs.length 32767 : Nat) : Int) ∧ ∀ i, i < min xs.length 32767 → (st cause xs).getD (6 + i) 0 = xs.getD i 0 := by
  have hl : (xs.take 32767).length = min xs.length 32767 := by rw [List.length_take, Nat.min_comm]
  have e : st cause xs = [65, 7, 129, cause, 21, 128 + ((min xs.length 32767 : Nat) : Int)] ++ xs.take 32767 := by
    unfold st ie
    rw [if_pos (by omega), hl]
    simp
  rw [e]
  refine ⟨by simp, fun i hi => ?_⟩
  rw [List.getD_eq_getElem?_getD, List.getElem?_append_right (by simp), List.getD_eq_getElem?_getD]
  simp only [List.length_cons, List.length_nil]
  rw [show 6 + i - (0 + 1 + 1 + 1 + 1 + 1 + 1) = i by omega, List.getElem?_take_of_lt (by omega)]
theorem st_long (cause : Int) (xs : List Int) (h : ¬ min xs.length 32767 < 128) : (st cause xs).getD 5 0 = ((min xs.length 32767 : Nat) : Int) / 256 ∧ (st cause xs).getD 6 0 = ((min xs.length 32767 : Nat) : Int) % 256 ∧
    ∀ i, i < min xs.length 32767 → (st cause xs).getD (7 + i) 0 = xs.getD i 0 := by
  have hl : (xs.take 32767).length = min xs.length 32767 := by rw [List.length_take, Nat.min_comm]
  have e : st cause xs = [65, 7, 129, cause, 21, ((min xs.length 32767 : Nat) : Int) / 256, ((min xs.length 32767 : Nat) : Int) % 256] ++ xs.take 32767 := by
    unfold st ie
    rw [if_neg (by omega), hl]
    simp
  rw [e]
  refine ⟨by simp, by simp, fun i hi => ?_⟩
  rw [List.getD_eq_getElem?_getD, List.getElem?_append_right (by simp), List.getD_eq_getElem?_getD]
  simp only [List.length_cons, List.length_nil]
  rw [show 7 + i - (0 + 1 + 1 + 1 + 1 + 1 + 1 + 1) = i by omega, List.getElem?_take_of_lt (by omega)]
theorem st_other (cause other : Int) (xs : List Int) (i : Nat) (hi : i ≠ 3) : (st other xs).getD i 0 = (st cause xs).getD i 0 := by
  have e : ∀ c, st c xs = [65, 7, 129] ++ ([c] ++ ie 21 (xs.take 32767)) := fun c => by simp [st]
  rw [e, e]
  simp only [List.getD_eq_getElem?_getD]
  by_cases h : i < 3
  · rw [List.getElem?_append_left (by simpa using h), List.getElem?_append_left (by simpa using h)]
  · rw [List.getElem?_append_right (by simp; omega), List.getElem?_append_right (by simp; omega), List.getElem?_append_right (by simp; omega), List.getElem?_append_right (by simp; omega)]
    rfl
end Go.Proofs.Qxb6626311a

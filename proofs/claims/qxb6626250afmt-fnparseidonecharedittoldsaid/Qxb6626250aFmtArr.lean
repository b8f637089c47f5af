import Derived.Test.Qxb6626250aFmtGood
import Derived.Deep.WholeRow
namespace Go.Proofs.Qxb6626250aFmt
open Go.ChangeShapes Go.WideShapes Go.ChangeAt Go.RowKit
open Go.Extern.Stop Go.Stop Go.Extern Go.PlainAid

/-- The value of an array of bytes. -/
def arr (l : List Int) : Array Value := (l.map (Value.int .u8)).toArray

theorem arr_size (l : List Int) : (arr l).size = l.length := by simp [arr]
theorem arr_one (l : List Int) : (arr l).all (·.oneCell') = true := by
  refine Array.all_eq_true_iff_forall_mem.2 fun v hv => ?_
  simp only [arr, List.mem_toArray, List.mem_map] at hv
  obtain ⟨i, _, rfl⟩ := hv
  rfl
theorem arr_at (l : List Int) (i : Nat) (h : i < l.length) : (arr l)[i]? = some (.int .u8 l[i]) := by simp [arr, h]

theorem eqItems_same (d : Nat) (l : List Int) (w : World) : ∀ is : List Nat, (∀ i ∈ is, i < l.length) → (Op.eqItems (d + 1) 5 1 (arr l) (arr l) is).run Tryf.prog w = .ok true w
  | [], _ => by simp [Op.eqItems]
  | i :: is, h => by
    have hp : (part 5 (arr l) (i * 1)).run Tryf.prog w = .ok (.int .u8 (l[i]'(h i (by simp)))) w := by
      have ha : (isAgg 5).run Tryf.prog w = .ok false w := by kernel_rfl
      simp [part, ha, arr_at l i (h i (by simp))]
    have hq := run_equalIn_int (P := Tryf.prog) w d 5 .u8 .u8 (l[i]'(h i (by simp))) (l[i]'(h i (by simp))) Tryf.underlying5
    have hr := eqItems_same d l w is (fun j hj => h j (by simp [hj]))
    simp only [Op.eqItems, Sem.run_bind, hp, Result.andThen_ok, hq]
    simp [hr]

/-- '==' of an array with itself. -/
theorem eq_same (l : List Int) (hl : l.length = 20) (w : World) : (Op.equalIn 10000 23 (.agg (arr l)) (.agg (arr l))).run Tryf.prog w = .ok true w := by
  have hi : ∃ i, Tryf.prog.info? 5 = some i := by
    refine Option.isSome_iff_exists.1 ?_
    kernel_rfl
  obtain ⟨i, hi⟩ := hi
  have hc : Tryf.prog.cellsOf 5 = 1 := by kernel_rfl
  rw [run_equalIn_array w 9999 _ _ Tryf.underlying23 hi, hc]
  exact eqItems_same 9998 l w (List.range 20) (fun i hi => by simp at hi; omega)

section
variable {P : Program}
theorem wpList_wanted {ops : Array Oper} {Q : Exit → Act → World → Prop} {a : Act} {w : World} {rest : List Oper} {o : Oper} (hw : Region.wanted o (yielded ops a.tmps) = true)
    (h : o.wp P a w (fun a' w' => wpList P ops Q rest a' w') Q) : wpList P ops Q (o :: rest) a w := by
  simp only [wpList, hw, if_true]
  exact .inl h

/-- A whole array out of a variable, under a guard that says yes. -/
theorem wpList_load_guarded {ops : Array Oper} {rest : List Oper} {op : Oper} {a : Act} {w : World} {Q : Exit → Act → World → Prop} (ty : TypeId) (x : Operand) (ho : op.op = .load ty x) (hw : Region.wanted op (yielded ops a.tmps) = true)
    (b o : Nat) (hx : a.eval x = .pointer (some ⟨b, o, none⟩)) (cs : List Value) (d : TypeDesc) (hc : w.rangeAt b o cs)
    (hu : P.underlying ty = some d) (hd : d.isRow = true) (hi : (P.info? ty).map (·.size) = some cs.length)
    (h : wpList P ops Q rest (a.put op.dst (.agg cs.toArray)) w) : wpList P ops Q (op :: rest) a w :=
  wpList_wanted hw (wp_load_mid ty x ho b o hx cs d hc hu hd hi h)

/-- A whole array into the block that was made last. -/
theorem wpList_store_new {ops : Array Oper} {rest : List Oper} {op : Oper} {a : Act} {W : World} {Q : Exit → Act → World → Prop} (ty : TypeId) (x y : Operand) (ho : op.op = .store ty x y) (hgd : op.guard = none)
    (w : World) (c c' : Array Value) (hW : W = w.alloc (.cells c ty)) (n : Nat) (hn : n = w.heap.size) (hx : a.eval x = .pointer (some ⟨n, 0, none⟩)) (hy : a.eval y = .agg c')
    (hi : (P.info? ty).map (·.size) = some c'.size) (hs : c.size = c'.size) (h1 : c'.all (·.oneCell') = true)
    (h : wpList P ops Q rest (a.put op.dst undef) (w.alloc (.cells c' ty))) : wpList P ops Q (op :: rest) a W :=
  wpList_plain hgd fun _ hK => by
    subst hn
    subst hW
    unfold Oper.wp execOp
    simp only [ho, hx, hy, Instr.storeAt, Instr.sureAddr, Sem.run_bind, Sem.run_pure, Result.andThen_ok, run_storeVar_new w ty c c' hi hs h1]
    exact hK _ _ h

theorem wpList_alloc_arr {ops : Array Oper} {rest : List Oper} {op : Oper} {a : Act} {w : World} {Q : Exit → Act → World → Prop} (ty : TypeId) (ho : op.op = .alloc ty) (hgd : op.guard = none)
    (c : Array Value) (hz : (zeroValue ty).run P w = .ok (.agg c) w) (n : Nat) (hn : n = w.heap.size)
    (h : wpList P ops Q rest (a.put op.dst (.pointer (some ⟨n, 0, none⟩))) (w.alloc (.cells c ty))) : wpList P ops Q (op :: rest) a w :=
  wpList_plain hgd fun _ hK => by
    subst hn
    unfold Oper.wp execOp
    simp [ho, Instr.alloc, newVar, newRow, hz, Value.cells]
    exact hK _ _ h

theorem wpList_build_none {ops : Array Oper} {rest : List Oper} {op : Oper} {a : Act} {w : World} {Q : Exit → Act → World → Prop} (ty : TypeId) (ho : op.op = .build ty #[]) (hw : Region.wanted op (yielded ops a.tmps) = true)
    (v : Value) (hz : (Instr.build ty #[]).run P w = .ok v w) (h : wpList P ops Q rest (a.put op.dst v) w) : wpList P ops Q (op :: rest) a w :=
  wpList_wanted hw (by
    unfold Oper.wp execOp
    simp [ho, hz]
    exact h)

/-- A whole array out of a variable, no guard. -/
theorem wpList_load_arr {ops : Array Oper} {rest : List Oper} {op : Oper} {a : Act} {w : World} {Q : Exit → Act → World → Prop} (ty : TypeId) (x : Operand) (ho : op.op = .load ty x) (hgd : op.guard = none)
    (b o : Nat) (hx : a.eval x = .pointer (some ⟨b, o, none⟩)) (cs : List Value) (d : TypeDesc) (hc : w.rangeAt b o cs)
    (hu : P.underlying ty = some d) (hd : d.isRow = true) (hi : (P.info? ty).map (·.size) = some cs.length)
    (h : wpList P ops Q rest (a.put op.dst (.agg cs.toArray)) w) : wpList P ops Q (op :: rest) a w :=
  wpList_load_mid hgd ty x ho b o hx cs d hc hu hd hi h
end

theorem size23' (l : List Int) (hl : l.length = 20) : (Tryf.prog.info? 23).map (·.size) = some (arr l).size := by rw [arr_size, hl]; exact size23
theorem size24' (l : List Int) (hl : l.length = 20) : (Tryf.prog.info? 24).map (·.size) = some (arr l).size := by rw [arr_size, hl]; exact size24

/-- The zero id, the id that a text of digits stands for. -/
def zl : List Int := List.replicate 20 0
def db (x : Nat → Int) : List Int := (List.range 20).map (dbyte x)
theorem zl_length : zl.length = 20 := rfl
theorem db_length (x : Nat → Int) : (db x).length = 20 := by simp [db]
theorem zero24 (w : World) : (zeroValue 24).run Tryf.prog w = .ok (.agg (arr zl)) w := by kernel_rfl
theorem zero23 (w : World) : (zeroValue 23).run Tryf.prog w = .ok (.agg (arr zl)) w := by kernel_rfl
theorem build23 (w : World) : (Instr.build 23 #[]).run Tryf.prog w = .ok (.agg (arr zl)) w := by kernel_rfl
theorem Z20_arr : Z20 = arr zl := rfl
theorem dec_arr (x : Nat → Int) : (dec x 20).toArray = arr (db x) := by simp [dec, arr, db]
end Go.Proofs.Qxb6626250aFmt

import Derived.Test.Qxb6626250aFmtNibCard
import Derived.Test.Qxb6626250aFmtEditOk
namespace Go.Proofs.Qxb6626250aFmt
open Go.ChangeShapes Go.WideShapes Go.ChangeAt Go.RowKit Go.Kit
open Go.ChangeMaps (open_string shut_string)
open Go.Extern.Stop Go.Stop Go.Extern Go.PlainAid

/-- The number in a cell. -/
def numOf : Value → Int | .int _ n => n | _ => 0

theorem open_arr20 {H : Type} {enc : TypeId × Value → H} {W : World} {base fuel : Nat} {sp : Nat → Bool} {held : Bool} {cs : Array Value} {x : DataW H × List MemPlace} (hsz : cs.size = 20)
    (hf : DataW.trod enc Tryf.prog W base sp held fuel 23 cs.toList = some x) : ∃ l : List Int, l.length = 20 ∧ cs = arr l ∧ ∀ i, i < 20 → 0 ≤ l.getD i 0 ∧ l.getD i 0 ≤ 255 := by
  obtain ⟨xs, m, rfl, rfl, _, hlen, hi⟩ := DataW.trod_array Tryf.underlying23 hf
  have hc5 : Tryf.prog.cellsOf 5 = 1 := by kernel_rfl
  rw [hc5] at hi
  have hcell : ∀ i (h : i < 20), ∃ a : Int, cs[i]'(by omega) = .int .u8 a ∧ (Lit.int .u8 a).wf = true := fun i h => by
    have h1 := hi i h
    rw [List.getElem?_eq_getElem (by omega)] at h1
    obtain ⟨a, e0, _, wa⟩ := DataW.trod_int Tryf.underlying5 h1
    refine ⟨a, ?_, wa⟩
    have e1 : (cs.toList.drop (i * 1)).take 1 = [cs[i]'(by omega)] := by
      rw [Nat.mul_one, List.drop_eq_getElem_cons (by simpa using (show i < cs.size by omega)), List.take_succ_cons]
      simp
    rw [e1] at e0
    simpa using e0
  refine ⟨cs.toList.map numOf, by simpa using hsz, ?_, fun i h => ?_⟩
  · apply Array.ext
    · simp [arr]
    · intro i h1 h2
      obtain ⟨a, ha, _⟩ := hcell i (by omega)
      simp [arr, numOf, ha]
  · obtain ⟨a, ha, wa⟩ := hcell i h
    have hb := bounds_u8 wa
    have : (cs.toList.map numOf).getD i 0 = a := by
      simp [List.getD, show i < cs.size by omega, ha, numOf]
    rw [this]
    exact hb

/-- The law's walk, every id, position and byte. -/
theorem lawEdit (l : List Int) (hl : l.length = 20) (hb : ∀ i, i < 20 → 0 ≤ l.getD i 0 ∧ l.getD i 0 ≤ 255) (p c : Int) (c0 : 0 ≤ c) (c1 : c ≤ 255) (w : World) :
    Calls Tryf.prog 4 #[.agg (arr l), .int .i64 p, .int .u8 c] w fun e w' => e = .returned (.bool true) ∧ Below w.heap.size w w' := by
  by_cases h : p < 0 ∨ 40 ≤ p
  · exact edit_out l p c w h
  · obtain ⟨P, rfl⟩ := Int.eq_ofNat_of_zero_le (show 0 ≤ p by omega)
    cases hc : hexB c
    · exact edit_bad l hl hb P (by omega) c c0 c1 hc w
    · exact edit_ok l hl hb P (by omega) c c0 c1 hc (P / 2) (by omega) rfl w

theorem laid_met4 (os : Os) (args : Array Value) : laidMet Tryf.prog Rows.fnParseIDOneCharEditRow.laid ((laidIn (World.holding Tryf.prog os ⟨#[.cells #[.string lenText] 46], #[], []⟩) (World.holding Tryf.prog default ⟨#[], #[], []⟩).heap.size).forCall (fun _ _ => 0) ⟨#[], args, []⟩).memory :=
  laidMet_of_run3 8 (by kernel_rfl) (by kernel_rfl) (by kernel_rfl)

set_option maxRecDepth 100000 in
theorem edit_lifted (os : Os) (started : os.Started) (H : Type) (enc : TypeId × Value → H) :
    ReturnsInTold none {} Tryf.checked os 4 .any Input.okWide ((OpenSpec.ofChange Rows.fnParseIDOneCharEditSpec).preRow enc Tryf.prog Tryf.f4 [] false Rows.fnParseIDOneCharEditRow.laid) (fun F => ((OpenSpec.ofChange Rows.fnParseIDOneCharEditSpec).at F).post enc Tryf.prog Tryf.f4 false true false false) (aloneAtReturn Tryf.prog) nothingAlways := by
  refine returnsInTold_of_row (C := Tryf.checked) (s := OpenSpec.ofChange Rows.fnParseIDOneCharEditSpec) (by kernel_rfl) own started (by kernel_rfl) Tryf.func4
    (OpenSpec.witness_stopped_at (enc := enc) (C := Tryf.checked) false (laidIn (World.holding Tryf.prog os ⟨#[.cells #[.string lenText] 46], #[], []⟩) (World.holding Tryf.prog default ⟨#[], #[], []⟩).heap.size) #[.agg (arr zl), .int .i64 0, .int .u8 0] rfl (by kernel_rfl) (by kernel_rfl) (by kernel_rfl)
      (OpenSpec.preRow_of_B rfl 8 (by kernel_rfl) (by kernel_rfl) (laid_met4 os _))) ?_
  intro F W base args ds gs before _ hF hval0 hW _ _ hsz hL _
  have hval : ∀ (j : Nat) t v, Tryf.f4.params[j]? = some t → args[j]? = some v → Value.okWide Tryf.prog W .any base t v := hval0
  have hW' := hW
  obtain ⟨p, q, hA0, hV, rfl, _, _⟩ := hW
  have hA : DataW.TrodAll enc Tryf.prog W 0 (fun _ => true) true Tryf.f4.params.toList args.toList ds p := hA0
  rw [Tryf.params4] at hA hval
  obtain ⟨v0, v1, v2, d0, d1, d2, p0, p1, p2, rfl, rfl, rfl, h0, h1, h2⟩ := trodAll_three hA
  obtain ⟨rfl, rfl⟩ := trodVars_none hV
  obtain ⟨cs, rfl, hcs, _⟩ : ∃ cs, v0 = .agg cs ∧ cs.size = Tryf.prog.cellsOf 23 ∧ Row.okWide Tryf.prog W .any base 23 cs := by
    have := hval 0 23 v0 rfl rfl
    simpa [Value.okWide, Tryf.underlying23] using this
  have hcs' : cs.size = 20 := by rw [hcs]; kernel_rfl
  have k0 := h0
  have lt0 : ∀ x ∈ p0, x.block < W.heap.size := by obtain ⟨m, hm⟩ := k0; exact DataW.trod_lt m _ _ _ hm
  obtain ⟨l, hl, rfl, hb⟩ : ∃ l : List Int, l.length = 20 ∧ cs = arr l ∧ ∀ i, i < 20 → 0 ≤ l.getD i 0 ∧ l.getD i 0 ≤ 255 := by
    obtain ⟨fuel, hf⟩ := h0
    simp only [Value.cells] at hf
    exact open_arr20 hcs' hf
  obtain ⟨a1, rfl, rfl, rfl, w1⟩ := open_int Tryf.underlying3 (hval 1 3 v1 rfl rfl) h1
  obtain ⟨a2, rfl, rfl, rfl, w2⟩ := open_int Tryf.underlying5 (hval 2 5 v2 rfl rfl) h2
  have hc := bounds_u8 w2
  clear hA0 hval0
  refine (lawEdit l hl hb a1 a2 hc.1 hc.2 W).mono fun e W' ⟨he, bel⟩ => ?_
  subst he
  exact ⟨_, rfl, _, _, _, [], _, [], hW', trodAll_mk1 (shut_bool Tryf.underlying4 _), trodAll_cons_mk (Below.trod laidOut (by kernel_rfl) (of_decide_eq_true (by kernel_rfl)) k0 bel lt0) (trodAll_cons_mk (shut_int Tryf.underlying3 w1) (trodAll_cons_mk (shut_int Tryf.underlying5 w2) trodAll_mk0)), rfl, bel.frame _, fun h => by cases h⟩

/-- THE STATEMENT. -/
theorem editProved : Rows.FnParseIDOneCharEditToldSaid :=
  Claim7.holds_of_told_tied_any_at .later 4 Tryf.f4 "fmt.errorf" [] [] _ _ _ _ _ (by kernel_rfl) rfl rfl rfl laidOut (by kernel_rfl) rfl ⟨rfl, rfl, rfl, rfl, rfl, rfl, rfl⟩ rfl rfl (by kernel_rfl) (by kernel_rfl) Tryf.func4 (by kernel_rfl)
    (of_decide_eq_true (by kernel_rfl)) (of_decide_eq_true (by kernel_rfl)) stops.symm rfl stopKnobs.symm (by kernel_rfl)
    (by kernel_rfl) (by kernel_rfl) (by kernel_rfl) (by kernel_rfl) (by kernel_rfl) (by kernel_rfl) (by kernel_rfl) (by kernel_rfl) (by kernel_rfl) rfl (by kernel_rfl) rfl rfl
    rfl rfl
    rfl (by kernel_rfl) (by kernel_rfl) (by kernel_rfl) (by decide) (by kernel_rfl) fnParseIDOneCharEdit_row_tie
    (OpenClaim.moreEntering_of (by kernel_rfl) (by kernel_rfl) (by kernel_rfl) (by kernel_rfl) (by kernel_rfl) (by kernel_rfl) (by kernel_rfl) (by kernel_rfl) (by kernel_rfl) (by kernel_rfl))
    ⟨_, WideRow.started_initial, quiet _⟩
    (fun os started _ H enc _ => edit_lifted os started H enc)
#print axioms editProved
end Go.Proofs.Qxb6626250aFmt

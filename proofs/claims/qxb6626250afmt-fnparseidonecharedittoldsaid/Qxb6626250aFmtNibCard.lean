import Derived.Test.Qxb6626250aFmtCards
import Derived.Test.Qxb6626250aFmtTie
import Derived.Test.Qxb6626250aFmtNibOk
import Derived.ChangeSlices
import Derived.ChangeSame
import Derived.ChangeMaps5
import Derived.JoinedOf
import Derived.Carry
import Derived.Stop.JoinedAt
import Derived.Stop.JoinedTold
import Derived.SevenToldRow
import Derived.SevenTiedAt
import Derived.Deep.DeepLaidRun
import Derived.Deep.LoopGhost
namespace Go.Proofs.Qxb6626250aFmt
open Go.ChangeShapes Go.WideShapes Go.ChangeAt Go.RowKit Go.Kit
open Go.ChangeMaps (open_string shut_string)
open Go.Extern.Stop Go.Stop Go.Extern Go.PlainAid

/-- The law's walk, every string. -/
theorem lawNib (s : ByteArray) (w : World) (hs : s.size ≤ 2 ^ 63 - 1) : Calls Tryf.prog 3 #[.string s] w fun e w' => e = .returned (.bool true) ∧ Below w.heap.size w w' := by
  by_cases h1 : 1048576 < s.size
  · exact nib_long s w hs h1
  by_cases h2 : s.size = 40
  · by_cases h3 : ∃ m, m < 40 ∧ hexB (bt s m) = false
    · obtain ⟨m, ⟨hm, hb⟩, hleast⟩ := exists_least h3
      refine nib_bad s w h2 m hm hb fun j hj => ?_
      cases hj' : hexB (bt s j)
      · have := hleast j ⟨by omega, hj'⟩
        omega
      · rfl
    · refine nib_ok s w h2 fun j hj => ?_
      cases hj' : hexB (bt s j)
      · exact absurd ⟨j, hj, hj'⟩ h3
      · rfl
  · exact nib_len s w (by omega) h2

theorem own : ownKnob Tryf.prog.godebug = none := by kernel_rfl
theorem laidOut : laidOutB Tryf.pinned.checked.prog = true := by kernel_rfl
theorem stops : Tryf.pinned.checked.prog.stops = ["fmt.errorf"] := by kernel_rfl
theorem stopKnobs : Tryf.pinned.checked.prog.stopKnobs = [] := by kernel_rfl
theorem quiet (os : Os) : Stop.quiet Tryf.pinned.checked.prog os := by
  intro k hk
  rw [stopKnobs] at hk
  cases hk

/-- What encoding-hex's ErrLength says. -/
def lenText : ByteArray := ⟨#[101, 110, 99, 111, 100, 105, 110, 103, 47, 104, 101, 120, 58, 32, 111, 100, 100, 32, 108, 101, 110, 103, 116, 104, 32, 104, 101, 120, 32, 115, 116, 114, 105, 110, 103]⟩
/-- A block's cells laid anew. -/
def relaid (cs : Array Value) : Obj → Obj
  | .cells _ t frozen => .cells cs t frozen
  | o => o
/-- The start that is shown to be there: ErrLength as its initialiser lays it. -/
def laidIn (w0 : World) (n : Nat) : World := { w0 with heap := w0.heap.modify 0 (relaid #[.iface 44 (.pointer (some ⟨n, 0, none⟩))]) }

theorem laid_met (os : Os) (args : Array Value) : laidMet Tryf.prog Rows.fnParseIDMatchesNibbleModelRow.laid ((laidIn (World.holding Tryf.prog os ⟨#[.cells #[.string lenText] 46], #[], []⟩) (World.holding Tryf.prog default ⟨#[], #[], []⟩).heap.size).forCall (fun _ _ => 0) ⟨#[], args, []⟩).memory :=
  laidMet_of_run3 8 (by kernel_rfl) (by kernel_rfl) (by kernel_rfl)

set_option maxRecDepth 100000 in
theorem nib_lifted (os : Os) (started : os.Started) (H : Type) (enc : TypeId × Value → H) :
    ReturnsInTold none {} Tryf.checked os 3 .any Input.okWide ((OpenSpec.ofChange Rows.fnParseIDMatchesNibbleModelSpec).preRow enc Tryf.prog Tryf.f3 [] false Rows.fnParseIDMatchesNibbleModelRow.laid) (fun F => ((OpenSpec.ofChange Rows.fnParseIDMatchesNibbleModelSpec).at F).post enc Tryf.prog Tryf.f3 false true false false) (aloneAtReturn Tryf.prog) nothingAlways := by
  refine returnsInTold_of_row (C := Tryf.checked) (s := OpenSpec.ofChange Rows.fnParseIDMatchesNibbleModelSpec) (by kernel_rfl) own started (by kernel_rfl) Tryf.func3
    (OpenSpec.witness_stopped_at (enc := enc) (C := Tryf.checked) false (laidIn (World.holding Tryf.prog os ⟨#[.cells #[.string lenText] 46], #[], []⟩) (World.holding Tryf.prog default ⟨#[], #[], []⟩).heap.size) #[.string ⟨#[]⟩] rfl (by kernel_rfl) (by kernel_rfl) (by kernel_rfl)
      (OpenSpec.preRow_of_B rfl 8 (by kernel_rfl) (by kernel_rfl) (laid_met os _))) ?_
  intro F W base args ds gs before _ hF hval0 hW _ _ hsz hL _
  have hval : ∀ (j : Nat) t v, Tryf.f3.params[j]? = some t → args[j]? = some v → Value.okWide Tryf.prog W .any base t v := hval0
  have hW' := hW
  obtain ⟨p, q, hA0, hV, rfl, _, _⟩ := hW
  have hA : DataW.TrodAll enc Tryf.prog W 0 (fun _ => true) true Tryf.f3.params.toList args.toList ds p := hA0
  rw [Tryf.params3] at hA hval
  obtain ⟨v0, d0, rfl, rfl, h0⟩ := trodAll_one hA
  obtain ⟨rfl, rfl⟩ := trodVars_none hV
  obtain ⟨s, rfl, rfl, rfl, ws⟩ := open_string Tryf.underlying9 (hval 0 9 v0 rfl rfl) h0
  clear hA0 hval0
  simp only [List.append_nil] at hW'
  refine (lawNib s W ws).mono fun e W' ⟨he, bel⟩ => ?_
  subst he
  exact ⟨_, rfl, _, _, _, [], [], [], hW', trodAll_mk1 (shut_bool Tryf.underlying4 _), trodAll_mk1 (shut_string Tryf.underlying9 ws), rfl, bel.frame _, fun h => by cases h⟩

/-- THE STATEMENT. -/
theorem nibProved : Rows.FnParseIDMatchesNibbleModelToldSaid :=
  Claim7.holds_of_told_tied_any_at .later 3 Tryf.f3 "fmt.errorf" [] [] _ _ _ _ _ (by kernel_rfl) rfl rfl rfl laidOut (by kernel_rfl) rfl ⟨rfl, rfl, rfl, rfl, rfl, rfl, rfl⟩ rfl rfl (by kernel_rfl) (by kernel_rfl) Tryf.func3 (by kernel_rfl)
    (of_decide_eq_true (by kernel_rfl)) (of_decide_eq_true (by kernel_rfl)) stops.symm rfl stopKnobs.symm (by kernel_rfl)
    (by kernel_rfl) (by kernel_rfl) (by kernel_rfl) (by kernel_rfl) (by kernel_rfl) (by kernel_rfl) (by kernel_rfl) (by kernel_rfl) (by kernel_rfl) rfl (by kernel_rfl) rfl rfl
    rfl rfl
    rfl (by kernel_rfl) (by kernel_rfl) (by kernel_rfl) (by decide) (by kernel_rfl) fnParseIDMatchesNibbleModel_row_tie
    (OpenClaim.moreEntering_of (by kernel_rfl) (by kernel_rfl) (by kernel_rfl) (by kernel_rfl) (by kernel_rfl) (by kernel_rfl) (by kernel_rfl) (by kernel_rfl) (by kernel_rfl) (by kernel_rfl))
    ⟨_, WideRow.started_initial, quiet _⟩
    (fun os started _ H enc _ => nib_lifted os started H enc)
#print axioms nibProved
end Go.Proofs.Qxb6626250aFmt

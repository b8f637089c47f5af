/-
  DERIVED. GIVEN WITH THE SEED: THE CARDS: each row of Qxb6626250aFmtRows.lean that lists a variable, with what it lists TIED to the program's text (the seventh form; the later family's looks); each row that meets fmt, with fmt's text TOLD by the authors' own Lean function (tested against real Go, not proved from fmt's source: count such statements apart). THE CARD IS WHAT COUNTS. Prove the row's statement (the work); the ties are given (Qxb6626250aFmtTie.lean); close each card by the builder's one call (the guide's Derived/Test/ToyasCard.lean, 'card_holds'). Laid BY PROGRAM, IN A SANDBOX (cutbox-door.mjs). By AI agents, Wed Nov 11 2026. No macro, syntax, notation, axiom, sorry.
-/
import Derived.Test.Qxb6626250aFmtRows
import GoSem.ClaimSeven
namespace Go.Proofs.Qxb6626250aFmt
namespace Rows

/-- THE TOLD AND TIED CARD OF 'zzlaws_root_b1.FnParseIDMatchesNibbleModel'. -/
def fnParseIDMatchesNibbleModelCard : Claim7 := { stood := { row := fnParseIDMatchesNibbleModelRow, standIns := [], harness := (true, "5d6f6b8660ed7c6b02330bc1c98452f8d88c13c9f2586bcd41610134be5e7b8e"), looks := false }, told := true, laidByText := true, laidKinds := [.called], laidTests := true, laidLooks := .later, goes := false }
def FnParseIDMatchesNibbleModelToldSaid : Prop := Claim7.holds Tryf.pinned (.plain (OpenSpec.ofChange fnParseIDMatchesNibbleModelSpec)) fnParseIDMatchesNibbleModelCard
/-- ITS FALSE NEIGHBOUR. Refute it at one input. -/
def FnParseIDMatchesNibbleModelToldWrongFalsely : Prop := Claim7.holds Tryf.pinned (.plain (OpenSpec.ofChange fnParseIDMatchesNibbleModelWrong)) fnParseIDMatchesNibbleModelCard

/-- THE TOLD AND TIED CARD OF 'zzlaws_root_b1.FnParseIDOneCharEdit'. -/
def fnParseIDOneCharEditCard : Claim7 := { stood := { row := fnParseIDOneCharEditRow, standIns := [], harness := (true, "5d6f6b8660ed7c6b02330bc1c98452f8d88c13c9f2586bcd41610134be5e7b8e"), looks := false }, told := true, laidByText := true, laidKinds := [.called], laidTests := true, laidLooks := .later, goes := false }
def FnParseIDOneCharEditToldSaid : Prop := Claim7.holds Tryf.pinned (.plain (OpenSpec.ofChange fnParseIDOneCharEditSpec)) fnParseIDOneCharEditCard
/-- ITS FALSE NEIGHBOUR. Refute it at one input. -/
def FnParseIDOneCharEditToldWrongFalsely : Prop := Claim7.holds Tryf.pinned (.plain (OpenSpec.ofChange fnParseIDOneCharEditWrong)) fnParseIDOneCharEditCard
end Rows
end Go.Proofs.Qxb6626250aFmt

/-
  NARROWER THAN 'FOR EVERY INPUT', by the rows' own cells (each row's printed sentence says how): FnParseIDMatchesNibbleModel: laid · FnParseIDOneCharEdit: laid.
  DERIVED. THE GIVEN ROWS OF THIS SEAT. 2 by the template 'for every input the law returns true; each argument reads behind the call as it read before'; 0 by the template 'total and deterministic' (their statements: Qxb6626250aFmtTotals.lean).
  GIVEN WITH THE SEED: the statements are not yours to turn. If you find one false, say at which input.
  Laid BY PROGRAM, IN A SANDBOX (cutbox-rows.mjs): the forced cells as the released guide's own fill.sh prints them over the translation cb287649241a8c69… (all of the seat's roots in one cut). By AI agents, Wed Nov 11 2026. No macro, syntax, notation, axiom, sorry.
-/
import Derived.Test.Qxb6626250aFmtChecked
import GoSem.Claim
import GoSem.ClaimJoined
import GoSem.ClaimMapViews
import Derived.JoinedTies
import Derived.KernelRfl
namespace Go.Proofs.Qxb6626250aFmt
/- THE CELL 'sum', in the pinned program and in every row, IS THE sha256 OF THE DUMP (.gsa) THAT Qxb6626250aFmtProg.lean LOADS. Nothing in Lean hashes anything: it is a label: what it is worth is what the hold of that sum in a sandbox is worth. -/
noncomputable def Tryf.pinned : Pinned := { name := "qxb6626250afmt", sum := "cb287649241a8c697b38696b8f45674dee146b65f8151d54b13a14272a9bd98d", checked := Tryf.checked }
namespace Rows
def none {H : Type} : Left H := { results := [], args := [] }

/- WHAT THE LISTED PACKAGE-LEVEL VARIABLES READ AS WHEN THE CALL BEGINS. Each datum BY PROGRAM (the guide's laid-datum.mjs) off the statement by which the dump's own 'gosem.cut.vars' lays the variable. In a bare row this is a premise. The card (Qxb6626250aFmtCards.lean) ties it to the program's text. -/
def laid_encoding_hex_ErrLength {H : Type} : DataW H := .iface "*errors.errorString" (.ptr (.agg [.lit (.string [101, 110, 99, 111, 100, 105, 110, 103, 47, 104, 101, 120, 58, 32, 111, 100, 100, 32, 108, 101, 110, 103, 116, 104, 32, 104, 101, 120, 32, 115, 116, 114, 105, 110, 103])]))

/-- 'zzlaws_root_b1.FnParseIDMatchesNibbleModel': WHATEVER THE INPUT: true; the input reads as it did. -/
def fnParseIDMatchesNibbleModelSpec : ChangeSpec := { name := "fnParseIDMatchesNibbleModel", fn := fun _ => fun
  | [d] => { results := [.lit (.bool true)], args := [d] }
  | _ => none }
def fnParseIDMatchesNibbleModelRow : OpenClaim := { program := "qxb6626250afmt", sum := "cb287649241a8c697b38696b8f45674dee146b65f8151d54b13a14272a9bd98d", func := "example.com/sixhop/sixhop/zzlaws_root_b1.FnParseIDMatchesNibbleModel", spec := "fnParseIDMatchesNibbleModel", stops := ["fmt.errorf"], inPlace := ["fmt.errorf"], named := ["encoding/hex.ErrLength"], apart := false, laid := [("encoding/hex.ErrLength", laid_encoding_hex_ErrLength)] }
/-- NO THEOREM (fmt's text is open here; it may be false): for the released tool's asking of the row's closed facts alone. THE STATEMENT IS 'FnParseIDMatchesNibbleModelToldSaid' (Qxb6626250aFmtCards.lean). -/
def FnParseIDMatchesNibbleModelFormAsk : Prop := fnParseIDMatchesNibbleModelRow.holds Tryf.pinned (OpenSpec.ofChange fnParseIDMatchesNibbleModelSpec)

/-- ITS FALSE NEIGHBOUR: 'it returns false'. Refute it at one input. -/
def fnParseIDMatchesNibbleModelWrong : ChangeSpec := { name := "fnParseIDMatchesNibbleModel", fn := fun _ => fun
  | [d] => { results := [.lit (.bool false)], args := [d] }
  | _ => none }
def FnParseIDMatchesNibbleModelWrongFormAsk : Prop := fnParseIDMatchesNibbleModelRow.holds Tryf.pinned (OpenSpec.ofChange fnParseIDMatchesNibbleModelWrong)

/-- 'zzlaws_root_b1.FnParseIDOneCharEdit': WHATEVER THE INPUT: true; the input reads as it did. -/
def fnParseIDOneCharEditSpec : ChangeSpec := { name := "fnParseIDOneCharEdit", fn := fun _ => fun
  | [d1, d2, d3] => { results := [.lit (.bool true)], args := [d1, d2, d3] }
  | _ => none }
def fnParseIDOneCharEditRow : OpenClaim := { program := "qxb6626250afmt", sum := "cb287649241a8c697b38696b8f45674dee146b65f8151d54b13a14272a9bd98d", func := "example.com/sixhop/sixhop/zzlaws_root_b1.FnParseIDOneCharEdit", spec := "fnParseIDOneCharEdit", stops := ["fmt.errorf"], inPlace := ["fmt.errorf"], named := ["encoding/hex.ErrLength"], apart := false, laid := [("encoding/hex.ErrLength", laid_encoding_hex_ErrLength)] }
/-- NO THEOREM (fmt's text is open here; it may be false): for the released tool's asking of the row's closed facts alone. THE STATEMENT IS 'FnParseIDOneCharEditToldSaid' (Qxb6626250aFmtCards.lean). -/
def FnParseIDOneCharEditFormAsk : Prop := fnParseIDOneCharEditRow.holds Tryf.pinned (OpenSpec.ofChange fnParseIDOneCharEditSpec)

/-- ITS FALSE NEIGHBOUR: 'it returns false'. Refute it at one input. -/
def fnParseIDOneCharEditWrong : ChangeSpec := { name := "fnParseIDOneCharEdit", fn := fun _ => fun
  | [d1, d2, d3] => { results := [.lit (.bool false)], args := [d1, d2, d3] }
  | _ => none }
def FnParseIDOneCharEditWrongFormAsk : Prop := fnParseIDOneCharEditRow.holds Tryf.pinned (OpenSpec.ofChange fnParseIDOneCharEditWrong)

end Rows
end Go.Proofs.Qxb6626250aFmt

/-
  No cell of these rows narrows 'for every input' (looked for: loops, veiled, ifaces, maps, wideKeys, modest, calm, conditions, laid).
  DERIVED. THE GIVEN ROWS OF THIS SEAT. 2 by the template 'for every input the law returns true; each argument reads behind the call as it read before'; 0 by the template 'total and deterministic' (their statements: Qxb6626311aTotals.lean).
  GIVEN WITH THE SEED: the statements are not yours to turn. If you find one false, say at which input.
  Laid BY PROGRAM, IN A SANDBOX (cutbox-rows.mjs): the forced cells as the released guide's own fill.sh prints them over the translation eaedde7fef502996… (all of the seat's roots in one cut). By AI agents, Wed Nov 11 2026. No macro, syntax, notation, axiom, sorry.
-/
import Derived.Test.Qxb6626311aChecked
import GoSem.Claim
import GoSem.ClaimJoined
import GoSem.ClaimMapViews
import Derived.JoinedTies
import Derived.KernelRfl
namespace Go.Proofs.Qxb6626311a
/- THE CELL 'sum', in the pinned program and in every row, IS THE sha256 OF THE DUMP (.gsa) THAT Qxb6626311aProg.lean LOADS. Nothing in Lean hashes anything: it is a label: what it is worth is what the hold of that sum in a sandbox is worth. -/
noncomputable def Try.pinned : Pinned := { name := "qxb6626311a", sum := "eaedde7fef5029964805dfdb1c444b8c81e013ec95901efabc0d1077a615658c", checked := Try.checked }
namespace Rows
def none {H : Type} : Left H := { results := [], args := [] }

/-- 'zzlaws_pkg_bssgp_b1.FnStatusCarriesCauseAndPDU': WHATEVER THE INPUT: true; the input reads as it did. -/
def fnStatusCarriesCauseAndPDUSpec : ChangeSpec := { name := "fnStatusCarriesCauseAndPDU", fn := fun _ => fun
  | [d1, d2, d3] => { results := [.lit (.bool true)], args := [d1, d2, d3] }
  | _ => none }
def fnStatusCarriesCauseAndPDURow : OpenClaim := { program := "qxb6626311a", sum := "eaedde7fef5029964805dfdb1c444b8c81e013ec95901efabc0d1077a615658c", func := "example.com/corelay/corelay/zzlaws_pkg_bssgp_b1.FnStatusCarriesCauseAndPDU", spec := "fnStatusCarriesCauseAndPDU", apart := false }
def FnStatusCarriesCauseAndPDUSaid : Prop := fnStatusCarriesCauseAndPDURow.holds Try.pinned (OpenSpec.ofChange fnStatusCarriesCauseAndPDUSpec)

/-- ITS FALSE NEIGHBOUR: 'it returns false'. Refute it at one input. -/
def fnStatusCarriesCauseAndPDUWrong : ChangeSpec := { name := "fnStatusCarriesCauseAndPDU", fn := fun _ => fun
  | [d1, d2, d3] => { results := [.lit (.bool false)], args := [d1, d2, d3] }
  | _ => none }
def FnStatusCarriesCauseAndPDUWrongFalsely : Prop := fnStatusCarriesCauseAndPDURow.holds Try.pinned (OpenSpec.ofChange fnStatusCarriesCauseAndPDUWrong)

/-- 'zzlaws_pkg_bssgp_b1.FnStatusGrowsByWhatIsAppended': WHATEVER THE INPUT: true; the input reads as it did. -/
def fnStatusGrowsByWhatIsAppendedSpec : ChangeSpec := { name := "fnStatusGrowsByWhatIsAppended", fn := fun _ => fun
  | [d1, d2, d3] => { results := [.lit (.bool true)], args := [d1, d2, d3] }
  | _ => none }
def fnStatusGrowsByWhatIsAppendedRow : OpenClaim := { program := "qxb6626311a", sum := "eaedde7fef5029964805dfdb1c444b8c81e013ec95901efabc0d1077a615658c", func := "example.com/corelay/corelay/zzlaws_pkg_bssgp_b1.FnStatusGrowsByWhatIsAppended", spec := "fnStatusGrowsByWhatIsAppended", apart := false }
def FnStatusGrowsByWhatIsAppendedSaid : Prop := fnStatusGrowsByWhatIsAppendedRow.holds Try.pinned (OpenSpec.ofChange fnStatusGrowsByWhatIsAppendedSpec)

/-- ITS FALSE NEIGHBOUR: 'it returns false'. Refute it at one input. -/
def fnStatusGrowsByWhatIsAppendedWrong : ChangeSpec := { name := "fnStatusGrowsByWhatIsAppended", fn := fun _ => fun
  | [d1, d2, d3] => { results := [.lit (.bool false)], args := [d1, d2, d3] }
  | _ => none }
def FnStatusGrowsByWhatIsAppendedWrongFalsely : Prop := fnStatusGrowsByWhatIsAppendedRow.holds Try.pinned (OpenSpec.ofChange fnStatusGrowsByWhatIsAppendedWrong)

end Rows
end Go.Proofs.Qxb6626311a

/-
  No cell of these rows narrows 'for every input' (looked for: loops, veiled, ifaces, maps, wideKeys, modest, calm, conditions, laid).
  DERIVED. THE GIVEN ROWS OF THIS SEAT. 2 by the template 'for every input the law returns true; each argument reads behind the call as it read before'; 0 by the template 'total and deterministic' (their statements: Qxb6626220aTotals.lean).
  GIVEN WITH THE SEED: the statements are not yours to turn. If you find one false, say at which input.
  Laid BY PROGRAM, IN A SANDBOX (cutbox-rows.mjs): the forced cells as the released guide's own fill.sh prints them over the translation f5d481e4139522b3… (all of the seat's roots in one cut). By AI agents, Wed Nov 11 2026. No macro, syntax, notation, axiom, sorry.
-/
import Derived.Test.Qxb6626220aChecked
import GoSem.Claim
import GoSem.ClaimJoined
import GoSem.ClaimMapViews
import Derived.JoinedTies
import Derived.KernelRfl
namespace Go.Proofs.Qxb6626220a
/- THE CELL 'sum', in the pinned program and in every row, IS THE sha256 OF THE DUMP (.gsa) THAT Qxb6626220aProg.lean LOADS. Nothing in Lean hashes anything: it is a label: what it is worth is what the hold of that sum in a sandbox is worth. -/
noncomputable def Try.pinned : Pinned := { name := "qxb6626220a", sum := "f5d481e4139522b390f20128b5c9f14c39ecd4155757ed80929ad50a8351e862", checked := Try.checked }
namespace Rows
def none {H : Type} : Left H := { results := [], args := [] }

/-- 'zzlaws_internal_wide_b1.FnMulWideMatchesShiftAndAdd': WHATEVER THE INPUT: true; the input reads as it did. -/
def fnMulWideMatchesShiftAndAddSpec : ChangeSpec := { name := "fnMulWideMatchesShiftAndAdd", fn := fun _ => fun
  | [d1, d2, d3, d4, d5] => { results := [.lit (.bool true)], args := [d1, d2, d3, d4, d5] }
  | _ => none }
def fnMulWideMatchesShiftAndAddRow : OpenClaim := { program := "qxb6626220a", sum := "f5d481e4139522b390f20128b5c9f14c39ecd4155757ed80929ad50a8351e862", func := "example.com/skein/skein/zzlaws_internal_wide_b1.FnMulWideMatchesShiftAndAdd", spec := "fnMulWideMatchesShiftAndAdd", inPlace := ["math/bits.Add64"], apart := false }
def FnMulWideMatchesShiftAndAddSaid : Prop := fnMulWideMatchesShiftAndAddRow.holds Try.pinned (OpenSpec.ofChange fnMulWideMatchesShiftAndAddSpec)

/-- ITS FALSE NEIGHBOUR: 'it returns false'. Refute it at one input. -/
def fnMulWideMatchesShiftAndAddWrong : ChangeSpec := { name := "fnMulWideMatchesShiftAndAdd", fn := fun _ => fun
  | [d1, d2, d3, d4, d5] => { results := [.lit (.bool false)], args := [d1, d2, d3, d4, d5] }
  | _ => none }
def FnMulWideMatchesShiftAndAddWrongFalsely : Prop := fnMulWideMatchesShiftAndAddRow.holds Try.pinned (OpenSpec.ofChange fnMulWideMatchesShiftAndAddWrong)

/-- 'zzlaws_internal_wide_b1.FnMulWideDistributesOverSum': WHATEVER THE INPUT: true; the input reads as it did. -/
def fnMulWideDistributesOverSumSpec : ChangeSpec := { name := "fnMulWideDistributesOverSum", fn := fun _ => fun
  | [d1, d2, d3, d4, d5, d6, d7] => { results := [.lit (.bool true)], args := [d1, d2, d3, d4, d5, d6, d7] }
  | _ => none }
def fnMulWideDistributesOverSumRow : OpenClaim := { program := "qxb6626220a", sum := "f5d481e4139522b390f20128b5c9f14c39ecd4155757ed80929ad50a8351e862", func := "example.com/skein/skein/zzlaws_internal_wide_b1.FnMulWideDistributesOverSum", spec := "fnMulWideDistributesOverSum", inPlace := ["math/bits.Add64"], apart := false }
def FnMulWideDistributesOverSumSaid : Prop := fnMulWideDistributesOverSumRow.holds Try.pinned (OpenSpec.ofChange fnMulWideDistributesOverSumSpec)

/-- ITS FALSE NEIGHBOUR: 'it returns false'. Refute it at one input. -/
def fnMulWideDistributesOverSumWrong : ChangeSpec := { name := "fnMulWideDistributesOverSum", fn := fun _ => fun
  | [d1, d2, d3, d4, d5, d6, d7] => { results := [.lit (.bool false)], args := [d1, d2, d3, d4, d5, d6, d7] }
  | _ => none }
def FnMulWideDistributesOverSumWrongFalsely : Prop := fnMulWideDistributesOverSumRow.holds Try.pinned (OpenSpec.ofChange fnMulWideDistributesOverSumWrong)

end Rows
end Go.Proofs.Qxb6626220a

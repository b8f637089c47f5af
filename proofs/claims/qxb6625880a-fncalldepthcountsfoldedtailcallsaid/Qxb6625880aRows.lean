/-
  No cell of these rows narrows 'for every input' (looked for: loops, veiled, ifaces, maps, wideKeys, modest, calm, conditions, laid).
  DERIVED. THE GIVEN ROWS OF THIS SEAT. 2 by the template 'for every input the law returns true; each argument reads behind the call as it read before'; 0 by the template 'total and deterministic' (their statements: Qxb6625880aTotals.lean).
  GIVEN WITH THE SEED: the statements are not yours to turn. If you find one false, say at which input.
  Laid BY PROGRAM, IN A SANDBOX (cutbox-rows.mjs): the forced cells as the released guide's own fill.sh prints them over the translation 9ae515a50fbf6bc8… (all of the seat's roots in one cut). By AI agents, Wed Nov 11 2026. No macro, syntax, notation, axiom, sorry.
-/
import Derived.Test.Qxb6625880aChecked
import GoSem.Claim
import GoSem.ClaimJoined
import GoSem.ClaimMapViews
import Derived.JoinedTies
import Derived.KernelRfl
namespace Go.Proofs.Qxb6625880a
/- THE CELL 'sum', in the pinned program and in every row, IS THE sha256 OF THE DUMP (.gsa) THAT Qxb6625880aProg.lean LOADS. Nothing in Lean hashes anything: it is a label: what it is worth is what the hold of that sum in a sandbox is worth. -/
noncomputable def Try.pinned : Pinned := { name := "qxb6625880a", sum := "9ae515a50fbf6bc83d785f959d8ef1fcd9091124abde58f4829d728b1c8ce3e8", checked := Try.checked }
namespace Rows
def none {H : Type} : Left H := { results := [], args := [] }

/-- 'zzlaws_root_b1.FnCallDepthSplitsAtAnyCut': WHATEVER THE INPUT: true; the input reads as it did. -/
def fnCallDepthSplitsAtAnyCutSpec : ChangeSpec := { name := "fnCallDepthSplitsAtAnyCut", fn := fun _ => fun
  | [d1, d2] => { results := [.lit (.bool true)], args := [d1, d2] }
  | _ => none }
def fnCallDepthSplitsAtAnyCutRow : OpenClaim := { program := "qxb6625880a", sum := "9ae515a50fbf6bc83d785f959d8ef1fcd9091124abde58f4829d728b1c8ce3e8", func := "example.com/riffle/zzlaws_root_b1.FnCallDepthSplitsAtAnyCut", spec := "fnCallDepthSplitsAtAnyCut", apart := false }
def FnCallDepthSplitsAtAnyCutSaid : Prop := fnCallDepthSplitsAtAnyCutRow.holds Try.pinned (OpenSpec.ofChange fnCallDepthSplitsAtAnyCutSpec)

/-- ITS FALSE NEIGHBOUR: 'it returns false'. Refute it at one input. -/
def fnCallDepthSplitsAtAnyCutWrong : ChangeSpec := { name := "fnCallDepthSplitsAtAnyCut", fn := fun _ => fun
  | [d1, d2] => { results := [.lit (.bool false)], args := [d1, d2] }
  | _ => none }
def FnCallDepthSplitsAtAnyCutWrongFalsely : Prop := fnCallDepthSplitsAtAnyCutRow.holds Try.pinned (OpenSpec.ofChange fnCallDepthSplitsAtAnyCutWrong)

/-- 'zzlaws_root_b1.FnCallDepthCountsFoldedTailCall': WHATEVER THE INPUT: true; the input reads as it did. -/
def fnCallDepthCountsFoldedTailCallSpec : ChangeSpec := { name := "fnCallDepthCountsFoldedTailCall", fn := fun _ => fun
  | [d1, d2] => { results := [.lit (.bool true)], args := [d1, d2] }
  | _ => none }
def fnCallDepthCountsFoldedTailCallRow : OpenClaim := { program := "qxb6625880a", sum := "9ae515a50fbf6bc83d785f959d8ef1fcd9091124abde58f4829d728b1c8ce3e8", func := "example.com/riffle/zzlaws_root_b1.FnCallDepthCountsFoldedTailCall", spec := "fnCallDepthCountsFoldedTailCall", apart := false }
def FnCallDepthCountsFoldedTailCallSaid : Prop := fnCallDepthCountsFoldedTailCallRow.holds Try.pinned (OpenSpec.ofChange fnCallDepthCountsFoldedTailCallSpec)

/-- ITS FALSE NEIGHBOUR: 'it returns false'. Refute it at one input. -/
def fnCallDepthCountsFoldedTailCallWrong : ChangeSpec := { name := "fnCallDepthCountsFoldedTailCall", fn := fun _ => fun
  | [d1, d2] => { results := [.lit (.bool false)], args := [d1, d2] }
  | _ => none }
def FnCallDepthCountsFoldedTailCallWrongFalsely : Prop := fnCallDepthCountsFoldedTailCallRow.holds Try.pinned (OpenSpec.ofChange fnCallDepthCountsFoldedTailCallWrong)

end Rows
end Go.Proofs.Qxb6625880a

/-
  No cell of these rows narrows 'for every input' (looked for: loops, veiled, ifaces, maps, wideKeys, modest, calm, conditions, laid).
  DERIVED. THE GIVEN ROWS OF THIS SEAT. 1 by the template 'for every input the law returns true; each argument reads behind the call as it read before'; 0 by the template 'total and deterministic' (their statements: Qxb6623380aTotals.lean).
  GIVEN WITH THE SEED: the statements are not yours to turn. If you find one false, say at which input.
  Laid BY PROGRAM, IN A SANDBOX (cutbox-rows.mjs): the forced cells as the released guide's own fill.sh prints them over the translation b088ef83c4a971d3… (all of the seat's roots in one cut). By AI agents, Wed Nov 11 2026. No macro, syntax, notation, axiom, sorry.
-/
import Derived.Test.Qxb6623380aChecked
import GoSem.Claim
import GoSem.ClaimJoined
import GoSem.ClaimMapViews
import Derived.JoinedTies
import Derived.KernelRfl
namespace Go.Proofs.Qxb6623380a
/- THE CELL 'sum', in the pinned program and in every row, IS THE sha256 OF THE DUMP (.gsa) THAT Qxb6623380aProg.lean LOADS. Nothing in Lean hashes anything: it is a label: what it is worth is what the hold of that sum in a sandbox is worth. -/
noncomputable def Try.pinned : Pinned := { name := "qxb6623380a", sum := "b088ef83c4a971d3d1c258e8b6433419ef28a999128eaf635bdff16cbf2adabe", checked := Try.checked }
namespace Rows
def none {H : Type} : Left H := { results := [], args := [] }

/-- 'zzlaws_internal_isup_b1.FnHasParameterRemoveCode': WHATEVER THE INPUT: true; the input reads as it did. -/
def fnHasParameterRemoveCodeSpec : ChangeSpec := { name := "fnHasParameterRemoveCode", fn := fun _ => fun
  | [d1, d2, d3] => { results := [.lit (.bool true)], args := [d1, d2, d3] }
  | _ => none }
def fnHasParameterRemoveCodeRow : OpenClaim := { program := "qxb6623380a", sum := "b088ef83c4a971d3d1c258e8b6433419ef28a999128eaf635bdff16cbf2adabe", func := "example.com/kakehashi/kakehashi/zzlaws_internal_isup_b1.FnHasParameterRemoveCode", spec := "fnHasParameterRemoveCode", apart := false }
def FnHasParameterRemoveCodeSaid : Prop := fnHasParameterRemoveCodeRow.holds Try.pinned (OpenSpec.ofChange fnHasParameterRemoveCodeSpec)

/-- ITS FALSE NEIGHBOUR: 'it returns false'. Refute it at one input. -/
def fnHasParameterRemoveCodeWrong : ChangeSpec := { name := "fnHasParameterRemoveCode", fn := fun _ => fun
  | [d1, d2, d3] => { results := [.lit (.bool false)], args := [d1, d2, d3] }
  | _ => none }
def FnHasParameterRemoveCodeWrongFalsely : Prop := fnHasParameterRemoveCodeRow.holds Try.pinned (OpenSpec.ofChange fnHasParameterRemoveCodeWrong)

end Rows
end Go.Proofs.Qxb6623380a

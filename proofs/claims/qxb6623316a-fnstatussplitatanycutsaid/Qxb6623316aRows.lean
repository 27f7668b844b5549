/-
  No cell of these rows narrows 'for every input' (looked for: loops, veiled, ifaces, maps, wideKeys, modest, calm, conditions, laid).
  DERIVED. THE GIVEN ROWS OF THIS SEAT. 2 by the template 'for every input the law returns true; each argument reads behind the call as it read before'; 0 by the template 'total and deterministic' (their statements: Qxb6623316aTotals.lean).
  GIVEN WITH THE SEED: the statements are not yours to turn. If you find one false, say at which input.
  Laid BY PROGRAM, IN A SANDBOX (cutbox-rows.mjs): the forced cells as the released guide's own fill.sh prints them over the translation b9c43b82db3baaf4… (all of the seat's roots in one cut). By AI agents, Wed Nov 11 2026. No macro, syntax, notation, axiom, sorry.
-/
import Derived.Test.Qxb6623316aChecked
import GoSem.Claim
import GoSem.ClaimJoined
import GoSem.ClaimMapViews
import Derived.JoinedTies
import Derived.KernelRfl
namespace Go.Proofs.Qxb6623316a
/- THE CELL 'sum', in the pinned program and in every row, IS THE sha256 OF THE DUMP (.gsa) THAT Qxb6623316aProg.lean LOADS. Nothing in Lean hashes anything: it is a label: what it is worth is what the hold of that sum in a sandbox is worth. -/
noncomputable def Try.pinned : Pinned := { name := "qxb6623316a", sum := "b9c43b82db3baaf460692a01d412a822accad01d677af2b87354109a306f3a8f", checked := Try.checked }
namespace Rows
def none {H : Type} : Left H := { results := [], args := [] }

/-- 'zzlaws_ear_b1.FnStatusSplitAtAnyCut': WHATEVER THE INPUT: true; the input reads as it did. -/
def fnStatusSplitAtAnyCutSpec : ChangeSpec := { name := "fnStatusSplitAtAnyCut", fn := fun _ => fun
  | [d1, d2] => { results := [.lit (.bool true)], args := [d1, d2] }
  | _ => none }
def fnStatusSplitAtAnyCutRow : OpenClaim := { program := "qxb6623316a", sum := "b9c43b82db3baaf460692a01d412a822accad01d677af2b87354109a306f3a8f", func := "example.com/appraise/appraise/zzlaws_ear_b1.FnStatusSplitAtAnyCut", spec := "fnStatusSplitAtAnyCut", apart := false }
def FnStatusSplitAtAnyCutSaid : Prop := fnStatusSplitAtAnyCutRow.holds Try.pinned (OpenSpec.ofChange fnStatusSplitAtAnyCutSpec)

/-- ITS FALSE NEIGHBOUR: 'it returns false'. Refute it at one input. -/
def fnStatusSplitAtAnyCutWrong : ChangeSpec := { name := "fnStatusSplitAtAnyCut", fn := fun _ => fun
  | [d1, d2] => { results := [.lit (.bool false)], args := [d1, d2] }
  | _ => none }
def FnStatusSplitAtAnyCutWrongFalsely : Prop := fnStatusSplitAtAnyCutRow.holds Try.pinned (OpenSpec.ofChange fnStatusSplitAtAnyCutWrong)

/-- 'zzlaws_ear_b1.FnStatusPutOneIn': WHATEVER THE INPUT: true; the input reads as it did. -/
def fnStatusPutOneInSpec : ChangeSpec := { name := "fnStatusPutOneIn", fn := fun _ => fun
  | [d1, d2, d3] => { results := [.lit (.bool true)], args := [d1, d2, d3] }
  | _ => none }
def fnStatusPutOneInRow : OpenClaim := { program := "qxb6623316a", sum := "b9c43b82db3baaf460692a01d412a822accad01d677af2b87354109a306f3a8f", func := "example.com/appraise/appraise/zzlaws_ear_b1.FnStatusPutOneIn", spec := "fnStatusPutOneIn", apart := false }
def FnStatusPutOneInSaid : Prop := fnStatusPutOneInRow.holds Try.pinned (OpenSpec.ofChange fnStatusPutOneInSpec)

/-- ITS FALSE NEIGHBOUR: 'it returns false'. Refute it at one input. -/
def fnStatusPutOneInWrong : ChangeSpec := { name := "fnStatusPutOneIn", fn := fun _ => fun
  | [d1, d2, d3] => { results := [.lit (.bool false)], args := [d1, d2, d3] }
  | _ => none }
def FnStatusPutOneInWrongFalsely : Prop := fnStatusPutOneInRow.holds Try.pinned (OpenSpec.ofChange fnStatusPutOneInWrong)

end Rows
end Go.Proofs.Qxb6623316a

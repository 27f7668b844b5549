/-
  No cell of these rows narrows 'for every input' (looked for: loops, veiled, ifaces, maps, wideKeys, modest, calm, conditions, laid).
  DERIVED. THE GIVEN ROWS OF THIS SEAT. 5 by the template 'for every input the law returns true; each argument reads behind the call as it read before'; 0 by the template 'total and deterministic' (their statements: Qxb6619697aTotals.lean).
  GIVEN WITH THE SEED: the statements are not yours to turn. If you find one false, say at which input.
  Laid BY PROGRAM, IN A SANDBOX (cutbox-rows.mjs): the forced cells as the released guide's own fill.sh prints them over the translation a5fc5c2a7a2da699… (all of the seat's roots in one cut). By AI agents, Wed Nov 11 2026. No macro, syntax, notation, axiom, sorry.
-/
import Derived.Test.Qxb6619697aChecked
import GoSem.Claim
import GoSem.ClaimJoined
import GoSem.ClaimMapViews
import Derived.JoinedTies
import Derived.KernelRfl
namespace Go.Proofs.Qxb6619697a
/- THE CELL 'sum', in the pinned program and in every row, IS THE sha256 OF THE DUMP (.gsa) THAT Qxb6619697aProg.lean LOADS. Nothing in Lean hashes anything: it is a label: what it is worth is what the hold of that sum in a sandbox is worth. -/
noncomputable def Try.pinned : Pinned := { name := "qxb6619697a", sum := "a5fc5c2a7a2da699dfdc8ac3cc559e56e745ce34ea0cc1844f8be65c43c44669", checked := Try.checked }
namespace Rows
def none {H : Type} : Left H := { results := [], args := [] }

/-- 'zzlaws_root_b1.FnMagnitudeIsSmallerOfTwoWords': WHATEVER THE INPUT: true; the input reads as it did. -/
def fnMagnitudeIsSmallerOfTwoWordsSpec : ChangeSpec := { name := "fnMagnitudeIsSmallerOfTwoWords", fn := fun _ => fun
  | [d] => { results := [.lit (.bool true)], args := [d] }
  | _ => none }
def fnMagnitudeIsSmallerOfTwoWordsRow : OpenClaim := { program := "qxb6619697a", sum := "a5fc5c2a7a2da699dfdc8ac3cc559e56e745ce34ea0cc1844f8be65c43c44669", func := "example.com/tuoguan/tuoguan/zzlaws_root_b1.FnMagnitudeIsSmallerOfTwoWords", spec := "fnMagnitudeIsSmallerOfTwoWords", apart := false }
def FnMagnitudeIsSmallerOfTwoWordsSaid : Prop := fnMagnitudeIsSmallerOfTwoWordsRow.holds Try.pinned (OpenSpec.ofChange fnMagnitudeIsSmallerOfTwoWordsSpec)

/-- ITS FALSE NEIGHBOUR: 'it returns false'. Refute it at one input. -/
def fnMagnitudeIsSmallerOfTwoWordsWrong : ChangeSpec := { name := "fnMagnitudeIsSmallerOfTwoWords", fn := fun _ => fun
  | [d] => { results := [.lit (.bool false)], args := [d] }
  | _ => none }
def FnMagnitudeIsSmallerOfTwoWordsWrongFalsely : Prop := fnMagnitudeIsSmallerOfTwoWordsRow.holds Try.pinned (OpenSpec.ofChange fnMagnitudeIsSmallerOfTwoWordsWrong)

/-- 'zzlaws_root_b1.FnGcdSymmetricMatchesBinaryGcd': WHATEVER THE INPUT: true; the input reads as it did. -/
def fnGcdSymmetricMatchesBinaryGcdSpec : ChangeSpec := { name := "fnGcdSymmetricMatchesBinaryGcd", fn := fun _ => fun
  | [d1, d2] => { results := [.lit (.bool true)], args := [d1, d2] }
  | _ => none }
def fnGcdSymmetricMatchesBinaryGcdRow : OpenClaim := { program := "qxb6619697a", sum := "a5fc5c2a7a2da699dfdc8ac3cc559e56e745ce34ea0cc1844f8be65c43c44669", func := "example.com/tuoguan/tuoguan/zzlaws_root_b1.FnGcdSymmetricMatchesBinaryGcd", spec := "fnGcdSymmetricMatchesBinaryGcd", apart := false }
def FnGcdSymmetricMatchesBinaryGcdSaid : Prop := fnGcdSymmetricMatchesBinaryGcdRow.holds Try.pinned (OpenSpec.ofChange fnGcdSymmetricMatchesBinaryGcdSpec)

/-- ITS FALSE NEIGHBOUR: 'it returns false'. Refute it at one input. -/
def fnGcdSymmetricMatchesBinaryGcdWrong : ChangeSpec := { name := "fnGcdSymmetricMatchesBinaryGcd", fn := fun _ => fun
  | [d1, d2] => { results := [.lit (.bool false)], args := [d1, d2] }
  | _ => none }
def FnGcdSymmetricMatchesBinaryGcdWrongFalsely : Prop := fnGcdSymmetricMatchesBinaryGcdRow.holds Try.pinned (OpenSpec.ofChange fnGcdSymmetricMatchesBinaryGcdWrong)

/-- 'zzlaws_root_b1.FnGcdSignedMagnitudeMatchesBinaryGcd': WHATEVER THE INPUT: true; the input reads as it did. -/
def fnGcdSignedMagnitudeMatchesBinaryGcdSpec : ChangeSpec := { name := "fnGcdSignedMagnitudeMatchesBinaryGcd", fn := fun _ => fun
  | [d1, d2] => { results := [.lit (.bool true)], args := [d1, d2] }
  | _ => none }
def fnGcdSignedMagnitudeMatchesBinaryGcdRow : OpenClaim := { program := "qxb6619697a", sum := "a5fc5c2a7a2da699dfdc8ac3cc559e56e745ce34ea0cc1844f8be65c43c44669", func := "example.com/tuoguan/tuoguan/zzlaws_root_b1.FnGcdSignedMagnitudeMatchesBinaryGcd", spec := "fnGcdSignedMagnitudeMatchesBinaryGcd", apart := false }
def FnGcdSignedMagnitudeMatchesBinaryGcdSaid : Prop := fnGcdSignedMagnitudeMatchesBinaryGcdRow.holds Try.pinned (OpenSpec.ofChange fnGcdSignedMagnitudeMatchesBinaryGcdSpec)

/-- ITS FALSE NEIGHBOUR: 'it returns false'. Refute it at one input. -/
def fnGcdSignedMagnitudeMatchesBinaryGcdWrong : ChangeSpec := { name := "fnGcdSignedMagnitudeMatchesBinaryGcd", fn := fun _ => fun
  | [d1, d2] => { results := [.lit (.bool false)], args := [d1, d2] }
  | _ => none }
def FnGcdSignedMagnitudeMatchesBinaryGcdWrongFalsely : Prop := fnGcdSignedMagnitudeMatchesBinaryGcdRow.holds Try.pinned (OpenSpec.ofChange fnGcdSignedMagnitudeMatchesBinaryGcdWrong)

/-- 'zzlaws_root_b1.FnFloorDivComplementAndRemainder': WHATEVER THE INPUT: true; the input reads as it did. -/
def fnFloorDivComplementAndRemainderSpec : ChangeSpec := { name := "fnFloorDivComplementAndRemainder", fn := fun _ => fun
  | [d1, d2] => { results := [.lit (.bool true)], args := [d1, d2] }
  | _ => none }
def fnFloorDivComplementAndRemainderRow : OpenClaim := { program := "qxb6619697a", sum := "a5fc5c2a7a2da699dfdc8ac3cc559e56e745ce34ea0cc1844f8be65c43c44669", func := "example.com/tuoguan/tuoguan/zzlaws_root_b1.FnFloorDivComplementAndRemainder", spec := "fnFloorDivComplementAndRemainder", apart := false }
def FnFloorDivComplementAndRemainderSaid : Prop := fnFloorDivComplementAndRemainderRow.holds Try.pinned (OpenSpec.ofChange fnFloorDivComplementAndRemainderSpec)

/-- ITS FALSE NEIGHBOUR: 'it returns false'. Refute it at one input. -/
def fnFloorDivComplementAndRemainderWrong : ChangeSpec := { name := "fnFloorDivComplementAndRemainder", fn := fun _ => fun
  | [d1, d2] => { results := [.lit (.bool false)], args := [d1, d2] }
  | _ => none }
def FnFloorDivComplementAndRemainderWrongFalsely : Prop := fnFloorDivComplementAndRemainderRow.holds Try.pinned (OpenSpec.ofChange fnFloorDivComplementAndRemainderWrong)

/-- 'zzlaws_root_b1.FnFloorDivShiftByDivisor': WHATEVER THE INPUT: true; the input reads as it did. -/
def fnFloorDivShiftByDivisorSpec : ChangeSpec := { name := "fnFloorDivShiftByDivisor", fn := fun _ => fun
  | [d1, d2] => { results := [.lit (.bool true)], args := [d1, d2] }
  | _ => none }
def fnFloorDivShiftByDivisorRow : OpenClaim := { program := "qxb6619697a", sum := "a5fc5c2a7a2da699dfdc8ac3cc559e56e745ce34ea0cc1844f8be65c43c44669", func := "example.com/tuoguan/tuoguan/zzlaws_root_b1.FnFloorDivShiftByDivisor", spec := "fnFloorDivShiftByDivisor", apart := false }
def FnFloorDivShiftByDivisorSaid : Prop := fnFloorDivShiftByDivisorRow.holds Try.pinned (OpenSpec.ofChange fnFloorDivShiftByDivisorSpec)

/-- ITS FALSE NEIGHBOUR: 'it returns false'. Refute it at one input. -/
def fnFloorDivShiftByDivisorWrong : ChangeSpec := { name := "fnFloorDivShiftByDivisor", fn := fun _ => fun
  | [d1, d2] => { results := [.lit (.bool false)], args := [d1, d2] }
  | _ => none }
def FnFloorDivShiftByDivisorWrongFalsely : Prop := fnFloorDivShiftByDivisorRow.holds Try.pinned (OpenSpec.ofChange fnFloorDivShiftByDivisorWrong)

end Rows
end Go.Proofs.Qxb6619697a

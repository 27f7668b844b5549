/-
  PROOF OF 'Rows.FnStatusSplitAtAnyCutSaid'. The frame follows the seats' shells (written by program), turned by hand to an argument of type [8]int8.
-/
import Derived.Test.Qxb6623316aRows
import Derived.WalkKit
import Derived.ProofKit
import Derived.OpenShut
import Derived.Test.Qxb6623316aArr
import Derived.Test.Qxb6623316aCut
namespace Go.Proofs.Qxb6623316a.fnStatusSplitAtAnyCut
open Go.ChangeShapes Go.WideShapes Go.ChangeAt Go.RowKit

theorem own : ownKnob Try.prog.godebug = none := by kernel_rfl

set_option maxRecDepth 100000 in
theorem lifted (os : Os) (started : os.Started) (H : Type) (enc : TypeId × Value → H) :
    ReturnsInHanded {} Try.checked os 3 .any (Rows.fnStatusSplitAtAnyCutSpec.pre6 enc Try.prog Try.f3 Rows.fnStatusSplitAtAnyCutRow.domain false) (Rows.fnStatusSplitAtAnyCutSpec.post enc Try.prog Try.f3 false true false false) := by
  refine returnsInHanded_of_change (C := Try.checked) own started (by kernel_rfl) Try.func3
    (ChangeSpec.witness6 (enc := enc) (C := Try.checked) false ⟨#[], #[.agg #[.int .i8 0, .int .i8 0, .int .i8 0, .int .i8 0, .int .i8 0, .int .i8 0, .int .i8 0, .int .i8 0], .int .i64 0], []⟩ 8 (by kernel_rfl) (by kernel_rfl) (by kernel_rfl) (by kernel_rfl)) ?_
  intro W base args ds gs before hval0 hW hcnd _
  have hval : ∀ (j : Nat) t v, Try.f3.params[j]? = some t → args[j]? = some v → Value.okWide Try.prog W .any base t v := hval0
  have hW' := hW
  obtain ⟨p, q, hA0, hV, rfl, hfz, hnd⟩ := hW
  have hA : DataW.TrodAll enc Try.prog W 0 (fun _ => true) true Try.f3.params.toList args.toList ds p := hA0
  rw [Try.params3] at hA hval
  obtain ⟨v0, vs0, d0, ds0, p0, q0, hargs, rfl, rfl, h0, r0⟩ := trodAll_cons hA
  obtain ⟨v1, vs1, d1, ds1, p1, q1, rfl, rfl, rfl, h1, r1⟩ := trodAll_cons r0
  obtain ⟨rfl, rfl, rfl⟩ := trodAll_nil r1
  obtain rfl : args = #[v0, v1] := by cases args; simp_all
  obtain ⟨rfl, rfl⟩ := trodVars_none hV
  obtain ⟨x0, x1, x2, x3, x4, x5, x6, x7, rfl, rfl, rfl, w0, w1, w2, w3, w4, w5, w6, w7⟩ := Arr.open8 (hval 0 23 v0 rfl rfl) h0
  obtain ⟨i, rfl, rfl, rfl, wi⟩ := open_int Try.underlying3 (hval 1 3 v1 rfl rfl) h1
  clear hA0 hval0
  simp only [List.append_nil] at hW'
  refine (Cut.walk_any x0 x1 x2 x3 x4 x5 x6 x7 i W).mono fun e W' ⟨he, hg⟩ => ?_
  subst he
  exact ⟨_, rfl, post_of_same (pa := []) (pv := []) hW' (fun _ _ _ => (trodAll_cons_mk (shut_bool Try.underlying4 _) trodAll_mk0))
    (fun sp _ => (trodAll_cons_mk (Arr.shut8 x0 x1 x2 x3 x4 x5 x6 x7 w0 w1 w2 w3 w4 w5 w6 w7) (trodAll_cons_mk (shut_int Try.underlying3 wi) trodAll_mk0))) (fun _ _ => rfl) rfl
    (hg.frame _) hg.2.1 (ok_one (by kernel_rfl) rfl (okWide_bool_mk Try.underlying4 _))⟩

theorem over : Rows.fnStatusSplitAtAnyCutRow.holds Try.pinned (OpenSpec.ofChange Rows.fnStatusSplitAtAnyCutSpec) :=
  OpenClaim.holds_of_wide 3 Try.f3 rfl rfl rfl rfl rfl rfl rfl ⟨rfl, rfl, rfl, rfl, rfl⟩ rfl rfl rfl rfl rfl (by kernel_rfl) Try.func3 (by kernel_rfl)
    (of_decide_eq_true (by kernel_rfl)) (by unfold Func.isWrapper; first | (rw [if_pos (by decide +kernel)]; kernel_rfl) | (rw [if_neg (by decide +kernel)]; exact ⟨rfl, rfl⟩))
    (fun os started H enc _ => lifted os started H enc)

/-- ████ THE STATEMENT ████ -/
theorem proved : Rows.FnStatusSplitAtAnyCutSaid :=
  over
end Go.Proofs.Qxb6623316a.fnStatusSplitAtAnyCut

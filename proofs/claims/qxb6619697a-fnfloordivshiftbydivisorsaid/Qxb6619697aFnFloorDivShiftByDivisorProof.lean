/-
  PROOF OF 'Rows.FnFloorDivShiftByDivisorSaid'. The frame is the seat's own shell (written by program); the plain laws and the walk are ours.
-/
import Derived.Test.Qxb6619697aRows
import Derived.WalkKit
import Derived.ProofKit
import Derived.OpenShut
import Derived.ShutString
import Derived.Test.Qxb6619697aFloor
namespace Go.Proofs.Qxb6619697a.fnFloorDivShiftByDivisor
open Go.ChangeShapes Go.WideShapes Go.ChangeAt Go.RowKit
open Go.ChangeMaps (open_string shut_string)
set_option linter.unusedVariables false      -- a walk need not use every 'w<i>' (that an integer argument fits its kind)

theorem own : ownKnob Try.prog.godebug = none := by kernel_rfl

/-! ### THE PLAIN LAW: no Go in sight -/
theorem add_div (a b : Int) (hb : 1 ≤ b) : (a + b) / b = a / b + 1 := by
  have := Int.add_mul_ediv_left a 1 (show b ≠ 0 by omega)
  rwa [Int.mul_one] at this
theorem div_bd (a b : Int) (hb : 1 ≤ b) (h0 : -9223372036854775808 ≤ a) (h1 : a + b ≤ 9223372036854775807) : -9223372036854775808 ≤ a / b ∧ a / b + 1 ≤ 9223372036854775807 := by
  have h2 := Int.mul_ediv_add_emod a b
  have h3 := Int.emod_nonneg a (show b ≠ 0 by omega)
  have h4 := Int.emod_lt_of_pos a (show 0 < b by omega)
  generalize a / b = q at *
  generalize a % b = r at *
  by_cases hq : 0 ≤ q
  · have : 1 * q ≤ b * q := Int.mul_le_mul_of_nonneg_right hb hq
    omega
  · have : 1 * (-(q + 1)) ≤ b * (-(q + 1)) := Int.mul_le_mul_of_nonneg_right hb (by omega)
    have e : b * (-(q + 1)) = -(b * q) - b := by rw [Int.mul_neg, Int.mul_add]; omega
    omega

/-- The walk's last way: neither test has sent it home. -/
theorem walk_in (a0 : Int) (a1 : Int) (l0 : -9223372036854775808 ≤ a0) (u0 : a0 ≤ 9223372036854775807) (u1 : a1 ≤ 9223372036854775807) (c1 : 1 ≤ a1) (c2 : a0 + a1 ≤ 9223372036854775807) (c3 : -a0 - 1 + a1 ≤ 9223372036854775807) (w : World) :
    Calls Try.prog 7 #[.int .i64 a0, .int .i64 a1] w fun e w' => e = .returned (.bool true) ∧ Grown w w' := by
  have he := add_div a0 a1 c1
  obtain ⟨d0, d1⟩ := div_bd a0 a1 c1 l0 c2
  by_cases c4 : a0 < 0
  · have hx := Floor.not64 a0 l0 u0
    have hs := Floor.sgn64
    go_enter Try.func7, Try.ntmps7
    go_wp2_with fail
    refine (Floor.zfd_any (a0 + a1) a1 _ (by omega) (by omega) (by omega) (by omega)).mono ?_
    rintro e w' ⟨rfl, rfl⟩
    go_wp2_with fail
    refine (Floor.zfd_any a0 a1 _ (by omega) (by omega) (by omega) (by omega)).mono ?_
    rintro e w' ⟨rfl, rfl⟩
    go_wp2
    go_ret
    exact ⟨rfl, Grown.refl _⟩
  · go_enter Try.func7, Try.ntmps7
    go_wp2_with fail
    refine (Floor.zfd_any (a0 + a1) a1 _ (by omega) (by omega) (by omega) (by omega)).mono ?_
    rintro e w' ⟨rfl, rfl⟩
    go_wp2_with fail
    refine (Floor.zfd_any a0 a1 _ (by omega) (by omega) (by omega) (by omega)).mono ?_
    rintro e w' ⟨rfl, rfl⟩
    go_wp2
    go_ret
    exact ⟨rfl, Grown.refl _⟩

/-! ### STEP 1: THE WALK: the Go text returns true. 'Grown w w'': the world has at most new blocks (Derived/RowKit3.lean). Part the cases AHEAD of 'go_enter' where a test parts the walk; take each callee by a contract of your own. -/
theorem walk (a0 : Int) (a1 : Int) (w0 : (Lit.int .i64 a0).wf = true) (w1 : (Lit.int .i64 a1).wf = true) (w : World) :
    Calls Try.prog 7 #[.int .i64 a0, .int .i64 a1] w fun e w' => e = .returned (.bool true) ∧ Grown w w' := by
  obtain ⟨l0, u0⟩ := bounds_i64 w0
  obtain ⟨l1, u1⟩ := bounds_i64 w1
  clear w0 w1
  by_cases c1 : a1 ≤ 0
  · go_enter Try.func7, Try.ntmps7
    go_wp2
    go_ret
    exact ⟨rfl, Grown.refl _⟩
  by_cases c2 : 9223372036854775807 - a1 < a0
  · go_enter Try.func7, Try.ntmps7
    go_wp2
    go_ret
    exact ⟨rfl, Grown.refl _⟩
  by_cases c3 : 9223372036854775807 - a1 < -a0 - 1
  · have c4 : a0 < 0 := by omega
    have hx := Floor.not64 a0 l0 u0
    have hs := Floor.sgn64
    go_enter Try.func7, Try.ntmps7
    go_wp2
    go_ret
    exact ⟨rfl, Grown.refl _⟩
  · exact walk_in a0 a1 l0 u0 u1 (by omega) (by omega) (by omega) w

/-! ### THE ROW's STEP: WRITTEN OUT: LEAVE IT -/
set_option maxRecDepth 100000 in
theorem lifted (os : Os) (started : os.Started) (H : Type) (enc : TypeId × Value → H) :
    ReturnsInHanded {} Try.checked os 7 .any (Rows.fnFloorDivShiftByDivisorSpec.pre6 enc Try.prog Try.f7 Rows.fnFloorDivShiftByDivisorRow.domain false) (Rows.fnFloorDivShiftByDivisorSpec.post enc Try.prog Try.f7 false true false false) := by
  refine returnsInHanded_of_change (C := Try.checked) own started (by kernel_rfl) Try.func7
    (ChangeSpec.witness6 (enc := enc) (C := Try.checked) false ⟨#[], #[.int .i64 0, .int .i64 0], []⟩ 8 (by kernel_rfl) (by kernel_rfl) (by kernel_rfl) (by kernel_rfl)) ?_
  intro W base args ds gs before hval0 hW hcnd _
  have hval : ∀ (j : Nat) t v, Try.f7.params[j]? = some t → args[j]? = some v → Value.okWide Try.prog W .any base t v := hval0
  have hW' := hW
  obtain ⟨p, q, hA0, hV, rfl, hfz, hnd⟩ := hW
  have hA : DataW.TrodAll enc Try.prog W 0 (fun _ => true) true Try.f7.params.toList args.toList ds p := hA0
  rw [Try.params7] at hA hval
  obtain ⟨v0, vs0, d0, ds0, p0, q0, hargs, rfl, rfl, h0, r0⟩ := trodAll_cons hA
  obtain ⟨v1, vs1, d1, ds1, p1, q1, rfl, rfl, rfl, h1, r1⟩ := trodAll_cons r0
  obtain ⟨rfl, rfl, rfl⟩ := trodAll_nil r1
  obtain rfl : args = #[v0, v1] := by cases args; simp_all
  obtain ⟨rfl, rfl⟩ := trodVars_none hV
  obtain ⟨a0, rfl, rfl, rfl, w0⟩ := open_int Try.underlying2 (hval 0 2 v0 rfl rfl) h0
  obtain ⟨a1, rfl, rfl, rfl, w1⟩ := open_int Try.underlying2 (hval 1 2 v1 rfl rfl) h1
  clear hA0 hval0
  simp only [List.append_nil] at hW'
  refine (walk a0 a1 w0 w1 W).mono fun e W' ⟨he, hg⟩ => ?_
  subst he
  exact ⟨_, rfl, post_of_same (pa := []) (pv := []) hW' (fun _ _ _ => (trodAll_cons_mk (shut_bool Try.underlying4 _) trodAll_mk0)) (fun sp _ => (trodAll_cons_mk (shut_int Try.underlying2 w0) (trodAll_cons_mk (shut_int Try.underlying2 w1) trodAll_mk0))) (fun _ _ => rfl) rfl
    (hg.frame _) hg.2.1 (ok_one (by kernel_rfl) rfl (okWide_bool_mk Try.underlying4 _))⟩

theorem over : Rows.fnFloorDivShiftByDivisorRow.holds Try.pinned (OpenSpec.ofChange Rows.fnFloorDivShiftByDivisorSpec) :=
  OpenClaim.holds_of_wide 7 Try.f7 rfl rfl rfl rfl rfl rfl rfl ⟨rfl, rfl, rfl, rfl, rfl⟩ rfl rfl rfl rfl rfl (by kernel_rfl) Try.func7 (by kernel_rfl)
    (of_decide_eq_true (by kernel_rfl)) (by unfold Func.isWrapper; first | (rw [if_pos (by decide +kernel)]; kernel_rfl) | (rw [if_neg (by decide +kernel)]; exact ⟨rfl, rfl⟩))
    (fun os started H enc _ => lifted os started H enc)

/-- ████ THE STATEMENT ████ -/
theorem proved : Rows.FnFloorDivShiftByDivisorSaid :=
  over
end Go.Proofs.Qxb6619697a.fnFloorDivShiftByDivisor

/-
  PROOF OF 'Rows.FnFloorDivComplementAndRemainderSaid'. The frame is the seat's own shell (written by program); the plain laws and the walk are ours.
-/
import Derived.Test.Qxb6619697aRows
import Derived.WalkKit
import Derived.ProofKit
import Derived.OpenShut
import Derived.ShutString
import Derived.Test.Qxb6619697aFloor
import Derived.Test.Qxb6619697aMul
namespace Go.Proofs.Qxb6619697a.fnFloorDivComplementAndRemainder
open Go.ChangeShapes Go.WideShapes Go.ChangeAt Go.RowKit
open Go.ChangeMaps (open_string shut_string)
set_option linter.unusedVariables false      -- a walk need not use every 'w<i>' (that an integer argument fits its kind)

theorem own : ownKnob Try.prog.godebug = none := by kernel_rfl

/-! ### THE PLAIN LAW: no Go in sight -/
theorem quo_facts (n b : Int) (hn : 0 ≤ n) (hb : 1 ≤ b) : 0 ≤ n / b ∧ n / b ≤ n ∧ 0 ≤ n / b * b ∧ n / b * b ≤ n ∧ n < n / b * b + b ∧ (-n - 1) / b = -(n / b) - 1 := by
  have h2 := Int.mul_ediv_add_emod n b
  have h3 := Int.emod_nonneg n (show b ≠ 0 by omega)
  have h4 := Int.emod_lt_of_pos n (show 0 < b by omega)
  have h5 := IntWalk.tdiv_le n b hn hb
  have h6 : 0 ≤ n / b * b := Int.mul_nonneg h5.1 (by omega)
  have h7 : n / b * b = b * (n / b) := Int.mul_comm _ _
  refine ⟨h5.1, h5.2, h6, by omega, by omega, ?_⟩
  have e : -n - 1 = (b - 1 - n % b) + b * (-(n / b) - 1) := by
    have : b * (-(n / b) - 1) = -(b * (n / b)) - b := by rw [Int.mul_sub, Int.mul_neg, Int.mul_one]
    omega
  rw [e, Int.add_mul_ediv_left _ _ (by omega), Int.ediv_eq_zero_of_lt (by omega) (by omega)]
  omega

theorem ret_true {b : Bool} (h : b = true) : Ending.returned (.bool b) = .returned (.bool true) := by rw [h]

/-- a not negative: n is a. -/
theorem walk_pos (n b q : Int) (w : World) (hn : 0 ≤ n) (hb : 1 ≤ b) (hnb : n + b ≤ 9223372036854775807) (q0 : 0 ≤ q) (q1 : q ≤ n) (p0 : 0 ≤ q * b) (p1 : q * b ≤ n) (p2 : n < q * b + b)
    (HQ : Hid (n / b = q)) (HC : Hid ((-n - 1) / b = -q - 1)) :
    Calls Try.prog 6 #[.int .i64 n, .int .i64 b] w fun e w' => e = .returned (.bool true) ∧ Grown w w' := by
  have hx := Floor.not64 n (by omega) (by omega)
  have hxq := Floor.not64 q (by omega) (by omega)
  have hs := Floor.sgn64
  go_enter Try.func6, Try.ntmps6
  go_wp2_with fail
  refine (Floor.zfd_eq n b q _ HQ.out (by omega) (by omega) (by omega) (by omega)).mono ?_
  rintro e w' ⟨rfl, rfl⟩
  go_wp2_with fail
  refine (Floor.zfd_eq (-n - 1) b (-q - 1) _ HC.out (by omega) (by omega) (by omega) (by omega)).mono ?_
  rintro e w' ⟨rfl, rfl⟩
  go_wp2_with fail
  refine (Mul.mul_any q b _ (by omega) (by omega) (by omega) (by omega) p0 (by omega)).mono ?_
  rintro e w' ⟨rfl, rfl⟩
  go_wp2
  go_ret
  exact ⟨ret_true (decide_eq_true (show n - q * b < b by omega)), Grown.refl _⟩

/-- a negative: a is -n - 1. -/
theorem walk_neg (n b q : Int) (w : World) (hn : 0 ≤ n) (hb : 1 ≤ b) (hnb : n + b ≤ 9223372036854775807) (q0 : 0 ≤ q) (q1 : q ≤ n) (p0 : 0 ≤ q * b) (p1 : q * b ≤ n) (p2 : n < q * b + b)
    (HQ : Hid (n / b = q)) (HC : Hid ((-n - 1) / b = -q - 1)) :
    Calls Try.prog 6 #[.int .i64 (-n - 1), .int .i64 b] w fun e w' => e = .returned (.bool true) ∧ Grown w w' := by
  have hx := (Floor.not64 (-n - 1) (by omega) (by omega)).trans (show -(-n - 1) - 1 = n by omega)
  have hxq := (Floor.not64 (-q - 1) (by omega) (by omega)).trans (show -(-q - 1) - 1 = q by omega)
  have hs := Floor.sgn64
  go_enter Try.func6, Try.ntmps6
  go_wp2_with fail
  refine (Floor.zfd_eq (-n - 1) b (-q - 1) _ HC.out (by omega) (by omega) (by omega) (by omega)).mono ?_
  rintro e w' ⟨rfl, rfl⟩
  go_wp2_with fail
  refine (Floor.zfd_eq n b q _ HQ.out (by omega) (by omega) (by omega) (by omega)).mono ?_
  rintro e w' ⟨rfl, rfl⟩
  go_wp2_with fail
  refine (Mul.mul_any q b _ (by omega) (by omega) (by omega) (by omega) p0 (by omega)).mono ?_
  rintro e w' ⟨rfl, rfl⟩
  go_wp2
  go_ret
  exact ⟨ret_true (decide_eq_true (show n - q * b < b by omega)), Grown.refl _⟩

/-! ### STEP 1: THE WALK: the Go text returns true. 'Grown w w'': the world has at most new blocks (Derived/RowKit3.lean). Part the cases AHEAD of 'go_enter' where a test parts the walk; take each callee by a contract of your own. -/
theorem walk (a0 : Int) (a1 : Int) (w0 : (Lit.int .i64 a0).wf = true) (w1 : (Lit.int .i64 a1).wf = true) (w : World) :
    Calls Try.prog 6 #[.int .i64 a0, .int .i64 a1] w fun e w' => e = .returned (.bool true) ∧ Grown w w' := by
  obtain ⟨l0, u0⟩ := bounds_i64 w0
  obtain ⟨l1, u1⟩ := bounds_i64 w1
  clear w0 w1
  by_cases c1 : a1 ≤ 0
  · go_enter Try.func6, Try.ntmps6
    go_wp2
    go_ret
    exact ⟨rfl, Grown.refl _⟩
  by_cases c2 : a0 < 0
  · by_cases c3 : 9223372036854775807 - (-a0 - 1) < a1
    · have hx := Floor.not64 a0 l0 u0
      have hs := Floor.sgn64
      go_enter Try.func6, Try.ntmps6
      go_wp2
      go_ret
      exact ⟨rfl, Grown.refl _⟩
    · obtain ⟨n, rfl⟩ : ∃ n : Int, a0 = -n - 1 := ⟨-a0 - 1, by omega⟩
      obtain ⟨q0, q1, p0, p1, p2, hc⟩ := quo_facts n a1 (by omega) (by omega)
      exact walk_neg n a1 (n / a1) w (by omega) (by omega) (by omega) q0 q1 p0 p1 p2 rfl hc
  · by_cases c3 : 9223372036854775807 - a0 < a1
    · go_enter Try.func6, Try.ntmps6
      go_wp2
      go_ret
      exact ⟨rfl, Grown.refl _⟩
    · obtain ⟨q0, q1, p0, p1, p2, hc⟩ := quo_facts a0 a1 (by omega) (by omega)
      exact walk_pos a0 a1 (a0 / a1) w (by omega) (by omega) (by omega) q0 q1 p0 p1 p2 rfl hc

/-! ### THE ROW's STEP: WRITTEN OUT: LEAVE IT -/
set_option maxRecDepth 100000 in
theorem lifted (os : Os) (started : os.Started) (H : Type) (enc : TypeId × Value → H) :
    ReturnsInHanded {} Try.checked os 6 .any (Rows.fnFloorDivComplementAndRemainderSpec.pre6 enc Try.prog Try.f6 Rows.fnFloorDivComplementAndRemainderRow.domain false) (Rows.fnFloorDivComplementAndRemainderSpec.post enc Try.prog Try.f6 false true false false) := by
  refine returnsInHanded_of_change (C := Try.checked) own started (by kernel_rfl) Try.func6
    (ChangeSpec.witness6 (enc := enc) (C := Try.checked) false ⟨#[], #[.int .i64 0, .int .i64 0], []⟩ 8 (by kernel_rfl) (by kernel_rfl) (by kernel_rfl) (by kernel_rfl)) ?_
  intro W base args ds gs before hval0 hW hcnd _
  have hval : ∀ (j : Nat) t v, Try.f6.params[j]? = some t → args[j]? = some v → Value.okWide Try.prog W .any base t v := hval0
  have hW' := hW
  obtain ⟨p, q, hA0, hV, rfl, hfz, hnd⟩ := hW
  have hA : DataW.TrodAll enc Try.prog W 0 (fun _ => true) true Try.f6.params.toList args.toList ds p := hA0
  rw [Try.params6] at hA hval
  obtain ⟨v0, vs0, d0, ds0, p0, q0, hargs, rfl, rfl, h0, r0⟩ := trodAll_cons hA
  obtain ⟨v1, vs1, d1, ds1, p1, q1, rfl, rfl, rfl, h1, r1⟩ := trodAll_cons r0
  obtain ⟨rfl, rfl, rfl⟩ := trodAll_nil r1
  obtain rfl : args = #[v0, v1] := by cases args; simp_all
  obtain ⟨rfl, rfl⟩ := trodVars_none hV
  obtain ⟨a0, rfl, rfl, rfl, w0⟩ := open_int Try.underlying2 (hval 0 2 v0 rfl rfl) h0
  obtain ⟨a1, rfl, rfl, rfl, w1⟩ := open_int Try.underlying2 (hval 1 2 v1 rfl rfl) h1
  clear hA0 hval0
  simp only [List.append_nil] at hW'
  refine (walk a0 a1 w0 w1 W).mono fun e W' ⟨he, hg⟩ => ?_
  subst he
  exact ⟨_, rfl, post_of_same (pa := []) (pv := []) hW' (fun _ _ _ => (trodAll_cons_mk (shut_bool Try.underlying4 _) trodAll_mk0)) (fun sp _ => (trodAll_cons_mk (shut_int Try.underlying2 w0) (trodAll_cons_mk (shut_int Try.underlying2 w1) trodAll_mk0))) (fun _ _ => rfl) rfl
    (hg.frame _) hg.2.1 (ok_one (by kernel_rfl) rfl (okWide_bool_mk Try.underlying4 _))⟩

theorem over : Rows.fnFloorDivComplementAndRemainderRow.holds Try.pinned (OpenSpec.ofChange Rows.fnFloorDivComplementAndRemainderSpec) :=
  OpenClaim.holds_of_wide 6 Try.f6 rfl rfl rfl rfl rfl rfl rfl ⟨rfl, rfl, rfl, rfl, rfl⟩ rfl rfl rfl rfl rfl (by kernel_rfl) Try.func6 (by kernel_rfl)
    (of_decide_eq_true (by kernel_rfl)) (by unfold Func.isWrapper; first | (rw [if_pos (by decide +kernel)]; kernel_rfl) | (rw [if_neg (by decide +kernel)]; exact ⟨rfl, rfl⟩))
    (fun os started H enc _ => lifted os started H enc)

/-- ████ THE STATEMENT ████ -/
theorem proved : Rows.FnFloorDivComplementAndRemainderSaid :=
  over
end Go.Proofs.Qxb6619697a.fnFloorDivComplementAndRemainder

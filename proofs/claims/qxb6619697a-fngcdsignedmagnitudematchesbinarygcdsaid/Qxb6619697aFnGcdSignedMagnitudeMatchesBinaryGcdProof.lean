/-
  PROOF OF 'Rows.FnGcdSignedMagnitudeMatchesBinaryGcdSaid'. The frame is the seat's own shell (written by program); the plain laws and the walk are ours.
-/
import Derived.Test.Qxb6619697aRows
import Derived.WalkKit
import Derived.ProofKit
import Derived.OpenShut
import Derived.ShutString
import Derived.Test.Qxb6619697aGcd
import Derived.Test.Qxb6619697aBin
namespace Go.Proofs.Qxb6619697a.fnGcdSignedMagnitudeMatchesBinaryGcd
open Go.ChangeShapes Go.WideShapes Go.ChangeAt Go.RowKit
open Go.ChangeMaps (open_string shut_string)
set_option linter.unusedVariables false      -- a walk need not use every 'w<i>' (that an integer argument fits its kind)

theorem own : ownKnob Try.prog.godebug = none := by kernel_rfl

/-! ### THE PLAIN LAW: no Go in sight -/
theorem mag_neg (n : Int) (h0 : n < 0) (h1 : -9223372036854775808 ≤ n) : IntKind.u64.wrap (wrap64 (-n)) = (n.natAbs : Int) := by
  rw [IntKind.wrap_u64]; unfold wrap64; omega
theorem abs_neg (n : Int) (h0 : n < 0) (h1 : -9223372036854775808 ≤ n) : IntKind.u64.wrap (-IntKind.u64.wrap n) = (n.natAbs : Int) := by
  rw [IntKind.wrap_u64, IntKind.wrap_u64]; omega
theorem ret_int {k : IntKind} {a b : Int} (h : a = b) : Ending.returned (.int k a) = .returned (.int k b) := by rw [h]

/-! ### 'magnitude' (14), 'ZZmagnitude' (8), 'zzAbs' (11): the absolute value -/
theorem mag_any (n : Int) (w : World) (l : -9223372036854775808 ≤ n) (u : n ≤ 9223372036854775807) :
    Calls Try.prog 14 #[.int .i64 n] w fun e w' => e = .returned (.int .u64 (n.natAbs : Int)) ∧ w' = w := by
  by_cases c : n < 0
  · by_cases c' : n = -9223372036854775808
    · have hm := mag_neg n c l
      have hw : wrap64 (-n) = n := by unfold wrap64; omega
      clear c' l u
      go_enter Try.func14, Try.ntmps14
      go_wp2
      go_ret
      exact ⟨ret_int (by rw [hw] at hm; exact hm), rfl⟩
    · go_enter Try.func14, Try.ntmps14
      go_wp2
      go_ret
      exact ⟨ret_int (by omega), rfl⟩
  · go_enter Try.func14, Try.ntmps14
    go_wp2
    go_ret
    exact ⟨ret_int (by omega), rfl⟩
theorem zmag_any (n : Int) (w : World) (l : -9223372036854775808 ≤ n) (u : n ≤ 9223372036854775807) :
    Calls Try.prog 8 #[.int .i64 n] w fun e w' => e = .returned (.int .u64 (n.natAbs : Int)) ∧ w' = w := by
  go_enter Try.func8, Try.ntmps8
  go_wp2_with fail
  refine (mag_any n _ l u).mono ?_
  rintro e w' ⟨rfl, rfl⟩
  go_wp2
  go_ret
  exact ⟨rfl, rfl⟩
theorem zmag_eq (n : Int) (G : Nat) (w : World) (h : n.natAbs = G) (l : -9223372036854775808 ≤ n) (u : n ≤ 9223372036854775807) :
    Calls Try.prog 8 #[.int .i64 n] w fun e w' => e = .returned (.int .u64 (G : Int)) ∧ w' = w := by
  subst h
  exact zmag_any n w l u
theorem abs_at (n : Int) (w : World) (l : -9223372036854775808 ≤ n) (u : n ≤ 9223372036854775807) :
    Calls Try.prog 11 #[.int .i64 n] w fun e w' => e = .returned (.int .u64 (n.natAbs : Int)) ∧ w' = w := by
  by_cases c : n < 0
  · have hm := abs_neg n c l
    go_enter Try.func11, Try.ntmps11
    go_wp2
    go_ret
    exact ⟨rfl, rfl⟩
  · go_enter Try.func11, Try.ntmps11
    go_wp2
    go_ret
    exact ⟨ret_int (by omega), rfl⟩

theorem abs_any (n A : Int) (w : World) (h : (n.natAbs : Int) = A) (l : -9223372036854775808 ≤ n) (u : n ≤ 9223372036854775807) :
    Calls Try.prog 11 #[.int .i64 n] w fun e w' => e = .returned (.int .u64 A) ∧ w' = w := by
  subst h
  exact abs_at n w l u
theorem bin_eq (A B : Int) (G : Nat) (w : World) (h : Nat.gcd A.natAbs B.natAbs = G) (u0 : 0 ≤ A) (u1 : A ≤ 18446744073709551615) (v0 : 0 ≤ B) (v1 : B ≤ 18446744073709551615) :
    Calls Try.prog 9 #[.int .u64 A, .int .u64 B] w fun e w' => e = .returned (.int .u64 (G : Int)) ∧ w' = w := by
  subst h
  exact Bin.bin_any A B w u0 u1 v0 v1

/-! ### STEP 1: THE WALK: the Go text returns true. 'Grown w w'': the world has at most new blocks (Derived/RowKit3.lean). Part the cases AHEAD of 'go_enter' where a test parts the walk; take each callee by a contract of your own. -/
theorem walk (a0 : Int) (a1 : Int) (w0 : (Lit.int .i64 a0).wf = true) (w1 : (Lit.int .i64 a1).wf = true) (w : World) :
    Calls Try.prog 5 #[.int .i64 a0, .int .i64 a1] w fun e w' => e = .returned (.bool true) ∧ Grown w w' := by
  obtain ⟨l0, u0⟩ := bounds_i64 w0
  obtain ⟨l1, u1⟩ := bounds_i64 w1
  clear w0 w1
  obtain ⟨A, hA⟩ : ∃ A : Int, (a0.natAbs : Int) = A := ⟨_, rfl⟩
  obtain ⟨B, hB⟩ : ∃ B : Int, (a1.natAbs : Int) = B := ⟨_, rfl⟩
  obtain ⟨G, hG⟩ : ∃ G : Nat, Nat.gcd a0.natAbs a1.natAbs = G := ⟨_, rfl⟩
  have eA : A.natAbs = a0.natAbs := by omega
  have eB : B.natAbs = a1.natAbs := by omega
  have HK : Hid (Nat.gcd A.natAbs B.natAbs = G) := by show _ = _; rw [eA, eB]; exact hG
  have bA : 0 ≤ A ∧ A ≤ 18446744073709551615 := by omega
  have bB : 0 ≤ B ∧ B ≤ 18446744073709551615 := by omega
  have HA : Hid ((a0.natAbs : Int) = A) := hA
  have HB : Hid ((a1.natAbs : Int) = B) := hB
  have HG : Hid (Nat.gcd a0.natAbs a1.natAbs = G) := hG
  clear hA hB hG eA eB
  go_enter Try.func5, Try.ntmps5
  go_wp2_with fail
  refine (abs_any a0 A _ HA.out l0 u0).mono ?_
  rintro e w' ⟨rfl, rfl⟩
  go_wp2_with fail
  refine (abs_any a1 B _ HB.out l1 u1).mono ?_
  rintro e w' ⟨rfl, rfl⟩
  go_wp2_with fail
  refine (bin_eq A B G _ HK.out bA.1 bA.2 bB.1 bB.2).mono ?_
  rintro e w' ⟨rfl, rfl⟩
  go_wp2_with fail
  refine (Gcd.zgcd_any a0 a1 _ l0 u0 l1 u1).mono ?_
  rintro e w1 ⟨⟨g, rfl, g0, g1, hg, hs⟩, hW1⟩
  clear hs
  have Hg : Hid (g.natAbs = G) := hg.trans HG.out
  clear hg
  go_wp2_with fail
  refine (zmag_eq g G _ Hg.out g0 g1).mono ?_
  rintro e w1 ⟨rfl, rfl⟩
  go_wp2_with fail
  refine (Gcd.zgcd_any a1 a0 _ l1 u1 l0 u0).mono ?_
  rintro e w2 ⟨⟨g', rfl, g0', g1', hg, hs⟩, hW2⟩
  clear hs
  have Hg' : Hid (g'.natAbs = G) := by rw [Nat.gcd_comm] at hg; exact hg.trans HG.out
  clear hg
  go_wp2_with fail
  refine (zmag_eq g' G _ Hg'.out g0' g1').mono ?_
  rintro e w1 ⟨rfl, rfl⟩
  go_wp2
  go_ret
  exact ⟨rfl, Gcd.trans hW1 hW2⟩

/-! ### THE ROW's STEP: WRITTEN OUT: LEAVE IT -/
set_option maxRecDepth 100000 in
theorem lifted (os : Os) (started : os.Started) (H : Type) (enc : TypeId × Value → H) :
    ReturnsInHanded {} Try.checked os 5 .any (Rows.fnGcdSignedMagnitudeMatchesBinaryGcdSpec.pre6 enc Try.prog Try.f5 Rows.fnGcdSignedMagnitudeMatchesBinaryGcdRow.domain false) (Rows.fnGcdSignedMagnitudeMatchesBinaryGcdSpec.post enc Try.prog Try.f5 false true false false) := by
  refine returnsInHanded_of_change (C := Try.checked) own started (by kernel_rfl) Try.func5
    (ChangeSpec.witness6 (enc := enc) (C := Try.checked) false ⟨#[], #[.int .i64 0, .int .i64 0], []⟩ 8 (by kernel_rfl) (by kernel_rfl) (by kernel_rfl) (by kernel_rfl)) ?_
  intro W base args ds gs before hval0 hW hcnd _
  have hval : ∀ (j : Nat) t v, Try.f5.params[j]? = some t → args[j]? = some v → Value.okWide Try.prog W .any base t v := hval0
  have hW' := hW
  obtain ⟨p, q, hA0, hV, rfl, hfz, hnd⟩ := hW
  have hA : DataW.TrodAll enc Try.prog W 0 (fun _ => true) true Try.f5.params.toList args.toList ds p := hA0
  rw [Try.params5] at hA hval
  obtain ⟨v0, vs0, d0, ds0, p0, q0, hargs, rfl, rfl, h0, r0⟩ := trodAll_cons hA
  obtain ⟨v1, vs1, d1, ds1, p1, q1, rfl, rfl, rfl, h1, r1⟩ := trodAll_cons r0
  obtain ⟨rfl, rfl, rfl⟩ := trodAll_nil r1
  obtain rfl : args = #[v0, v1] := by cases args; simp_all
  obtain ⟨rfl, rfl⟩ := trodVars_none hV
  obtain ⟨a0, rfl, rfl, rfl, w0⟩ := open_int Try.underlying2 (hval 0 2 v0 rfl rfl) h0
  obtain ⟨a1, rfl, rfl, rfl, w1⟩ := open_int Try.underlying2 (hval 1 2 v1 rfl rfl) h1
  clear hA0 hval0
  simp only [List.append_nil] at hW'
  refine (walk a0 a1 w0 w1 W).mono fun e W' ⟨he, hg⟩ => ?_
  subst he
  exact ⟨_, rfl, post_of_same (pa := []) (pv := []) hW' (fun _ _ _ => (trodAll_cons_mk (shut_bool Try.underlying4 _) trodAll_mk0)) (fun sp _ => (trodAll_cons_mk (shut_int Try.underlying2 w0) (trodAll_cons_mk (shut_int Try.underlying2 w1) trodAll_mk0))) (fun _ _ => rfl) rfl
    (hg.frame _) hg.2.1 (ok_one (by kernel_rfl) rfl (okWide_bool_mk Try.underlying4 _))⟩

theorem over : Rows.fnGcdSignedMagnitudeMatchesBinaryGcdRow.holds Try.pinned (OpenSpec.ofChange Rows.fnGcdSignedMagnitudeMatchesBinaryGcdSpec) :=
  OpenClaim.holds_of_wide 5 Try.f5 rfl rfl rfl rfl rfl rfl rfl ⟨rfl, rfl, rfl, rfl, rfl⟩ rfl rfl rfl rfl rfl (by kernel_rfl) Try.func5 (by kernel_rfl)
    (of_decide_eq_true (by kernel_rfl)) (by unfold Func.isWrapper; first | (rw [if_pos (by decide +kernel)]; kernel_rfl) | (rw [if_neg (by decide +kernel)]; exact ⟨rfl, rfl⟩))
    (fun os started H enc _ => lifted os started H enc)

/-- ████ THE STATEMENT ████ -/
theorem proved : Rows.FnGcdSignedMagnitudeMatchesBinaryGcdSaid :=
  over
end Go.Proofs.Qxb6619697a.fnGcdSignedMagnitudeMatchesBinaryGcd

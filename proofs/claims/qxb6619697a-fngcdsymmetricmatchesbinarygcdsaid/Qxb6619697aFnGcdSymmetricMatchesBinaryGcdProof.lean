/-
  PROOF OF 'Rows.FnGcdSymmetricMatchesBinaryGcdSaid'. The frame is the seat's own shell (written by program); the plain laws and the walk are ours.
-/
import Derived.Test.Qxb6619697aRows
import Derived.WalkKit
import Derived.ProofKit
import Derived.OpenShut
import Derived.ShutString
import Derived.Test.Qxb6619697aGcd
import Derived.Test.Qxb6619697aBin
namespace Go.Proofs.Qxb6619697a.fnGcdSymmetricMatchesBinaryGcd
open Go.ChangeShapes Go.WideShapes Go.ChangeAt Go.RowKit
open Go.ChangeMaps (open_string shut_string)
set_option linter.unusedVariables false      -- a walk need not use every 'w<i>' (that an integer argument fits its kind)

theorem own : ownKnob Try.prog.godebug = none := by kernel_rfl

/-! ### THE PLAIN LAW: no Go in sight -/
theorem gcd_bd (a b : Int) (a0 : 0 ≤ a) (a1 : a ≤ 9223372036854775807) (b0 : 0 ≤ b) (b1 : b ≤ 9223372036854775807) : Nat.gcd a.natAbs b.natAbs ≤ 9223372036854775807 := by
  by_cases h : a.natAbs = 0
  · rw [h, Nat.gcd_zero_left]; omega
  · have := Nat.gcd_le_left b.natAbs (show 0 < a.natAbs by omega)
    omega

/-! ### STEP 1: THE WALK: the Go text returns true. 'Grown w w'': the world has at most new blocks (Derived/RowKit3.lean). Part the cases AHEAD of 'go_enter' where a test parts the walk; take each callee by a contract of your own. -/
theorem walk (a0 : Int) (a1 : Int) (w0 : (Lit.int .i64 a0).wf = true) (w1 : (Lit.int .i64 a1).wf = true) (w : World) :
    Calls Try.prog 4 #[.int .i64 a0, .int .i64 a1] w fun e w' => e = .returned (.bool true) ∧ Grown w w' := by
  obtain ⟨l0, u0⟩ := bounds_i64 w0
  obtain ⟨l1, u1⟩ := bounds_i64 w1
  clear w0 w1
  by_cases c1 : a0 < 0
  · go_enter Try.func4, Try.ntmps4
    go_wp2
    go_ret
    exact ⟨rfl, Grown.refl _⟩
  by_cases c2 : a1 < 0
  · go_enter Try.func4, Try.ntmps4
    go_wp2
    go_ret
    exact ⟨rfl, Grown.refl _⟩
  have hbd := gcd_bd a0 a1 (by omega) u0 (by omega) u1
  go_enter Try.func4, Try.ntmps4
  go_wp2_with fail
  refine (Bin.bin_any a0 a1 _ (by omega) (by omega) (by omega) (by omega)).mono ?_
  rintro e w' ⟨rfl, rfl⟩
  generalize hG : Nat.gcd a0.natAbs a1.natAbs = G at *
  have HG : Hid (Nat.gcd a0.natAbs a1.natAbs = G) := hG
  clear hG
  go_wp2_with fail
  refine (Gcd.zgcd_any a0 a1 _ l0 u0 l1 u1).mono ?_
  rintro e w1 ⟨⟨g, rfl, g0, g1, hg, hs⟩, hW1⟩
  have hg0 := hs (by omega) (by omega)
  obtain rfl : g = (G : Int) := by rw [HG.out] at hg; omega
  clear hg hs g0 g1 hg0
  go_wp2_with fail
  refine (Gcd.zgcd_any a1 a0 _ l1 u1 l0 u0).mono ?_
  rintro e w2 ⟨⟨g, rfl, g0, g1, hg, hs⟩, hW2⟩
  have hg0 := hs (by omega) (by omega)
  obtain rfl : g = (G : Int) := by rw [Nat.gcd_comm, HG.out] at hg; omega
  clear hg hs g0 g1 hg0
  go_wp2
  go_ret
  exact ⟨rfl, Gcd.trans hW1 hW2⟩

/-! ### THE ROW's STEP: WRITTEN OUT: LEAVE IT -/
set_option maxRecDepth 100000 in
theorem lifted (os : Os) (started : os.Started) (H : Type) (enc : TypeId × Value → H) :
    ReturnsInHanded {} Try.checked os 4 .any (Rows.fnGcdSymmetricMatchesBinaryGcdSpec.pre6 enc Try.prog Try.f4 Rows.fnGcdSymmetricMatchesBinaryGcdRow.domain false) (Rows.fnGcdSymmetricMatchesBinaryGcdSpec.post enc Try.prog Try.f4 false true false false) := by
  refine returnsInHanded_of_change (C := Try.checked) own started (by kernel_rfl) Try.func4
    (ChangeSpec.witness6 (enc := enc) (C := Try.checked) false ⟨#[], #[.int .i64 0, .int .i64 0], []⟩ 8 (by kernel_rfl) (by kernel_rfl) (by kernel_rfl) (by kernel_rfl)) ?_
  intro W base args ds gs before hval0 hW hcnd _
  have hval : ∀ (j : Nat) t v, Try.f4.params[j]? = some t → args[j]? = some v → Value.okWide Try.prog W .any base t v := hval0
  have hW' := hW
  obtain ⟨p, q, hA0, hV, rfl, hfz, hnd⟩ := hW
  have hA : DataW.TrodAll enc Try.prog W 0 (fun _ => true) true Try.f4.params.toList args.toList ds p := hA0
  rw [Try.params4] at hA hval
  obtain ⟨v0, vs0, d0, ds0, p0, q0, hargs, rfl, rfl, h0, r0⟩ := trodAll_cons hA
  obtain ⟨v1, vs1, d1, ds1, p1, q1, rfl, rfl, rfl, h1, r1⟩ := trodAll_cons r0
  obtain ⟨rfl, rfl, rfl⟩ := trodAll_nil r1
  obtain rfl : args = #[v0, v1] := by cases args; simp_all
  obtain ⟨rfl, rfl⟩ := trodVars_none hV
  obtain ⟨a0, rfl, rfl, rfl, w0⟩ := open_int Try.underlying2 (hval 0 2 v0 rfl rfl) h0
  obtain ⟨a1, rfl, rfl, rfl, w1⟩ := open_int Try.underlying2 (hval 1 2 v1 rfl rfl) h1
  clear hA0 hval0
  simp only [List.append_nil] at hW'
  refine (walk a0 a1 w0 w1 W).mono fun e W' ⟨he, hg⟩ => ?_
  subst he
  exact ⟨_, rfl, post_of_same (pa := []) (pv := []) hW' (fun _ _ _ => (trodAll_cons_mk (shut_bool Try.underlying4 _) trodAll_mk0)) (fun sp _ => (trodAll_cons_mk (shut_int Try.underlying2 w0) (trodAll_cons_mk (shut_int Try.underlying2 w1) trodAll_mk0))) (fun _ _ => rfl) rfl
    (hg.frame _) hg.2.1 (ok_one (by kernel_rfl) rfl (okWide_bool_mk Try.underlying4 _))⟩

theorem over : Rows.fnGcdSymmetricMatchesBinaryGcdRow.holds Try.pinned (OpenSpec.ofChange Rows.fnGcdSymmetricMatchesBinaryGcdSpec) :=
  OpenClaim.holds_of_wide 4 Try.f4 rfl rfl rfl rfl rfl rfl rfl ⟨rfl, rfl, rfl, rfl, rfl⟩ rfl rfl rfl rfl rfl (by kernel_rfl) Try.func4 (by kernel_rfl)
    (of_decide_eq_true (by kernel_rfl)) (by unfold Func.isWrapper; first | (rw [if_pos (by decide +kernel)]; kernel_rfl) | (rw [if_neg (by decide +kernel)]; exact ⟨rfl, rfl⟩))
    (fun os started H enc _ => lifted os started H enc)

/-- ████ THE STATEMENT ████ -/
theorem proved : Rows.FnGcdSymmetricMatchesBinaryGcdSaid :=
  over
end Go.Proofs.Qxb6619697a.fnGcdSymmetricMatchesBinaryGcd

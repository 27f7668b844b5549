/-
  The contracts of 'gcd' (15) and 'ZZgcd' (10).
-/
import Derived.Test.Qxb6619697aRows
import Derived.WalkKit
import Derived.ProofKit
namespace Go.Proofs.Qxb6619697a.Gcd
open Go.RowKit

/-! ### Plain -/
theorem natAbs_tmod (x y : Int) : (x.tmod y).natAbs = x.natAbs % y.natAbs := Int.natAbs_tmod x y
theorem gcd_step (x y : Int) : Nat.gcd y.natAbs (x.tmod y).natAbs = Nat.gcd x.natAbs y.natAbs := by
  rw [natAbs_tmod, Nat.gcd_comm x.natAbs y.natAbs, Nat.gcd_rec y.natAbs x.natAbs, Nat.gcd_comm]
theorem tmod_lt (x y : Int) (h : y ≠ 0) : (x.tmod y).natAbs < y.natAbs := by
  rw [natAbs_tmod]; exact Nat.mod_lt _ (by omega)
theorem tmod_bd (x y : Int) (h : y ≠ 0) (h0 : -9223372036854775808 ≤ y) (h1 : y ≤ 9223372036854775807) : -9223372036854775808 ≤ x.tmod y ∧ x.tmod y ≤ 9223372036854775807 := by
  have := tmod_lt x y h; omega
theorem tmod_sign (x y : Int) (hx : 0 ≤ x) : 0 ≤ x.tmod y := Int.tmod_nonneg y hx
theorem trans {W w1 w2 : World} (h1 : Grown W w1) (h2 : Grown w1 w2) : Grown W w2 :=
  ⟨World.keptBut_trans h1.1 h2.1, fun a => (h2.2.1 a).trans (h1.2.1 a), Nat.le_trans h1.2.2 h2.2.2⟩

theorem gcd_any (a b : Int) (w : World) (a0 : -9223372036854775808 ≤ a) (a1 : a ≤ 9223372036854775807) (b0 : -9223372036854775808 ≤ b) (b1 : b ≤ 9223372036854775807) :
    Calls Try.prog 15 #[.int .i64 a, .int .i64 b] w fun e w' => (∃ g : Int, e = .returned (.int .i64 g) ∧ -9223372036854775808 ≤ g ∧ g ≤ 9223372036854775807 ∧ g.natAbs = Nat.gcd a.natAbs b.natAbs ∧ (0 ≤ a → 0 ≤ b → 0 ≤ g)) ∧ Grown w w' := by
  go_enter Try.func15, Try.ntmps15
  go_wp2
  go_loopw [0, 1] (fun s t wr => ∃ x y : Int, s = .int .i64 x ∧ t = .int .i64 y ∧ -9223372036854775808 ≤ x ∧ x ≤ 9223372036854775807 ∧ -9223372036854775808 ≤ y ∧ y ≤ 9223372036854775807 ∧ Nat.gcd x.natAbs y.natAbs = Nat.gcd a.natAbs b.natAbs ∧ (0 ≤ a → 0 ≤ b → 0 ≤ x ∧ 0 ≤ y) ∧ Grown w wr) (fun _ t _ => (intOf t).natAbs)
  case atStart => exact ⟨a, b, rfl, rfl, a0, a1, b0, b1, rfl, fun h h' => ⟨h, h'⟩, Grown.refl _⟩
  case round =>
    obtain ⟨x, y, rfl, rfl, x0, x1, y0, y1, hg, hs, hW⟩ := hrel
    have HG : Hid (Nat.gcd x.natAbs y.natAbs = Nat.gcd a.natAbs b.natAbs) := hg
    clear hg
    by_cases hy : y = 0
    · subst hy
      go_wp2
      go_ret
      exact ⟨⟨x, rfl, x0, x1, by rw [← HG.out]; simp, fun h h' => (hs h h').1⟩, hW⟩
    · have hy' : (y == 0) = false := beq_eq_false_iff_ne.2 hy
      have hd := tmod_lt x y hy
      have hb := tmod_bd x y hy y0 y1
      go_wp2
      go_region
      all_goals
        go_wp2
        go_roundw
        case rel => exact ⟨y, x.tmod y, rfl, rfl, y0, y1, hb.1, hb.2, (gcd_step x y).trans HG.out, fun h h' => ⟨(hs h h').2, tmod_sign x y (hs h h').1⟩, hW⟩
        case measure => simpa [intOf] using hd

/-- 'ZZgcd' hands it on. -/
theorem zgcd_any (a b : Int) (w : World) (a0 : -9223372036854775808 ≤ a) (a1 : a ≤ 9223372036854775807) (b0 : -9223372036854775808 ≤ b) (b1 : b ≤ 9223372036854775807) :
    Calls Try.prog 10 #[.int .i64 a, .int .i64 b] w fun e w' => (∃ g : Int, e = .returned (.int .i64 g) ∧ -9223372036854775808 ≤ g ∧ g ≤ 9223372036854775807 ∧ g.natAbs = Nat.gcd a.natAbs b.natAbs ∧ (0 ≤ a → 0 ≤ b → 0 ≤ g)) ∧ Grown w w' := by
  go_enter Try.func10, Try.ntmps10
  go_wp2_with fail
  refine (gcd_any a b _ a0 a1 b0 b1).mono ?_
  rintro e w' ⟨⟨g, rfl, g0, g1, hg, hs⟩, hW⟩
  have HG : Hid (g.natAbs = Nat.gcd a.natAbs b.natAbs) := hg
  clear hg
  go_wp2
  go_ret
  exact ⟨⟨g, rfl, g0, g1, HG.out, hs⟩, hW⟩
end Go.Proofs.Qxb6619697a.Gcd

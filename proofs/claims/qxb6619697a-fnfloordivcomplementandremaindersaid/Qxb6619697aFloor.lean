/-
  The contracts of 'floorDiv' (16) and 'ZZfloorDiv' (12): the floor of a / b, wherever -a + b - 1 fits.
-/
import Derived.Test.Qxb6619697aRows
import Derived.WalkKit
import Derived.ProofKit
namespace Go.Proofs.Qxb6619697a.Floor
open Go.RowKit

/-! ### Plain -/
theorem neg_div (a b : Int) (hb : 1 ≤ b) : -((-a + b - 1) / b) = a / b := by
  have h1 := Int.mul_ediv_add_emod a b
  have h2 := Int.emod_nonneg a (show b ≠ 0 by omega)
  have h3 := Int.emod_lt_of_pos a (show 0 < b by omega)
  generalize a / b = q at *
  generalize a % b = r at *
  have e : -a + b - 1 = (b - 1 - r) + b * (-q) := by rw [Int.mul_neg]; omega
  rw [e, Int.add_mul_ediv_left _ _ (by omega), Int.ediv_eq_zero_of_lt (by omega) (by omega)]
  omega
theorem back (x : Int) (h0 : 0 ≤ x - 1) (h1 : x - 1 ≤ 9223372036854775807) : wrap64 (wrap64 x - 1) = x - 1 := by
  unfold wrap64; omega
theorem quo_bd (x b : Int) (h0 : 0 ≤ x) (hb : 1 ≤ b) (h1 : x ≤ 9223372036854775807) : 0 ≤ x / b ∧ x / b ≤ 9223372036854775807 := by
  have := IntWalk.tdiv_le x b h0 hb
  omega
theorem ret_int {k : IntKind} {a b : Int} (h : a = b) : Ending.returned (.int k a) = .returned (.int k b) := by rw [h]

/-- '^x' on an int64. -/
theorem not64 (a : Int) (h0 : -9223372036854775808 ≤ a) (h1 : a ≤ 9223372036854775807) : bits .xor .i64 (-1) a = -a - 1 := by
  show IntKind.i64.wrap ((BitVec.ofInt 64 (-1) ^^^ BitVec.ofInt 64 a).toNat : Int) = _
  have e1 : BitVec.ofInt 64 (-1) = BitVec.allOnes 64 := by decide
  rw [e1, BitVec.allOnes_xor, BitVec.toNat_not, BitVec.toNat_ofInt, IntKind.wrap_i64]
  omega
theorem sgn64 : IntKind.i64.signed = true := rfl

/-! ### The walks -/
theorem fd_pos (a b : Int) (w : World) (hb : 1 ≤ b) (ha : 0 ≤ a) (ha' : a ≤ 9223372036854775807) :
    Calls Try.prog 16 #[.int .i64 a, .int .i64 b] w fun e w' => e = .returned (.int .i64 (a / b)) ∧ w' = w := by
  go_enter Try.func16, Try.ntmps16
  go_wp2
  go_ret
  exact ⟨rfl, rfl⟩

theorem fd_neg (a b : Int) (w : World) (hb : 1 ≤ b) (hb' : b ≤ 9223372036854775807) (ha : a < 0) (ha' : -a + b - 1 ≤ 9223372036854775807) :
    Calls Try.prog 16 #[.int .i64 a, .int .i64 b] w fun e w' => e = .returned (.int .i64 (a / b)) ∧ w' = w := by
  have hbk := back (-a + b) (by omega) ha'
  obtain ⟨q0, q1⟩ := quo_bd (-a + b - 1) b (by omega) hb ha'
  go_enter Try.func16, Try.ntmps16
  go_wp2
  go_ret
  exact ⟨ret_int (neg_div a b hb), rfl⟩

theorem fd_any (a b : Int) (w : World) (hb : 1 ≤ b) (hb' : b ≤ 9223372036854775807) (ha : a ≤ 9223372036854775807) (ha' : -a + b - 1 ≤ 9223372036854775807) :
    Calls Try.prog 16 #[.int .i64 a, .int .i64 b] w fun e w' => e = .returned (.int .i64 (a / b)) ∧ w' = w := by
  by_cases h : a < 0
  · exact fd_neg a b w hb hb' h ha'
  · exact fd_pos a b w hb (by omega) ha

theorem zfd_any (a b : Int) (w : World) (hb : 1 ≤ b) (hb' : b ≤ 9223372036854775807) (ha : a ≤ 9223372036854775807) (ha' : -a + b - 1 ≤ 9223372036854775807) :
    Calls Try.prog 12 #[.int .i64 a, .int .i64 b] w fun e w' => e = .returned (.int .i64 (a / b)) ∧ w' = w := by
  go_enter Try.func12, Try.ntmps12
  go_wp2_with (go_at_call 16; refine (fd_any a b _ hb hb' ha ha').mono ?_; rintro e w' ⟨rfl, rfl⟩)
  go_ret
  exact ⟨rfl, rfl⟩

theorem zfd_eq (a b q : Int) (w : World) (hq : a / b = q) (hb : 1 ≤ b) (hb' : b ≤ 9223372036854775807) (ha : a ≤ 9223372036854775807) (ha' : -a + b - 1 ≤ 9223372036854775807) :
    Calls Try.prog 12 #[.int .i64 a, .int .i64 b] w fun e w' => e = .returned (.int .i64 q) ∧ w' = w := by
  subst hq
  exact zfd_any a b w hb hb' ha ha'
end Go.Proofs.Qxb6619697a.Floor

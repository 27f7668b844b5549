/-
  The contract of 'zzMul64' (13) where the product fits one word: (0, x * y).
-/
import Derived.Test.Qxb6619697aRows
import Derived.WalkKit
import Derived.ProofKit
namespace Go.Proofs.Qxb6619697a.Mul
open Go.RowKit

/-! ### Plain -/
theorem mask32 (E : Int) (h0 : 0 ≤ E) (h1 : E ≤ 18446744073709551615) : bits BinOp.and IntKind.u64 E 4294967295 = E % 4294967296 := by
  have h := bits_and_u64_nat E.toNat 4294967295 (by omega) (by omega)
  have e := @Nat.and_two_pow_sub_one_eq_mod E.toNat 32
  rw [show (2 : Nat) ^ 32 - 1 = 4294967295 from rfl, show (2 : Nat) ^ 32 = 4294967296 from rfl] at e
  rw [e, Int.toNat_of_nonneg h0] at h
  have h2 : ((E.toNat % 4294967296 : Nat) : Int) = E % 4294967296 := by omega
  exact h.trans h2
theorem prod_bd (a b : Int) (a0 : 0 ≤ a) (a1 : a ≤ 4294967295) (b0 : 0 ≤ b) (b1 : b ≤ 4294967295) : 0 ≤ a * b ∧ a * b ≤ 18446744065119617025 := by
  have h1 := Int.mul_nonneg a0 b0
  have h2 : a * b ≤ 4294967295 * 4294967295 := Int.mul_le_mul a1 b1 b0 (by decide)
  omega
theorem split (x y x0 x1 y0 y1 : Int) (hx : x = x1 * 4294967296 + x0) (hy : y = y1 * 4294967296 + y0) :
    x * y = x1 * y1 * 18446744073709551616 + (x1 * y0 + x0 * y1) * 4294967296 + x0 * y0 := by
  subst hx hy
  have e1 : (x1 * 4294967296 + x0) * (y1 * 4294967296 + y0) = x1 * 4294967296 * (y1 * 4294967296) + x1 * 4294967296 * y0 + (x0 * (y1 * 4294967296) + x0 * y0) := by
    rw [Int.add_mul, Int.mul_add, Int.mul_add]
  have e2 : x1 * 4294967296 * (y1 * 4294967296) = x1 * y1 * 18446744073709551616 := by
    rw [Int.mul_assoc, ← Int.mul_assoc 4294967296 y1, Int.mul_comm 4294967296 y1, Int.mul_assoc y1, ← Int.mul_assoc]; rfl
  have e3 : x1 * 4294967296 * y0 = x1 * y0 * 4294967296 := by rw [Int.mul_assoc, Int.mul_comm 4294967296 y0, Int.mul_assoc]
  have e4 : x0 * (y1 * 4294967296) = x0 * y1 * 4294967296 := by rw [Int.mul_assoc]
  rw [e1, e2, e3, e4]
  omega
theorem hi_zero (P p11 p10 p01 p00 : Int) (h : P = p11 * 18446744073709551616 + (p10 + p01) * 4294967296 + p00) (hP : 0 ≤ P) (hP' : P ≤ 18446744073709551615) :
    p11 + (p10 + p00 / 4294967296) / 4294967296 + ((p10 + p00 / 4294967296) % 4294967296 + p01) / 4294967296 = 0 := by
  omega
theorem ret_two {a b : Int} (h : a = b) (c : Int) : Ending.returned (.tuple #[.int .u64 a, .int .u64 c]) = .returned (.tuple #[.int .u64 b, .int .u64 c]) := by rw [h]

theorem mul_parts (x y x0 x1 y0 y1 : Int) (w : World) (hx0 : 0 ≤ x0) (hx0' : x0 ≤ 4294967295) (hx1 : 0 ≤ x1) (hx1' : x1 ≤ 4294967295) (hy0 : 0 ≤ y0) (hy0' : y0 ≤ 4294967295) (hy1 : 0 ≤ y1) (hy1' : y1 ≤ 4294967295)
    (hxm : bits BinOp.and IntKind.u64 x 4294967295 = x0) (hym : bits BinOp.and IntKind.u64 y 4294967295 = y0) (hxd : x / 4294967296 = x1) (hyd : y / 4294967296 = y1)
    (HX : Hid (x = x1 * 4294967296 + x0)) (HY : Hid (y = y1 * 4294967296 + y0)) (p0 : 0 ≤ x * y) (p1 : x * y ≤ 18446744073709551615) :
    Calls Try.prog 13 #[.int .u64 x, .int .u64 y] w fun e w' => e = .returned (.tuple #[.int .u64 0, .int .u64 (x * y)]) ∧ w' = w := by
  obtain ⟨b00, b00'⟩ := prod_bd x0 y0 hx0 hx0' hy0 hy0'
  obtain ⟨b10, b10'⟩ := prod_bd x1 y0 hx1 hx1' hy0 hy0'
  obtain ⟨b01, b01'⟩ := prod_bd x0 y1 hx0 hx0' hy1 hy1'
  obtain ⟨b11, b11'⟩ := prod_bd x1 y1 hx1 hx1' hy1 hy1'
  have hm := mask32 (x1 * y0 + x0 * y0 / 4294967296) (by omega) (by omega)
  go_enter Try.func13, Try.ntmps13
  go_wp2
  go_ret2
  exact ⟨ret_two (hi_zero (x * y) _ _ _ _ (split x y x0 x1 y0 y1 HX.out HY.out) p0 p1) _, rfl⟩

theorem mul_any (x y : Int) (w : World) (x0 : 0 ≤ x) (x1 : x ≤ 18446744073709551615) (y0 : 0 ≤ y) (y1 : y ≤ 18446744073709551615) (p0 : 0 ≤ x * y) (p1 : x * y ≤ 18446744073709551615) :
    Calls Try.prog 13 #[.int .u64 x, .int .u64 y] w fun e w' => e = .returned (.tuple #[.int .u64 0, .int .u64 (x * y)]) ∧ w' = w :=
  mul_parts x y (x % 4294967296) (x / 4294967296) (y % 4294967296) (y / 4294967296) w (by omega) (by omega) (by omega) (by omega) (by omega) (by omega) (by omega) (by omega)
    (mask32 x x0 x1) (mask32 y y0 y1) rfl rfl (show x = x / 4294967296 * 4294967296 + x % 4294967296 by omega) (show y = y / 4294967296 * 4294967296 + y % 4294967296 by omega) p0 p1
end Go.Proofs.Qxb6619697a.Mul

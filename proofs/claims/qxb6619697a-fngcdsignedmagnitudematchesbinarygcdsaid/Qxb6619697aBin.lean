/-
  The contract of 'zzBinaryGcd' (9): Stein's algorithm gives Nat.gcd.
-/
import Derived.Test.Qxb6619697aRows
import Derived.WalkKit
import Derived.ProofKit
import Derived.WalkSmall
namespace Go.Proofs.Qxb6619697a.Bin
open Go.RowKit

/-! ### Plain -/
theorem even_even (u v : Nat) (hu : u % 2 = 0) (hv : v % 2 = 0) : Nat.gcd u v = Nat.gcd (u / 2) (v / 2) * 2 := by
  have e1 : u = u / 2 * 2 := by omega
  have e2 : v = v / 2 * 2 := by omega
  conv => lhs; rw [e1, e2]
  exact Nat.gcd_mul_right _ 2 _
theorem cop_two (v : Nat) (hv : v % 2 = 1) : Nat.Coprime 2 v := by
  have h : Nat.gcd 2 v = Nat.gcd (v % 2) 2 := Nat.gcd_rec 2 v
  rw [hv] at h
  exact h
theorem even_odd (u v : Nat) (hu : u % 2 = 0) (hv : v % 2 = 1) : Nat.gcd (u / 2) v = Nat.gcd u v := by
  have e1 : u = 2 * (u / 2) := by omega
  conv => rhs; rw [e1]
  exact (Nat.Coprime.gcd_mul_left_cancel _ (cop_two v hv)).symm
theorem odd_even (u v : Nat) (hu : u % 2 = 1) (hv : v % 2 = 0) : Nat.gcd u (v / 2) = Nat.gcd u v := by
  rw [Nat.gcd_comm, even_odd v u hv hu, Nat.gcd_comm]
theorem sub_right (u v : Nat) (h : u ≤ v) : Nat.gcd u (v - u) = Nat.gcd u v := Nat.gcd_sub_self_right h
theorem sub_swap (u v : Nat) (h : v ≤ u) : Nat.gcd v (u - v) = Nat.gcd u v := by rw [sub_right v u h, Nat.gcd_comm]

theorem or_mod (u v : Nat) : (u ||| v) % 2 = if u % 2 = 0 ∧ v % 2 = 0 then 0 else 1 := by
  have h : (u ||| v) % 2 = (u % 2) ||| (v % 2) := by
    have := @Nat.or_mod_two_pow u v 1
    simpa using this
  rw [h]
  rcases Nat.mod_two_eq_zero_or_one u with hu | hu <;> rcases Nat.mod_two_eq_zero_or_one v with hv | hv <;> simp [hu, hv]

theorem or_bits (u v : Nat) (hu : u < 18446744073709551616) (hv : v < 18446744073709551616) : bits .or .u64 (u : Int) (v : Int) = ((u ||| v : Nat) : Int) := by
  have hx : u ||| v < 2 ^ 64 := Nat.or_lt_two_pow (by omega) (by omega)
  have h1 : (BitVec.ofInt 64 (u : Int)).toNat = u := by
    rw [BitVec.ofInt_natCast, BitVec.toNat_ofNat]; exact Nat.mod_eq_of_lt (by omega)
  have h2 : (BitVec.ofInt 64 (v : Int)).toNat = v := by
    rw [BitVec.ofInt_natCast, BitVec.toNat_ofNat]; exact Nat.mod_eq_of_lt (by omega)
  show IntKind.u64.wrap ((BitVec.ofInt 64 (u : Int) ||| BitVec.ofInt 64 (v : Int)).toNat : Int) = _
  rw [BitVec.toNat_or, h1, h2, IntKind.wrap_u64]
  omega
theorem bit_both (u v : Nat) (hu : u < 18446744073709551616) (hv : v < 18446744073709551616) (h : u % 2 = 0 ∧ v % 2 = 0) : bits .and .u64 (bits .or .u64 (u : Int) (v : Int)) 1 = 0 := by
  have hx : u ||| v < 2 ^ 64 := Nat.or_lt_two_pow (by omega) (by omega)
  rw [or_bits u v hu hv, and_one_u64 _ (by omega) (by omega)]
  have := or_mod u v
  rw [if_pos h] at this
  omega
theorem bit_one (u v : Nat) (hu : u < 18446744073709551616) (hv : v < 18446744073709551616) (h : ¬ (u % 2 = 0 ∧ v % 2 = 0)) : bits .and .u64 (bits .or .u64 (u : Int) (v : Int)) 1 = 1 := by
  have hx : u ||| v < 2 ^ 64 := Nat.or_lt_two_pow (by omega) (by omega)
  rw [or_bits u v hu hv, and_one_u64 _ (by omega) (by omega)]
  have := or_mod u v
  rw [if_neg h] at this
  omega
theorem bit0 (u : Nat) (hu : u < 18446744073709551616) (h : u % 2 = 0) : bits .and .u64 (u : Int) 1 = 0 := by
  rw [and_one_u64 _ (by omega) (by omega)]; omega
theorem bit1 (u : Nat) (hu : u < 18446744073709551616) (h : u % 2 = 1) : bits .and .u64 (u : Int) 1 = 1 := by
  rw [and_one_u64 _ (by omega) (by omega)]; omega
theorem pow_le (u k U : Nat) (h : u * 2 ^ k = U) (hu : 1 ≤ u) (hU : U < 18446744073709551616) : k ≤ 63 := by
  by_cases hk : k ≤ 63
  · exact hk
  · have h1 : 2 ^ 64 ≤ 2 ^ k := Nat.pow_le_pow_right (by decide) (by omega)
    have h2 : 1 * 2 ^ k ≤ u * 2 ^ k := Nat.mul_le_mul_right _ hu
    omega
theorem half (u k : Nat) (h : u % 2 = 0) : u / 2 * 2 ^ (k + 1) = u * 2 ^ k := by
  rw [Nat.pow_succ, Nat.mul_comm (2 ^ k) 2, ← Nat.mul_assoc]
  congr 1; omega

theorem fin (p k U V : Nat) (h : Nat.gcd p 0 * 2 ^ k = Nat.gcd U V) (h0 : 1 ≤ U) (h1 : U < 18446744073709551616) : IntKind.u64.wrap ((p : Int) * 2 ^ k) = ((Nat.gcd U V : Nat) : Int) := by
  rw [Nat.gcd_zero_right] at h
  have hle : Nat.gcd U V ≤ U := Nat.gcd_le_left V h0
  have e : ((p : Int) * 2 ^ k) = ((p * 2 ^ k : Nat) : Int) := by simp
  rw [e, h]
  exact IntWalk.u64_in _ (by omega)
theorem ret_int {k : IntKind} {a b : Int} (h : a = b) : Ending.returned (.int k a) = .returned (.int k b) := by rw [h]

set_option maxHeartbeats 1000000 in
theorem bin_in (U V : Nat) (w : World) (hU0 : 1 ≤ U) (hV0 : 1 ≤ V) (hU : U < 18446744073709551616) (hV : V < 18446744073709551616) :
    Calls Try.prog 9 #[.int .u64 U, .int .u64 V] w fun e w' => e = .returned (.int .u64 (Nat.gcd U V : Nat)) ∧ w' = w := by
  have tU : ((U : Int) == 0) = false := beq_eq_false_iff_ne.2 (by omega)
  have tV : ((V : Int) == 0) = false := beq_eq_false_iff_ne.2 (by omega)
  go_enter Try.func9, Try.ntmps9
  go_wp2
  go_loop [0, 1, 5] (fun s t c => ∃ u v k : Nat, s = .int .u64 u ∧ t = .int .u64 v ∧ c = .int .u64 k ∧ 1 ≤ u ∧ 1 ≤ v ∧ u < 18446744073709551616 ∧ v < 18446744073709551616 ∧ Hid (u * 2 ^ k = U) ∧ Hid (v * 2 ^ k = V)) (fun s _ _ => (intOf s).toNat)
  case atStart => exact ⟨U, V, 0, rfl, rfl, rfl, hU0, hV0, hU, hV, Nat.mul_one U, Nat.mul_one V⟩
  case round =>
    obtain ⟨u, v, k, rfl, rfl, rfl, hu, hv, hu', hv', HU, HV⟩ := hrel
    have hk := pow_le u k U HU.out hu hU
    by_cases hb : u % 2 = 0 ∧ v % 2 = 0
    · have hbit := bit_both u v hu' hv' hb
      go_wp2
      go_round
      case rel => exact ⟨u / 2, v / 2, k + 1, by go_num, by go_num, by go_num, by omega, by omega, by omega, by omega, (half u k hb.1).trans HU.out, (half v k hb.2).trans HV.out⟩
      case measure => simp [intOf]; omega
    · have hbit := bit_one u v hu' hv' hb
      have HG : Hid (Nat.gcd u v * 2 ^ k = Nat.gcd U V) := by
        have h1 := HU.out
        have h2 := HV.out
        have := Nat.gcd_mul_right u (2 ^ k) v
        rw [h1, h2] at this
        exact this.symm
      clear HU HV
      go_wp2
      clear hbit
      go_loop [0] (fun s => ∃ x : Nat, s = .int .u64 x ∧ 1 ≤ x ∧ x < 18446744073709551616 ∧ (x % 2 = 1 ∨ v % 2 = 1) ∧ Hid (Nat.gcd x v * 2 ^ k = Nat.gcd U V)) (fun s => (intOf s).toNat)
      case atStart => exact ⟨u, rfl, hu, hu', by omega, HG⟩
      case round =>
        clear HG hb
        obtain ⟨x, rfl, hx, hx', ho, HG⟩ := hrel
        by_cases hb : x % 2 = 0
        · have hbit := bit0 x hx' hb
          go_wp2
          go_round
          case rel => exact ⟨x / 2, by go_num, by omega, by omega, by omega, by rw [even_odd x v hb (by omega)]; exact HG⟩
          case measure => simp [intOf]; omega
        · have hbit := bit1 x hx' (by omega)
          go_wp2
          clear hbit ho
          go_loop [0, 1] (fun s t => ∃ p q : Nat, s = .int .u64 p ∧ t = .int .u64 q ∧ p % 2 = 1 ∧ p < 18446744073709551616 ∧ q < 18446744073709551616 ∧ Hid (Nat.gcd p q * 2 ^ k = Nat.gcd U V)) (fun s t => (intOf s).toNat + (intOf t).toNat)
          case atStart => exact ⟨x, v, rfl, rfl, by omega, hx', hv', HG⟩
          case round =>
            clear HG hb hx hx' hu hu' hv hv'
            obtain ⟨p, q, rfl, rfl, hp, hp', hq', HG⟩ := hrel
            by_cases hq : q = 0
            · subst hq
              go_wp2
              go_ret
              refine ⟨ret_int ?_, rfl⟩
              exact fin p k U V HG.out hU0 hU
            · have tq : ((q : Int) == 0) = false := beq_eq_false_iff_ne.2 (by omega)
              go_wp2
              go_loop [1] (fun t => ∃ r : Nat, t = .int .u64 r ∧ 1 ≤ r ∧ r ≤ q ∧ Hid (Nat.gcd p r * 2 ^ k = Nat.gcd U V)) (fun t => (intOf t).toNat)
              case atStart => exact ⟨q, rfl, by omega, by omega, HG⟩
              case round =>
                clear HG
                obtain ⟨r, rfl, hr, hr', HG⟩ := hrel
                by_cases hb : r % 2 = 0
                · have hbit := bit0 r (by omega) hb
                  go_wp2
                  go_round
                  case rel => exact ⟨r / 2, by go_num, by omega, by omega, by rw [odd_even p r hp hb]; exact HG⟩
                  case measure => simp [intOf]; omega
                · have hbit := bit1 r (by omega) (by omega)
                  by_cases hlt : r < p
                  · go_wp2
                    go_round
                    case rel => exact ⟨r, p - r, by go_num, by go_num, by omega, by omega, by omega, by rw [sub_swap p r (by omega)]; exact HG⟩
                    case measure => simp [intOf]; omega
                  · go_wp2
                    go_round
                    case rel => exact ⟨p, r - p, by go_num, by go_num, by omega, by omega, by omega, by rw [sub_right p r (by omega)]; exact HG⟩
                    case measure => simp [intOf]; omega

/-- Whatever the two words. -/
theorem bin_any (u v : Int) (w : World) (u0 : 0 ≤ u) (u1 : u ≤ 18446744073709551615) (v0 : 0 ≤ v) (v1 : v ≤ 18446744073709551615) :
    Calls Try.prog 9 #[.int .u64 u, .int .u64 v] w fun e w' => e = .returned (.int .u64 (Nat.gcd u.natAbs v.natAbs : Nat)) ∧ w' = w := by
  obtain ⟨U, rfl⟩ := Int.eq_ofNat_of_zero_le u0
  obtain ⟨V, rfl⟩ := Int.eq_ofNat_of_zero_le v0
  rw [Int.natAbs_natCast, Int.natAbs_natCast]
  by_cases hu : U = 0
  · subst hu
    go_enter Try.func9, Try.ntmps9
    go_wp2
    go_ret
    exact ⟨ret_int (by simp), rfl⟩
  by_cases hv : V = 0
  · subst hv
    have tU : ((U : Int) == 0) = false := beq_eq_false_iff_ne.2 (by omega)
    go_enter Try.func9, Try.ntmps9
    go_wp2
    go_ret
    exact ⟨ret_int (by simp), rfl⟩
  exact bin_in U V w (by omega) (by omega) (by omega) (by omega)
end Go.Proofs.Qxb6619697a.Bin

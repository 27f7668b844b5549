/-
  The contracts of 'StatusOf' (8), 'tierOf' (6) and '(Vector).Status' (5).
-/
import Derived.Test.Qxb6623316aRows
import Derived.WalkKit
import Derived.ProofKit
namespace Go.Proofs.Qxb6623316a.Status
open Go.RowKit

/-! ### Plain -/
/-- The tier of a value. -/
def tier (x : Int) : Int := if 96 ≤ x then 3 else if 32 ≤ x then 2 else if 2 ≤ x then 1 else 0
theorem tier3 (x : Int) (h : 96 ≤ x) : 3 = tier x := by unfold tier; rw [if_pos h]
theorem tier2 (x : Int) (h : x < 96) (h' : 32 ≤ x) : 2 = tier x := by unfold tier; rw [if_neg (by omega), if_pos h']
theorem tier1 (x : Int) (h : x < 32) (h' : 2 ≤ x) : 1 = tier x := by unfold tier; rw [if_neg (by omega), if_neg (by omega), if_pos h']
theorem tier0 (x : Int) (h : x < 2) : 0 = tier x := by unfold tier; rw [if_neg (by omega), if_neg (by omega), if_neg (by omega)]
/-- The element at k. -/
def el (l : List Int) (k : Nat) : Int := l.getD k 0
/-- The larger of two. -/
def mx (a b : Int) : Int := if a < b then b else a
/-- The worst tier among the values. -/
def worst (l : List Int) : Int := l.foldl (fun a x => mx a (tier x)) 0
theorem worst_snoc (l : List Int) (x : Int) : worst (l ++ [x]) = mx (worst l) (tier x) := by
  unfold worst; rw [List.foldl_append]; rfl
theorem ret_int {k : IntKind} {a b : Int} (h : a = b) : Ending.returned (.int k a) = .returned (.int k b) := by rw [h]
theorem val_int {k : IntKind} {a b : Int} (h : a = b) : Value.int k a = .int k b := by rw [h]

/-! ### 'StatusOf', 'tierOf' -/
theorem statusOf_any (x : Int) (w : World) : Calls Try.prog 8 #[.int .i8 x] w fun e w' => e = .returned (.int .i64 (tier x)) ∧ w' = w := by
  by_cases c1 : 96 ≤ x
  · go_enter Try.func8, Try.ntmps8
    go_wp2
    go_ret
    exact ⟨ret_int (tier3 x c1), rfl⟩
  by_cases c2 : 32 ≤ x
  · go_enter Try.func8, Try.ntmps8
    go_wp2
    go_ret
    exact ⟨ret_int (tier2 x (by omega) c2), rfl⟩
  by_cases c3 : 2 ≤ x
  · go_enter Try.func8, Try.ntmps8
    go_wp2
    go_ret
    exact ⟨ret_int (tier1 x (by omega) c3), rfl⟩
  · go_enter Try.func8, Try.ntmps8
    go_wp2
    go_ret
    exact ⟨ret_int (tier0 x (by omega)), rfl⟩
theorem tierOf_any (x : Int) (w : World) : Calls Try.prog 6 #[.int .i8 x] w fun e w' => e = .returned (.int .i64 (tier x)) ∧ w' = w := by
  by_cases c1 : 96 ≤ x
  · go_enter Try.func6, Try.ntmps6
    go_wp2
    go_ret
    exact ⟨ret_int (tier3 x c1), rfl⟩
  by_cases c2 : 32 ≤ x
  · go_enter Try.func6, Try.ntmps6
    go_wp2
    go_ret
    exact ⟨ret_int (tier2 x (by omega) c2), rfl⟩
  by_cases c3 : 2 ≤ x
  · go_enter Try.func6, Try.ntmps6
    go_wp2
    go_ret
    exact ⟨ret_int (tier1 x (by omega) c3), rfl⟩
  · go_enter Try.func6, Try.ntmps6
    go_wp2
    go_ret
    exact ⟨ret_int (tier0 x (by omega)), rfl⟩

/-! ### '(Vector).Status' -/
theorem index_at (x0 x1 x2 x3 x4 x5 x6 x7 : Int) (k : Nat) (hk : k < 8) : ∀ (w : World),
    (Instr.index 25 (.agg #[.int .i8 x0, .int .i8 x1, .int .i8 x2, .int .i8 x3, .int .i8 x4, .int .i8 x5, .int .i8 x6, .int .i8 x7]) (.int .i64 k)).run Try.prog w = .ok (.int .i8 (el [x0, x1, x2, x3, x4, x5, x6, x7] k)) w := by
  have h8 : k = 0 ∨ k = 1 ∨ k = 2 ∨ k = 3 ∨ k = 4 ∨ k = 5 ∨ k = 6 ∨ k = 7 := by omega
  clear hk
  rcases h8 with rfl | rfl | rfl | rfl | rfl | rfl | rfl | rfl <;> exact fun _ => by kernel_rfl
theorem take_snoc (l : List Int) (k : Nat) (h : k < l.length) : l.take (k + 1) = l.take k ++ [el l k] := by
  rw [List.take_succ_eq_append_getElem h]; simp [el, h]

theorem status_any (x0 x1 x2 x3 x4 x5 x6 x7 : Int) (w : World) :
    Calls Try.prog 5 #[.agg #[.int .i8 x0, .int .i8 x1, .int .i8 x2, .int .i8 x3, .int .i8 x4, .int .i8 x5, .int .i8 x6, .int .i8 x7]] w fun e w' =>
      e = .returned (.int .i64 (worst [x0, x1, x2, x3, x4, x5, x6, x7])) ∧ w' = w.alloc (.cells #[.int .i8 x0, .int .i8 x1, .int .i8 x2, .int .i8 x3, .int .i8 x4, .int .i8 x5, .int .i8 x6, .int .i8 x7] 25) := by
  have hix := index_at x0 x1 x2 x3 x4 x5 x6 x7
  generalize hL : [x0, x1, x2, x3, x4, x5, x6, x7] = L at hix ⊢
  have hlen : L.length = 8 := by rw [← hL]; rfl
  clear hL
  go_enter Try.func5, Try.ntmps5
  go_wp2
  go_loop [3, 7] (fun t i => ∃ k : Nat, k ≤ 8 ∧ i = .int .i64 k ∧ t = .int .i64 (worst (L.take k))) (fun _ i => 8 - (intOf i).toNat)
  case atStart => exact ⟨0, Nat.zero_le _, rfl, rfl⟩
  case round =>
    obtain ⟨k, hk, rfl, rfl⟩ := hrel
    by_cases hlt : k < 8
    · have hx := hix k hlt
      clear hix
      have HS : Hid (worst (L.take (k + 1)) = mx (worst (L.take k)) (tier (el L k))) := by
        show _ = _
        rw [take_snoc L k (by omega), worst_snoc]
      go_wp2_with (go_at_call 8; refine (statusOf_any _ _).mono ?_; rintro e w' ⟨rfl, rfl⟩)
      all_goals
        go_round
        case rel => exact ⟨k + 1, by omega, by go_num, val_int HS.out.symm⟩
        case measure => simp [intOf]; omega
    · clear hix
      go_wp2
      go_ret
      exact ⟨ret_int (by rw [List.take_of_length_le (by omega)]), rfl⟩
end Go.Proofs.Qxb6623316a.Status

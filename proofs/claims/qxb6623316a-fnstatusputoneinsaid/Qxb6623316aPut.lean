/-
  The walks of 'FnStatusPutOneIn' (4): one for each index in range.
-/
import Derived.Test.Qxb6623316aStatus
import Derived.OpenShut
namespace Go.Proofs.Qxb6623316a.Put
open Go.RowKit Status

/-! ### Plain -/
theorem mx_swap (c t s : Int) : mx (mx c t) s = mx (mx c s) t := by
  unfold mx; (repeat' split) <;> omega
theorem fold_mx (b : List Int) (t : Int) : ∀ c : Int, b.foldl (fun a x => mx a (tier x)) (mx c t) = mx (b.foldl (fun a x => mx a (tier x)) c) t := by
  induction b with
  | nil => intro c; rfl
  | cons x b ih => intro c; rw [List.foldl_cons, List.foldl_cons, mx_swap, ih]
theorem tier_nonneg (x : Int) : 0 ≤ tier x := by
  unfold tier; split <;> (try split) <;> (try split) <;> omega
theorem mx_left (a b : Int) : a ≤ mx a b := by unfold mx; split <;> omega
theorem fold_le (b : List Int) : ∀ c : Int, c ≤ b.foldl (fun a x => mx a (tier x)) c := by
  induction b with
  | nil => intro c; exact Int.le_refl c
  | cons x b ih => intro c; rw [List.foldl_cons]; exact Int.le_trans (mx_left c (tier x)) (ih _)
theorem mx_zero (a : Int) (h : 0 ≤ a) : mx a 0 = a := by unfold mx; split <;> omega
theorem worst_put (a b : List Int) (x : Int) : worst (a ++ x :: b) = mx (worst (a ++ 0 :: b)) (tier x) := by
  unfold worst
  rw [List.foldl_append, List.foldl_append, List.foldl_cons, List.foldl_cons, fold_mx, ← tier0 0 (by decide), mx_zero _ (fold_le a 0)]

/-! ### The contracts under names -/
theorem status_eq (x0 x1 x2 x3 x4 x5 x6 x7 s : Int) (w : World) (h : worst [x0, x1, x2, x3, x4, x5, x6, x7] = s) :
    Calls Try.prog 5 #[.agg #[.int .i8 x0, .int .i8 x1, .int .i8 x2, .int .i8 x3, .int .i8 x4, .int .i8 x5, .int .i8 x6, .int .i8 x7]] w fun e w' =>
      e = .returned (.int .i64 s) ∧ ∃ c, w' = w.alloc (.cells c 25) := by
  subst h
  exact (status_any x0 x1 x2 x3 x4 x5 x6 x7 w).mono fun e w' ⟨he, hw⟩ => ⟨he, _, hw⟩
theorem tierOf_eq (x t : Int) (w : World) (h : tier x = t) : Calls Try.prog 6 #[.int .i8 x] w fun e w' => e = .returned (.int .i64 t) ∧ w' = w := by
  subst h
  exact tierOf_any x w

/-! ### The walks -/
theorem walk0 (x0 x1 x2 x3 x4 x5 x6 x7 x sz tx tv : Int) (w : World) (hx : Hid (tier x = tx)) (hv : Hid (tier x0 = tv)) (hz : Hid (worst [0, x1, x2, x3, x4, x5, x6, x7] = sz)) (hw : Hid (worst [x, x1, x2, x3, x4, x5, x6, x7] = mx sz tx)) (hs : Hid (worst [x0, x1, x2, x3, x4, x5, x6, x7] = mx sz tv)) :
    Calls Try.prog 4 #[.agg #[.int .i8 x0, .int .i8 x1, .int .i8 x2, .int .i8 x3, .int .i8 x4, .int .i8 x5, .int .i8 x6, .int .i8 x7], .int .i64 0, .int .i8 x] w fun e w' => e = .returned (.bool true) ∧ Grown w w' := by
  have m1 : (if sz < tx then tx else sz) = mx sz tx := rfl
  have m2 : (if sz < tv then tv else sz) = mx sz tv := rfl
  go_enter Try.func4, Try.ntmps4
  go_wp2_with fail
  refine (status_eq x x1 x2 x3 x4 x5 x6 x7 (mx sz tx) _ hw.out).mono ?_
  rintro e w1 ⟨rfl, c1, rfl⟩
  go_wp2_with fail
  refine (status_eq 0 x1 x2 x3 x4 x5 x6 x7 sz _ hz.out).mono ?_
  rintro e w1 ⟨rfl, c2, rfl⟩
  go_wp2_with fail
  refine (status_eq x0 x1 x2 x3 x4 x5 x6 x7 (mx sz tv) _ hs.out).mono ?_
  rintro e w1 ⟨rfl, c3, rfl⟩
  go_wp2_with fail
  refine (tierOf_eq x tx _ hx.out).mono ?_
  rintro e w1 ⟨rfl, rfl⟩
  go_wp2_with fail
  refine (tierOf_eq x0 tv _ hv.out).mono ?_
  rintro e w1 ⟨rfl, rfl⟩
  go_wp2
  go_ret
  exact ⟨rfl, by repeat (first | exact Grown.refl _ | apply Grown.drew | apply Grown.alloc)⟩
theorem walk1 (x0 x1 x2 x3 x4 x5 x6 x7 x sz tx tv : Int) (w : World) (hx : Hid (tier x = tx)) (hv : Hid (tier x1 = tv)) (hz : Hid (worst [x0, 0, x2, x3, x4, x5, x6, x7] = sz)) (hw : Hid (worst [x0, x, x2, x3, x4, x5, x6, x7] = mx sz tx)) (hs : Hid (worst [x0, x1, x2, x3, x4, x5, x6, x7] = mx sz tv)) :
    Calls Try.prog 4 #[.agg #[.int .i8 x0, .int .i8 x1, .int .i8 x2, .int .i8 x3, .int .i8 x4, .int .i8 x5, .int .i8 x6, .int .i8 x7], .int .i64 1, .int .i8 x] w fun e w' => e = .returned (.bool true) ∧ Grown w w' := by
  have m1 : (if sz < tx then tx else sz) = mx sz tx := rfl
  have m2 : (if sz < tv then tv else sz) = mx sz tv := rfl
  go_enter Try.func4, Try.ntmps4
  go_wp2_with fail
  refine (status_eq x0 x x2 x3 x4 x5 x6 x7 (mx sz tx) _ hw.out).mono ?_
  rintro e w1 ⟨rfl, c1, rfl⟩
  go_wp2_with fail
  refine (status_eq x0 0 x2 x3 x4 x5 x6 x7 sz _ hz.out).mono ?_
  rintro e w1 ⟨rfl, c2, rfl⟩
  go_wp2_with fail
  refine (status_eq x0 x1 x2 x3 x4 x5 x6 x7 (mx sz tv) _ hs.out).mono ?_
  rintro e w1 ⟨rfl, c3, rfl⟩
  go_wp2_with fail
  refine (tierOf_eq x tx _ hx.out).mono ?_
  rintro e w1 ⟨rfl, rfl⟩
  go_wp2_with fail
  refine (tierOf_eq x1 tv _ hv.out).mono ?_
  rintro e w1 ⟨rfl, rfl⟩
  go_wp2
  go_ret
  exact ⟨rfl, by repeat (first | exact Grown.refl _ | apply Grown.drew | apply Grown.alloc)⟩
theorem walk2 (x0 x1 x2 x3 x4 x5 x6 x7 x sz tx tv : Int) (w : World) (hx : Hid (tier x = tx)) (hv : Hid (tier x2 = tv)) (hz : Hid (worst [x0, x1, 0, x3, x4, x5, x6, x7] = sz)) (hw : Hid (worst [x0, x1, x, x3, x4, x5, x6, x7] = mx sz tx)) (hs : Hid (worst [x0, x1, x2, x3, x4, x5, x6, x7] = mx sz tv)) :
    Calls Try.prog 4 #[.agg #[.int .i8 x0, .int .i8 x1, .int .i8 x2, .int .i8 x3, .int .i8 x4, .int .i8 x5, .int .i8 x6, .int .i8 x7], .int .i64 2, .int .i8 x] w fun e w' => e = .returned (.bool true) ∧ Grown w w' := by
  have m1 : (if sz < tx then tx else sz) = mx sz tx := rfl
  have m2 : (if sz < tv then tv else sz) = mx sz tv := rfl
  go_enter Try.func4, Try.ntmps4
  go_wp2_with fail
  refine (status_eq x0 x1 x x3 x4 x5 x6 x7 (mx sz tx) _ hw.out).mono ?_
  rintro e w1 ⟨rfl, c1, rfl⟩
  go_wp2_with fail
  refine (status_eq x0 x1 0 x3 x4 x5 x6 x7 sz _ hz.out).mono ?_
  rintro e w1 ⟨rfl, c2, rfl⟩
  go_wp2_with fail
  refine (status_eq x0 x1 x2 x3 x4 x5 x6 x7 (mx sz tv) _ hs.out).mono ?_
  rintro e w1 ⟨rfl, c3, rfl⟩
  go_wp2_with fail
  refine (tierOf_eq x tx _ hx.out).mono ?_
  rintro e w1 ⟨rfl, rfl⟩
  go_wp2_with fail
  refine (tierOf_eq x2 tv _ hv.out).mono ?_
  rintro e w1 ⟨rfl, rfl⟩
  go_wp2
  go_ret
  exact ⟨rfl, by repeat (first | exact Grown.refl _ | apply Grown.drew | apply Grown.alloc)⟩
theorem walk3 (x0 x1 x2 x3 x4 x5 x6 x7 x sz tx tv : Int) (w : World) (hx : Hid (tier x = tx)) (hv : Hid (tier x3 = tv)) (hz : Hid (worst [x0, x1, x2, 0, x4, x5, x6, x7] = sz)) (hw : Hid (worst [x0, x1, x2, x, x4, x5, x6, x7] = mx sz tx)) (hs : Hid (worst [x0, x1, x2, x3, x4, x5, x6, x7] = mx sz tv)) :
    Calls Try.prog 4 #[.agg #[.int .i8 x0, .int .i8 x1, .int .i8 x2, .int .i8 x3, .int .i8 x4, .int .i8 x5, .int .i8 x6, .int .i8 x7], .int .i64 3, .int .i8 x] w fun e w' => e = .returned (.bool true) ∧ Grown w w' := by
  have m1 : (if sz < tx then tx else sz) = mx sz tx := rfl
  have m2 : (if sz < tv then tv else sz) = mx sz tv := rfl
  go_enter Try.func4, Try.ntmps4
  go_wp2_with fail
  refine (status_eq x0 x1 x2 x x4 x5 x6 x7 (mx sz tx) _ hw.out).mono ?_
  rintro e w1 ⟨rfl, c1, rfl⟩
  go_wp2_with fail
  refine (status_eq x0 x1 x2 0 x4 x5 x6 x7 sz _ hz.out).mono ?_
  rintro e w1 ⟨rfl, c2, rfl⟩
  go_wp2_with fail
  refine (status_eq x0 x1 x2 x3 x4 x5 x6 x7 (mx sz tv) _ hs.out).mono ?_
  rintro e w1 ⟨rfl, c3, rfl⟩
  go_wp2_with fail
  refine (tierOf_eq x tx _ hx.out).mono ?_
  rintro e w1 ⟨rfl, rfl⟩
  go_wp2_with fail
  refine (tierOf_eq x3 tv _ hv.out).mono ?_
  rintro e w1 ⟨rfl, rfl⟩
  go_wp2
  go_ret
  exact ⟨rfl, by repeat (first | exact Grown.refl _ | apply Grown.drew | apply Grown.alloc)⟩
theorem walk4 (x0 x1 x2 x3 x4 x5 x6 x7 x sz tx tv : Int) (w : World) (hx : Hid (tier x = tx)) (hv : Hid (tier x4 = tv)) (hz : Hid (worst [x0, x1, x2, x3, 0, x5, x6, x7] = sz)) (hw : Hid (worst [x0, x1, x2, x3, x, x5, x6, x7] = mx sz tx)) (hs : Hid (worst [x0, x1, x2, x3, x4, x5, x6, x7] = mx sz tv)) :
    Calls Try.prog 4 #[.agg #[.int .i8 x0, .int .i8 x1, .int .i8 x2, .int .i8 x3, .int .i8 x4, .int .i8 x5, .int .i8 x6, .int .i8 x7], .int .i64 4, .int .i8 x] w fun e w' => e = .returned (.bool true) ∧ Grown w w' := by
  have m1 : (if sz < tx then tx else sz) = mx sz tx := rfl
  have m2 : (if sz < tv then tv else sz) = mx sz tv := rfl
  go_enter Try.func4, Try.ntmps4
  go_wp2_with fail
  refine (status_eq x0 x1 x2 x3 x x5 x6 x7 (mx sz tx) _ hw.out).mono ?_
  rintro e w1 ⟨rfl, c1, rfl⟩
  go_wp2_with fail
  refine (status_eq x0 x1 x2 x3 0 x5 x6 x7 sz _ hz.out).mono ?_
  rintro e w1 ⟨rfl, c2, rfl⟩
  go_wp2_with fail
  refine (status_eq x0 x1 x2 x3 x4 x5 x6 x7 (mx sz tv) _ hs.out).mono ?_
  rintro e w1 ⟨rfl, c3, rfl⟩
  go_wp2_with fail
  refine (tierOf_eq x tx _ hx.out).mono ?_
  rintro e w1 ⟨rfl, rfl⟩
  go_wp2_with fail
  refine (tierOf_eq x4 tv _ hv.out).mono ?_
  rintro e w1 ⟨rfl, rfl⟩
  go_wp2
  go_ret
  exact ⟨rfl, by repeat (first | exact Grown.refl _ | apply Grown.drew | apply Grown.alloc)⟩
theorem walk5 (x0 x1 x2 x3 x4 x5 x6 x7 x sz tx tv : Int) (w : World) (hx : Hid (tier x = tx)) (hv : Hid (tier x5 = tv)) (hz : Hid (worst [x0, x1, x2, x3, x4, 0, x6, x7] = sz)) (hw : Hid (worst [x0, x1, x2, x3, x4, x, x6, x7] = mx sz tx)) (hs : Hid (worst [x0, x1, x2, x3, x4, x5, x6, x7] = mx sz tv)) :
    Calls Try.prog 4 #[.agg #[.int .i8 x0, .int .i8 x1, .int .i8 x2, .int .i8 x3, .int .i8 x4, .int .i8 x5, .int .i8 x6, .int .i8 x7], .int .i64 5, .int .i8 x] w fun e w' => e = .returned (.bool true) ∧ Grown w w' := by
  have m1 : (if sz < tx then tx else sz) = mx sz tx := rfl
  have m2 : (if sz < tv then tv else sz) = mx sz tv := rfl
  go_enter Try.func4, Try.ntmps4
  go_wp2_with fail
  refine (status_eq x0 x1 x2 x3 x4 x x6 x7 (mx sz tx) _ hw.out).mono ?_
  rintro e w1 ⟨rfl, c1, rfl⟩
  go_wp2_with fail
  refine (status_eq x0 x1 x2 x3 x4 0 x6 x7 sz _ hz.out).mono ?_
  rintro e w1 ⟨rfl, c2, rfl⟩
  go_wp2_with fail
  refine (status_eq x0 x1 x2 x3 x4 x5 x6 x7 (mx sz tv) _ hs.out).mono ?_
  rintro e w1 ⟨rfl, c3, rfl⟩
  go_wp2_with fail
  refine (tierOf_eq x tx _ hx.out).mono ?_
  rintro e w1 ⟨rfl, rfl⟩
  go_wp2_with fail
  refine (tierOf_eq x5 tv _ hv.out).mono ?_
  rintro e w1 ⟨rfl, rfl⟩
  go_wp2
  go_ret
  exact ⟨rfl, by repeat (first | exact Grown.refl _ | apply Grown.drew | apply Grown.alloc)⟩
theorem walk6 (x0 x1 x2 x3 x4 x5 x6 x7 x sz tx tv : Int) (w : World) (hx : Hid (tier x = tx)) (hv : Hid (tier x6 = tv)) (hz : Hid (worst [x0, x1, x2, x3, x4, x5, 0, x7] = sz)) (hw : Hid (worst [x0, x1, x2, x3, x4, x5, x, x7] = mx sz tx)) (hs : Hid (worst [x0, x1, x2, x3, x4, x5, x6, x7] = mx sz tv)) :
    Calls Try.prog 4 #[.agg #[.int .i8 x0, .int .i8 x1, .int .i8 x2, .int .i8 x3, .int .i8 x4, .int .i8 x5, .int .i8 x6, .int .i8 x7], .int .i64 6, .int .i8 x] w fun e w' => e = .returned (.bool true) ∧ Grown w w' := by
  have m1 : (if sz < tx then tx else sz) = mx sz tx := rfl
  have m2 : (if sz < tv then tv else sz) = mx sz tv := rfl
  go_enter Try.func4, Try.ntmps4
  go_wp2_with fail
  refine (status_eq x0 x1 x2 x3 x4 x5 x x7 (mx sz tx) _ hw.out).mono ?_
  rintro e w1 ⟨rfl, c1, rfl⟩
  go_wp2_with fail
  refine (status_eq x0 x1 x2 x3 x4 x5 0 x7 sz _ hz.out).mono ?_
  rintro e w1 ⟨rfl, c2, rfl⟩
  go_wp2_with fail
  refine (status_eq x0 x1 x2 x3 x4 x5 x6 x7 (mx sz tv) _ hs.out).mono ?_
  rintro e w1 ⟨rfl, c3, rfl⟩
  go_wp2_with fail
  refine (tierOf_eq x tx _ hx.out).mono ?_
  rintro e w1 ⟨rfl, rfl⟩
  go_wp2_with fail
  refine (tierOf_eq x6 tv _ hv.out).mono ?_
  rintro e w1 ⟨rfl, rfl⟩
  go_wp2
  go_ret
  exact ⟨rfl, by repeat (first | exact Grown.refl _ | apply Grown.drew | apply Grown.alloc)⟩
theorem walk7 (x0 x1 x2 x3 x4 x5 x6 x7 x sz tx tv : Int) (w : World) (hx : Hid (tier x = tx)) (hv : Hid (tier x7 = tv)) (hz : Hid (worst [x0, x1, x2, x3, x4, x5, x6, 0] = sz)) (hw : Hid (worst [x0, x1, x2, x3, x4, x5, x6, x] = mx sz tx)) (hs : Hid (worst [x0, x1, x2, x3, x4, x5, x6, x7] = mx sz tv)) :
    Calls Try.prog 4 #[.agg #[.int .i8 x0, .int .i8 x1, .int .i8 x2, .int .i8 x3, .int .i8 x4, .int .i8 x5, .int .i8 x6, .int .i8 x7], .int .i64 7, .int .i8 x] w fun e w' => e = .returned (.bool true) ∧ Grown w w' := by
  have m1 : (if sz < tx then tx else sz) = mx sz tx := rfl
  have m2 : (if sz < tv then tv else sz) = mx sz tv := rfl
  go_enter Try.func4, Try.ntmps4
  go_wp2_with fail
  refine (status_eq x0 x1 x2 x3 x4 x5 x6 x (mx sz tx) _ hw.out).mono ?_
  rintro e w1 ⟨rfl, c1, rfl⟩
  go_wp2_with fail
  refine (status_eq x0 x1 x2 x3 x4 x5 x6 0 sz _ hz.out).mono ?_
  rintro e w1 ⟨rfl, c2, rfl⟩
  go_wp2_with fail
  refine (status_eq x0 x1 x2 x3 x4 x5 x6 x7 (mx sz tv) _ hs.out).mono ?_
  rintro e w1 ⟨rfl, c3, rfl⟩
  go_wp2_with fail
  refine (tierOf_eq x tx _ hx.out).mono ?_
  rintro e w1 ⟨rfl, rfl⟩
  go_wp2_with fail
  refine (tierOf_eq x7 tv _ hv.out).mono ?_
  rintro e w1 ⟨rfl, rfl⟩
  go_wp2
  go_ret
  exact ⟨rfl, by repeat (first | exact Grown.refl _ | apply Grown.drew | apply Grown.alloc)⟩

/-- Whatever the arguments. -/
theorem walk_any (x0 x1 x2 x3 x4 x5 x6 x7 i x : Int) (w : World) :
    Calls Try.prog 4 #[.agg #[.int .i8 x0, .int .i8 x1, .int .i8 x2, .int .i8 x3, .int .i8 x4, .int .i8 x5, .int .i8 x6, .int .i8 x7], .int .i64 i, .int .i8 x] w fun e w' => e = .returned (.bool true) ∧ Grown w w' := by
  by_cases c1 : i < 0
  · go_enter Try.func4, Try.ntmps4
    go_wp2
    go_ret
    exact ⟨rfl, by repeat (first | exact Grown.refl _ | apply Grown.drew | apply Grown.alloc)⟩
  by_cases c2 : 8 ≤ i
  · go_enter Try.func4, Try.ntmps4
    go_wp2
    go_ret
    exact ⟨rfl, by repeat (first | exact Grown.refl _ | apply Grown.drew | apply Grown.alloc)⟩
  have h8 : i = 0 ∨ i = 1 ∨ i = 2 ∨ i = 3 ∨ i = 4 ∨ i = 5 ∨ i = 6 ∨ i = 7 := by omega
  clear c1 c2
  rcases h8 with rfl | rfl | rfl | rfl | rfl | rfl | rfl | rfl
  · exact walk0 x0 x1 x2 x3 x4 x5 x6 x7 x _ _ _ w rfl rfl rfl (worst_put [] [x1, x2, x3, x4, x5, x6, x7] x) (worst_put [] [x1, x2, x3, x4, x5, x6, x7] x0)
  · exact walk1 x0 x1 x2 x3 x4 x5 x6 x7 x _ _ _ w rfl rfl rfl (worst_put [x0] [x2, x3, x4, x5, x6, x7] x) (worst_put [x0] [x2, x3, x4, x5, x6, x7] x1)
  · exact walk2 x0 x1 x2 x3 x4 x5 x6 x7 x _ _ _ w rfl rfl rfl (worst_put [x0, x1] [x3, x4, x5, x6, x7] x) (worst_put [x0, x1] [x3, x4, x5, x6, x7] x2)
  · exact walk3 x0 x1 x2 x3 x4 x5 x6 x7 x _ _ _ w rfl rfl rfl (worst_put [x0, x1, x2] [x4, x5, x6, x7] x) (worst_put [x0, x1, x2] [x4, x5, x6, x7] x3)
  · exact walk4 x0 x1 x2 x3 x4 x5 x6 x7 x _ _ _ w rfl rfl rfl (worst_put [x0, x1, x2, x3] [x5, x6, x7] x) (worst_put [x0, x1, x2, x3] [x5, x6, x7] x4)
  · exact walk5 x0 x1 x2 x3 x4 x5 x6 x7 x _ _ _ w rfl rfl rfl (worst_put [x0, x1, x2, x3, x4] [x6, x7] x) (worst_put [x0, x1, x2, x3, x4] [x6, x7] x5)
  · exact walk6 x0 x1 x2 x3 x4 x5 x6 x7 x _ _ _ w rfl rfl rfl (worst_put [x0, x1, x2, x3, x4, x5] [x7] x) (worst_put [x0, x1, x2, x3, x4, x5] [x7] x6)
  · exact walk7 x0 x1 x2 x3 x4 x5 x6 x7 x _ _ _ w rfl rfl rfl (worst_put [x0, x1, x2, x3, x4, x5, x6] [] x) (worst_put [x0, x1, x2, x3, x4, x5, x6] [] x7)
end Go.Proofs.Qxb6623316a.Put

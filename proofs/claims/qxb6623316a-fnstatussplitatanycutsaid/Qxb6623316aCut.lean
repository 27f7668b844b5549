/-
  'largestOf' (7) and the walk of 'FnStatusSplitAtAnyCut' (3).
-/
import Derived.Test.Qxb6623316aStatus
import Derived.OpenShut
namespace Go.Proofs.Qxb6623316a.Cut
open Go.RowKit Status

/-! ### Plain -/
theorem mx_swap (c t s : Int) : mx (mx c t) s = mx (mx c s) t := by
  unfold mx; (repeat' split) <;> omega
theorem mx_assoc (c t s : Int) : mx (mx c t) s = mx c (mx t s) := by
  unfold mx; (repeat' split) <;> omega
theorem mx_zero (a : Int) (h : 0 ≤ a) : mx a 0 = a := by unfold mx; split <;> omega
theorem mx_left (a b : Int) : a ≤ mx a b := by unfold mx; split <;> omega
theorem tier_nonneg (x : Int) : 0 ≤ tier x := by
  unfold tier; split <;> (try split) <;> (try split) <;> omega
theorem tier_mono (a b : Int) (h : a ≤ b) : tier a ≤ tier b := by
  unfold tier; (repeat' split) <;> omega
theorem tier_mx (a b : Int) : tier (mx a b) = mx (tier a) (tier b) := by
  by_cases h : a < b
  · have := tier_mono a b (by omega)
    have e : mx a b = b := by unfold mx; rw [if_pos h]
    rw [e]; unfold mx; split <;> omega
  · have := tier_mono b a (by omega)
    have e : mx a b = a := by unfold mx; rw [if_neg h]
    rw [e]; unfold mx; split <;> omega
/-- Each value stands in one of the two, 0 in the other. -/
def Sp : List Int → List Int → List Int → Prop
  | [], [], [] => True
  | x :: xs, a :: ps, b :: qs => ((a = x ∧ b = 0) ∨ (a = 0 ∧ b = x)) ∧ Sp xs ps qs
  | _, _, _ => False
theorem fold_sp : ∀ (xs ps qs : List Int), Sp xs ps qs → ∀ c d : Int, 0 ≤ c → 0 ≤ d → xs.foldl (fun a x => mx a (tier x)) (mx c d) = mx (ps.foldl (fun a x => mx a (tier x)) c) (qs.foldl (fun a x => mx a (tier x)) d)
  | [], [], [], _, _, _, _, _ => rfl
  | x :: xs, a :: ps, b :: qs, h, c, d, hc, hd => by
    obtain ⟨h1, h2⟩ := h
    have t0 : tier 0 = 0 := rfl
    rcases h1 with ⟨rfl, rfl⟩ | ⟨rfl, rfl⟩
    · have := fold_sp xs ps qs h2 (mx c (tier a)) d (Int.le_trans hc (mx_left _ _)) hd
      rw [List.foldl_cons, List.foldl_cons, List.foldl_cons, t0, mx_zero d hd, mx_swap]
      exact this
    · have := fold_sp xs ps qs h2 c (mx d (tier b)) hc (Int.le_trans hd (mx_left _ _))
      rw [List.foldl_cons, List.foldl_cons, List.foldl_cons, t0, mx_zero c hc, mx_assoc]
      exact this
  | [], [], _ :: _, h, _, _, _, _ => h.elim
  | [], _ :: _, _, h, _, _, _, _ => h.elim
  | _ :: _, [], _, h, _, _, _, _ => h.elim
  | _ :: _, _ :: _, [], h, _, _, _, _ => h.elim
theorem worst_sp (xs ps qs : List Int) (h : Sp xs ps qs) : worst xs = mx (worst ps) (worst qs) :=
  fold_sp xs ps qs h 0 0 (by decide) (by decide)
/-- The largest of a value and some more. -/
def lg (x : Int) (l : List Int) : Int := l.foldl mx x
theorem lg_snoc (x : Int) (l : List Int) (y : Int) : lg x (l ++ [y]) = mx (lg x l) y := by
  unfold lg; rw [List.foldl_append]; rfl
theorem fold_tier : ∀ (l : List Int) (m : Int), l.foldl (fun a x => mx a (tier x)) (tier m) = tier (l.foldl mx m)
  | [], _ => rfl
  | x :: l, m => by rw [List.foldl_cons, List.foldl_cons, ← tier_mx, fold_tier l]
theorem worst_lg (x : Int) (l : List Int) : tier (lg x l) = worst (x :: l) := by
  unfold lg worst
  have e : mx 0 (tier x) = tier x := by have := tier_nonneg x; unfold mx; split <;> omega
  rw [List.foldl_cons, e, fold_tier]
/-- What the first n rounds have laid. -/
def Laid (k : Int) (n : Nat) (xs ps qs : List Int) : Prop :=
  ps.length = 8 ∧ qs.length = 8 ∧ ∀ j, j < 8 → (j < n → (j : Int) < k → el ps j = el xs j ∧ el qs j = 0) ∧ (j < n → ¬ (j : Int) < k → el ps j = 0 ∧ el qs j = el xs j) ∧ (n ≤ j → el ps j = 0 ∧ el qs j = 0)
theorem el_set (l : List Int) (n j : Nat) (x : Int) (h : n < l.length) : el (l.set n x) j = if n = j then x else el l j := by
  unfold el
  rw [List.getD_eq_getElem?_getD, List.getD_eq_getElem?_getD, List.getElem?_set]
  by_cases e : n = j
  · subst e; simp [h]
  · simp [e]
theorem laid_a {k : Int} {n : Nat} {xs ps qs : List Int} (h : Laid k n xs ps qs) (hn : n < 8) (hk : (n : Int) < k) : Laid k (n + 1) xs (ps.set n (el xs n)) qs := by
  obtain ⟨la, lb, hj⟩ := h
  refine ⟨by rw [List.length_set]; exact la, lb, fun j h8 => ?_⟩
  obtain ⟨h1, h2, h3⟩ := hj j h8
  rw [el_set _ _ _ _ (by omega)]
  by_cases e : n = j
  · subst e
    rw [if_pos rfl]
    exact ⟨fun _ _ => ⟨rfl, (h3 (Nat.le_refl _)).2⟩, fun _ c => absurd hk c, fun c => absurd c (by omega)⟩
  · rw [if_neg e]
    exact ⟨fun c c' => h1 (by omega) c', fun c c' => h2 (by omega) c', fun c => h3 (by omega)⟩
theorem laid_b {k : Int} {n : Nat} {xs ps qs : List Int} (h : Laid k n xs ps qs) (hn : n < 8) (hk : ¬ (n : Int) < k) : Laid k (n + 1) xs ps (qs.set n (el xs n)) := by
  obtain ⟨la, lb, hj⟩ := h
  refine ⟨la, by rw [List.length_set]; exact lb, fun j h8 => ?_⟩
  obtain ⟨h1, h2, h3⟩ := hj j h8
  rw [el_set _ _ _ _ (by omega)]
  by_cases e : n = j
  · subst e
    rw [if_pos rfl]
    exact ⟨fun _ c => absurd c hk, fun _ _ => ⟨(h3 (Nat.le_refl _)).1, rfl⟩, fun c => absurd c (by omega)⟩
  · rw [if_neg e]
    exact ⟨fun c c' => h1 (by omega) c', fun c c' => h2 (by omega) c', fun c => h3 (by omega)⟩
theorem laid_0 (k : Int) (xs : List Int) : Laid k 0 xs [0, 0, 0, 0, 0, 0, 0, 0] [0, 0, 0, 0, 0, 0, 0, 0] := by
  refine ⟨rfl, rfl, fun j h8 => ⟨fun c => absurd c (by omega), fun c => absurd c (by omega), fun _ => ?_⟩⟩
  have h : ∀ j, j < 8 → el [0, 0, 0, 0, 0, 0, 0, 0] j = 0 := by decide
  exact ⟨h j h8, h j h8⟩
theorem laid_at {k : Int} {xs ps qs : List Int} (h : Laid k 8 xs ps qs) (j : Nat) (h8 : j < 8) : (el ps j = el xs j ∧ el qs j = 0) ∨ (el ps j = 0 ∧ el qs j = el xs j) := by
  obtain ⟨h1, h2, _⟩ := h.2.2 j h8
  by_cases c : (j : Int) < k
  · exact Or.inl (h1 h8 c)
  · exact Or.inr (h2 h8 c)
theorem laid_8 {k : Int} {x0 x1 x2 x3 x4 x5 x6 x7 a0 a1 a2 a3 a4 a5 a6 a7 b0 b1 b2 b3 b4 b5 b6 b7 : Int} (h : Laid k 8 [x0, x1, x2, x3, x4, x5, x6, x7] [a0, a1, a2, a3, a4, a5, a6, a7] [b0, b1, b2, b3, b4, b5, b6, b7]) : Sp [x0, x1, x2, x3, x4, x5, x6, x7] [a0, a1, a2, a3, a4, a5, a6, a7] [b0, b1, b2, b3, b4, b5, b6, b7] :=
  ⟨laid_at h 0 (by decide), laid_at h 1 (by decide), laid_at h 2 (by decide), laid_at h 3 (by decide), laid_at h 4 (by decide), laid_at h 5 (by decide), laid_at h 6 (by decide), laid_at h 7 (by decide), trivial⟩

/-! ### 'largestOf' -/
theorem val_int {k : IntKind} {a b : Int} (h : a = b) : Value.int k a = .int k b := by rw [h]
theorem largest_any (x0 x1 x2 x3 x4 x5 x6 x7 : Int) (w : World) :
    Calls Try.prog 7 #[.agg #[.int .i8 x0, .int .i8 x1, .int .i8 x2, .int .i8 x3, .int .i8 x4, .int .i8 x5, .int .i8 x6, .int .i8 x7]] w fun e w' => e = .returned (.int .i8 (lg x0 [x1, x2, x3, x4, x5, x6, x7])) ∧ w' = w.alloc (.cells #[.int .i8 x0, .int .i8 x1, .int .i8 x2, .int .i8 x3, .int .i8 x4, .int .i8 x5, .int .i8 x6, .int .i8 x7] 23) := by
  go_enter Try.func7, Try.ntmps7
  go_wp2
  go_loop [3, 4] (fun m i => ∃ (n : Nat) (t : Int), 1 ≤ n ∧ n ≤ 8 ∧ i = .int .i64 n ∧ m = .int .i8 t ∧ Hid (t = lg x0 ([x1, x2, x3, x4, x5, x6, x7].take (n - 1)))) (fun _ i => 8 - (intOf i).toNat)
  case atStart => exact ⟨1, x0, by omega, by omega, rfl, rfl, rfl⟩
  case round =>
    obtain ⟨n, t, hn1, hn8, rfl, rfl, HT⟩ := hrel
    have h8 : n = 1 ∨ n = 2 ∨ n = 3 ∨ n = 4 ∨ n = 5 ∨ n = 6 ∨ n = 7 ∨ n = 8 := by omega
    clear hn1 hn8
    rcases h8 with rfl | rfl | rfl | rfl | rfl | rfl | rfl | rfl
    · have HN : Hid (mx t x1 = lg x0 ([x1, x2, x3, x4, x5, x6, x7].take 1)) := by
        show _ = _
        rw [HT.out]; exact (lg_snoc x0 [] x1).symm
      by_cases c : t < x1
      · have e : mx t x1 = x1 := by unfold mx; rw [if_pos c]
        have HE : Hid (x1 = lg x0 ([x1, x2, x3, x4, x5, x6, x7].take 1)) := e.symm.trans HN.out
        clear e
        go_wp2
        go_round
        case rel => exact ⟨2, x1, by omega, by omega, rfl, rfl, HE⟩
        case measure => simp [intOf]
      · have e : mx t x1 = t := by unfold mx; rw [if_neg c]
        have HE : Hid (t = lg x0 ([x1, x2, x3, x4, x5, x6, x7].take 1)) := e.symm.trans HN.out
        clear e
        go_wp2
        go_round
        case rel => exact ⟨2, t, by omega, by omega, rfl, rfl, HE⟩
        case measure => simp [intOf]
    · have HN : Hid (mx t x2 = lg x0 ([x1, x2, x3, x4, x5, x6, x7].take 2)) := by
        show _ = _
        rw [HT.out]; exact (lg_snoc x0 [x1] x2).symm
      by_cases c : t < x2
      · have e : mx t x2 = x2 := by unfold mx; rw [if_pos c]
        have HE : Hid (x2 = lg x0 ([x1, x2, x3, x4, x5, x6, x7].take 2)) := e.symm.trans HN.out
        clear e
        go_wp2
        go_round
        case rel => exact ⟨3, x2, by omega, by omega, rfl, rfl, HE⟩
        case measure => simp [intOf]
      · have e : mx t x2 = t := by unfold mx; rw [if_neg c]
        have HE : Hid (t = lg x0 ([x1, x2, x3, x4, x5, x6, x7].take 2)) := e.symm.trans HN.out
        clear e
        go_wp2
        go_round
        case rel => exact ⟨3, t, by omega, by omega, rfl, rfl, HE⟩
        case measure => simp [intOf]
    · have HN : Hid (mx t x3 = lg x0 ([x1, x2, x3, x4, x5, x6, x7].take 3)) := by
        show _ = _
        rw [HT.out]; exact (lg_snoc x0 [x1, x2] x3).symm
      by_cases c : t < x3
      · have e : mx t x3 = x3 := by unfold mx; rw [if_pos c]
        have HE : Hid (x3 = lg x0 ([x1, x2, x3, x4, x5, x6, x7].take 3)) := e.symm.trans HN.out
        clear e
        go_wp2
        go_round
        case rel => exact ⟨4, x3, by omega, by omega, rfl, rfl, HE⟩
        case measure => simp [intOf]
      · have e : mx t x3 = t := by unfold mx; rw [if_neg c]
        have HE : Hid (t = lg x0 ([x1, x2, x3, x4, x5, x6, x7].take 3)) := e.symm.trans HN.out
        clear e
        go_wp2
        go_round
        case rel => exact ⟨4, t, by omega, by omega, rfl, rfl, HE⟩
        case measure => simp [intOf]
    · have HN : Hid (mx t x4 = lg x0 ([x1, x2, x3, x4, x5, x6, x7].take 4)) := by
        show _ = _
        rw [HT.out]; exact (lg_snoc x0 [x1, x2, x3] x4).symm
      by_cases c : t < x4
      · have e : mx t x4 = x4 := by unfold mx; rw [if_pos c]
        have HE : Hid (x4 = lg x0 ([x1, x2, x3, x4, x5, x6, x7].take 4)) := e.symm.trans HN.out
        clear e
        go_wp2
        go_round
        case rel => exact ⟨5, x4, by omega, by omega, rfl, rfl, HE⟩
        case measure => simp [intOf]
      · have e : mx t x4 = t := by unfold mx; rw [if_neg c]
        have HE : Hid (t = lg x0 ([x1, x2, x3, x4, x5, x6, x7].take 4)) := e.symm.trans HN.out
        clear e
        go_wp2
        go_round
        case rel => exact ⟨5, t, by omega, by omega, rfl, rfl, HE⟩
        case measure => simp [intOf]
    · have HN : Hid (mx t x5 = lg x0 ([x1, x2, x3, x4, x5, x6, x7].take 5)) := by
        show _ = _
        rw [HT.out]; exact (lg_snoc x0 [x1, x2, x3, x4] x5).symm
      by_cases c : t < x5
      · have e : mx t x5 = x5 := by unfold mx; rw [if_pos c]
        have HE : Hid (x5 = lg x0 ([x1, x2, x3, x4, x5, x6, x7].take 5)) := e.symm.trans HN.out
        clear e
        go_wp2
        go_round
        case rel => exact ⟨6, x5, by omega, by omega, rfl, rfl, HE⟩
        case measure => simp [intOf]
      · have e : mx t x5 = t := by unfold mx; rw [if_neg c]
        have HE : Hid (t = lg x0 ([x1, x2, x3, x4, x5, x6, x7].take 5)) := e.symm.trans HN.out
        clear e
        go_wp2
        go_round
        case rel => exact ⟨6, t, by omega, by omega, rfl, rfl, HE⟩
        case measure => simp [intOf]
    · have HN : Hid (mx t x6 = lg x0 ([x1, x2, x3, x4, x5, x6, x7].take 6)) := by
        show _ = _
        rw [HT.out]; exact (lg_snoc x0 [x1, x2, x3, x4, x5] x6).symm
      by_cases c : t < x6
      · have e : mx t x6 = x6 := by unfold mx; rw [if_pos c]
        have HE : Hid (x6 = lg x0 ([x1, x2, x3, x4, x5, x6, x7].take 6)) := e.symm.trans HN.out
        clear e
        go_wp2
        go_round
        case rel => exact ⟨7, x6, by omega, by omega, rfl, rfl, HE⟩
        case measure => simp [intOf]
      · have e : mx t x6 = t := by unfold mx; rw [if_neg c]
        have HE : Hid (t = lg x0 ([x1, x2, x3, x4, x5, x6, x7].take 6)) := e.symm.trans HN.out
        clear e
        go_wp2
        go_round
        case rel => exact ⟨7, t, by omega, by omega, rfl, rfl, HE⟩
        case measure => simp [intOf]
    · have HN : Hid (mx t x7 = lg x0 ([x1, x2, x3, x4, x5, x6, x7].take 7)) := by
        show _ = _
        rw [HT.out]; exact (lg_snoc x0 [x1, x2, x3, x4, x5, x6] x7).symm
      by_cases c : t < x7
      · have e : mx t x7 = x7 := by unfold mx; rw [if_pos c]
        have HE : Hid (x7 = lg x0 ([x1, x2, x3, x4, x5, x6, x7].take 7)) := e.symm.trans HN.out
        clear e
        go_wp2
        go_round
        case rel => exact ⟨8, x7, by omega, by omega, rfl, rfl, HE⟩
        case measure => simp [intOf]
      · have e : mx t x7 = t := by unfold mx; rw [if_neg c]
        have HE : Hid (t = lg x0 ([x1, x2, x3, x4, x5, x6, x7].take 7)) := e.symm.trans HN.out
        clear e
        go_wp2
        go_round
        case rel => exact ⟨8, t, by omega, by omega, rfl, rfl, HE⟩
        case measure => simp [intOf]
    · go_wp2
      go_ret
      exact ⟨ret_int HT.out, rfl⟩

/-! ### The contracts under names -/
theorem status_eq (x0 x1 x2 x3 x4 x5 x6 x7 s : Int) (w : World) (h : worst [x0, x1, x2, x3, x4, x5, x6, x7] = s) :
    Calls Try.prog 5 #[.agg #[.int .i8 x0, .int .i8 x1, .int .i8 x2, .int .i8 x3, .int .i8 x4, .int .i8 x5, .int .i8 x6, .int .i8 x7]] w fun e w' => e = .returned (.int .i64 s) ∧ ∃ c, w' = w.alloc (.cells c 25) := by
  subst h
  exact (status_any x0 x1 x2 x3 x4 x5 x6 x7 w).mono fun e w' ⟨he, hw⟩ => ⟨he, _, hw⟩
theorem largest_eq (x0 x1 x2 x3 x4 x5 x6 x7 m : Int) (w : World) (h : lg x0 [x1, x2, x3, x4, x5, x6, x7] = m) :
    Calls Try.prog 7 #[.agg #[.int .i8 x0, .int .i8 x1, .int .i8 x2, .int .i8 x3, .int .i8 x4, .int .i8 x5, .int .i8 x6, .int .i8 x7]] w fun e w' => e = .returned (.int .i8 m) ∧ ∃ c, w' = w.alloc (.cells c 23) := by
  subst h
  exact (largest_any x0 x1 x2 x3 x4 x5 x6 x7 w).mono fun e w' ⟨he, hw⟩ => ⟨he, _, hw⟩
theorem tierOf_eq (x t : Int) (w : World) (h : tier x = t) : Calls Try.prog 6 #[.int .i8 x] w fun e w' => e = .returned (.int .i64 t) ∧ w' = w := by
  subst h
  exact tierOf_any x w

/-! ### The walk -/
set_option maxHeartbeats 2000000 in
theorem walk_any (x0 x1 x2 x3 x4 x5 x6 x7 k : Int) (w : World) :
    Calls Try.prog 3 #[.agg #[.int .i8 x0, .int .i8 x1, .int .i8 x2, .int .i8 x3, .int .i8 x4, .int .i8 x5, .int .i8 x6, .int .i8 x7], .int .i64 k] w fun e w' => e = .returned (.bool true) ∧ Grown w w' := by
  go_enter Try.func3, Try.ntmps3
  go_wp2
  go_loopw [7] (fun i wr => ∃ (n : Nat) (a0 a1 a2 a3 a4 a5 a6 a7 b0 b1 b2 b3 b4 b5 b6 b7 : Int), n ≤ 8 ∧ i = .int .i64 n ∧ wr = ((w.alloc (.cells #[.int .i8 x0, .int .i8 x1, .int .i8 x2, .int .i8 x3, .int .i8 x4, .int .i8 x5, .int .i8 x6, .int .i8 x7] 23)).alloc (.cells #[.int .i8 a0, .int .i8 a1, .int .i8 a2, .int .i8 a3, .int .i8 a4, .int .i8 a5, .int .i8 a6, .int .i8 a7] 23)).alloc (.cells #[.int .i8 b0, .int .i8 b1, .int .i8 b2, .int .i8 b3, .int .i8 b4, .int .i8 b5, .int .i8 b6, .int .i8 b7] 23) ∧ Hid (Laid k n [x0, x1, x2, x3, x4, x5, x6, x7] [a0, a1, a2, a3, a4, a5, a6, a7] [b0, b1, b2, b3, b4, b5, b6, b7])) (fun i _ => 8 - (intOf i).toNat)
  case atStart => exact ⟨0, 0, 0, 0, 0, 0, 0, 0, 0, 0, 0, 0, 0, 0, 0, 0, 0, by omega, rfl, rfl, laid_0 k _⟩
  case round =>
    obtain ⟨n, a0, a1, a2, a3, a4, a5, a6, a7, b0, b1, b2, b3, b4, b5, b6, b7, hn, rfl, rfl, HL⟩ := hrel
    have h8 : n = 0 ∨ n = 1 ∨ n = 2 ∨ n = 3 ∨ n = 4 ∨ n = 5 ∨ n = 6 ∨ n = 7 ∨ n = 8 := by omega
    clear hn
    rcases h8 with rfl | rfl | rfl | rfl | rfl | rfl | rfl | rfl | rfl
    · by_cases c : (0 : Int) < k
      · have HN : Hid (Laid k 1 [x0, x1, x2, x3, x4, x5, x6, x7] [x0, a1, a2, a3, a4, a5, a6, a7] [b0, b1, b2, b3, b4, b5, b6, b7]) := laid_a HL.out (by decide) c
        clear HL
        go_wp2
        go_roundw
        case rel => exact ⟨1, x0, a1, a2, a3, a4, a5, a6, a7, b0, b1, b2, b3, b4, b5, b6, b7, by omega, rfl, rfl, HN⟩
        case measure => simp [intOf]
      · have HN : Hid (Laid k 1 [x0, x1, x2, x3, x4, x5, x6, x7] [a0, a1, a2, a3, a4, a5, a6, a7] [x0, b1, b2, b3, b4, b5, b6, b7]) := laid_b HL.out (by decide) c
        clear HL
        go_wp2
        go_roundw
        case rel => exact ⟨1, a0, a1, a2, a3, a4, a5, a6, a7, x0, b1, b2, b3, b4, b5, b6, b7, by omega, rfl, rfl, HN⟩
        case measure => simp [intOf]
    · by_cases c : (1 : Int) < k
      · have HN : Hid (Laid k 2 [x0, x1, x2, x3, x4, x5, x6, x7] [a0, x1, a2, a3, a4, a5, a6, a7] [b0, b1, b2, b3, b4, b5, b6, b7]) := laid_a HL.out (by decide) c
        clear HL
        go_wp2
        go_roundw
        case rel => exact ⟨2, a0, x1, a2, a3, a4, a5, a6, a7, b0, b1, b2, b3, b4, b5, b6, b7, by omega, rfl, rfl, HN⟩
        case measure => simp [intOf]
      · have HN : Hid (Laid k 2 [x0, x1, x2, x3, x4, x5, x6, x7] [a0, a1, a2, a3, a4, a5, a6, a7] [b0, x1, b2, b3, b4, b5, b6, b7]) := laid_b HL.out (by decide) c
        clear HL
        go_wp2
        go_roundw
        case rel => exact ⟨2, a0, a1, a2, a3, a4, a5, a6, a7, b0, x1, b2, b3, b4, b5, b6, b7, by omega, rfl, rfl, HN⟩
        case measure => simp [intOf]
    · by_cases c : (2 : Int) < k
      · have HN : Hid (Laid k 3 [x0, x1, x2, x3, x4, x5, x6, x7] [a0, a1, x2, a3, a4, a5, a6, a7] [b0, b1, b2, b3, b4, b5, b6, b7]) := laid_a HL.out (by decide) c
        clear HL
        go_wp2
        go_roundw
        case rel => exact ⟨3, a0, a1, x2, a3, a4, a5, a6, a7, b0, b1, b2, b3, b4, b5, b6, b7, by omega, rfl, rfl, HN⟩
        case measure => simp [intOf]
      · have HN : Hid (Laid k 3 [x0, x1, x2, x3, x4, x5, x6, x7] [a0, a1, a2, a3, a4, a5, a6, a7] [b0, b1, x2, b3, b4, b5, b6, b7]) := laid_b HL.out (by decide) c
        clear HL
        go_wp2
        go_roundw
        case rel => exact ⟨3, a0, a1, a2, a3, a4, a5, a6, a7, b0, b1, x2, b3, b4, b5, b6, b7, by omega, rfl, rfl, HN⟩
        case measure => simp [intOf]
    · by_cases c : (3 : Int) < k
      · have HN : Hid (Laid k 4 [x0, x1, x2, x3, x4, x5, x6, x7] [a0, a1, a2, x3, a4, a5, a6, a7] [b0, b1, b2, b3, b4, b5, b6, b7]) := laid_a HL.out (by decide) c
        clear HL
        go_wp2
        go_roundw
        case rel => exact ⟨4, a0, a1, a2, x3, a4, a5, a6, a7, b0, b1, b2, b3, b4, b5, b6, b7, by omega, rfl, rfl, HN⟩
        case measure => simp [intOf]
      · have HN : Hid (Laid k 4 [x0, x1, x2, x3, x4, x5, x6, x7] [a0, a1, a2, a3, a4, a5, a6, a7] [b0, b1, b2, x3, b4, b5, b6, b7]) := laid_b HL.out (by decide) c
        clear HL
        go_wp2
        go_roundw
        case rel => exact ⟨4, a0, a1, a2, a3, a4, a5, a6, a7, b0, b1, b2, x3, b4, b5, b6, b7, by omega, rfl, rfl, HN⟩
        case measure => simp [intOf]
    · by_cases c : (4 : Int) < k
      · have HN : Hid (Laid k 5 [x0, x1, x2, x3, x4, x5, x6, x7] [a0, a1, a2, a3, x4, a5, a6, a7] [b0, b1, b2, b3, b4, b5, b6, b7]) := laid_a HL.out (by decide) c
        clear HL
        go_wp2
        go_roundw
        case rel => exact ⟨5, a0, a1, a2, a3, x4, a5, a6, a7, b0, b1, b2, b3, b4, b5, b6, b7, by omega, rfl, rfl, HN⟩
        case measure => simp [intOf]
      · have HN : Hid (Laid k 5 [x0, x1, x2, x3, x4, x5, x6, x7] [a0, a1, a2, a3, a4, a5, a6, a7] [b0, b1, b2, b3, x4, b5, b6, b7]) := laid_b HL.out (by decide) c
        clear HL
        go_wp2
        go_roundw
        case rel => exact ⟨5, a0, a1, a2, a3, a4, a5, a6, a7, b0, b1, b2, b3, x4, b5, b6, b7, by omega, rfl, rfl, HN⟩
        case measure => simp [intOf]
    · by_cases c : (5 : Int) < k
      · have HN : Hid (Laid k 6 [x0, x1, x2, x3, x4, x5, x6, x7] [a0, a1, a2, a3, a4, x5, a6, a7] [b0, b1, b2, b3, b4, b5, b6, b7]) := laid_a HL.out (by decide) c
        clear HL
        go_wp2
        go_roundw
        case rel => exact ⟨6, a0, a1, a2, a3, a4, x5, a6, a7, b0, b1, b2, b3, b4, b5, b6, b7, by omega, rfl, rfl, HN⟩
        case measure => simp [intOf]
      · have HN : Hid (Laid k 6 [x0, x1, x2, x3, x4, x5, x6, x7] [a0, a1, a2, a3, a4, a5, a6, a7] [b0, b1, b2, b3, b4, x5, b6, b7]) := laid_b HL.out (by decide) c
        clear HL
        go_wp2
        go_roundw
        case rel => exact ⟨6, a0, a1, a2, a3, a4, a5, a6, a7, b0, b1, b2, b3, b4, x5, b6, b7, by omega, rfl, rfl, HN⟩
        case measure => simp [intOf]
    · by_cases c : (6 : Int) < k
      · have HN : Hid (Laid k 7 [x0, x1, x2, x3, x4, x5, x6, x7] [a0, a1, a2, a3, a4, a5, x6, a7] [b0, b1, b2, b3, b4, b5, b6, b7]) := laid_a HL.out (by decide) c
        clear HL
        go_wp2
        go_roundw
        case rel => exact ⟨7, a0, a1, a2, a3, a4, a5, x6, a7, b0, b1, b2, b3, b4, b5, b6, b7, by omega, rfl, rfl, HN⟩
        case measure => simp [intOf]
      · have HN : Hid (Laid k 7 [x0, x1, x2, x3, x4, x5, x6, x7] [a0, a1, a2, a3, a4, a5, a6, a7] [b0, b1, b2, b3, b4, b5, x6, b7]) := laid_b HL.out (by decide) c
        clear HL
        go_wp2
        go_roundw
        case rel => exact ⟨7, a0, a1, a2, a3, a4, a5, a6, a7, b0, b1, b2, b3, b4, b5, x6, b7, by omega, rfl, rfl, HN⟩
        case measure => simp [intOf]
    · by_cases c : (7 : Int) < k
      · have HN : Hid (Laid k 8 [x0, x1, x2, x3, x4, x5, x6, x7] [a0, a1, a2, a3, a4, a5, a6, x7] [b0, b1, b2, b3, b4, b5, b6, b7]) := laid_a HL.out (by decide) c
        clear HL
        go_wp2
        go_roundw
        case rel => exact ⟨8, a0, a1, a2, a3, a4, a5, a6, x7, b0, b1, b2, b3, b4, b5, b6, b7, by omega, rfl, rfl, HN⟩
        case measure => simp [intOf]
      · have HN : Hid (Laid k 8 [x0, x1, x2, x3, x4, x5, x6, x7] [a0, a1, a2, a3, a4, a5, a6, a7] [b0, b1, b2, b3, b4, b5, b6, x7]) := laid_b HL.out (by decide) c
        clear HL
        go_wp2
        go_roundw
        case rel => exact ⟨8, a0, a1, a2, a3, a4, a5, a6, a7, b0, b1, b2, b3, b4, b5, b6, x7, by omega, rfl, rfl, HN⟩
        case measure => simp [intOf]
    · obtain ⟨sa, ha⟩ : ∃ s, worst [a0, a1, a2, a3, a4, a5, a6, a7] = s := ⟨_, rfl⟩
      obtain ⟨sb, hb⟩ : ∃ s, worst [b0, b1, b2, b3, b4, b5, b6, b7] = s := ⟨_, rfl⟩
      have hs := worst_sp _ _ _ (laid_8 HL.out)
      rw [ha, hb] at hs
      obtain ⟨m, hm⟩ : ∃ m, lg x0 [x1, x2, x3, x4, x5, x6, x7] = m := ⟨_, rfl⟩
      have ht := worst_lg x0 [x1, x2, x3, x4, x5, x6, x7]
      rw [hm, hs] at ht
      have HA : Hid (worst [a0, a1, a2, a3, a4, a5, a6, a7] = sa) := ha
      have HB : Hid (worst [b0, b1, b2, b3, b4, b5, b6, b7] = sb) := hb
      have HS : Hid (worst [x0, x1, x2, x3, x4, x5, x6, x7] = mx sa sb) := hs
      have HM : Hid (lg x0 [x1, x2, x3, x4, x5, x6, x7] = m) := hm
      have HT : Hid (tier m = mx sa sb) := ht
      clear ha hb hs hm ht HL
      have m1 : (if sa < sb then sb else sa) = mx sa sb := rfl
      go_wp2_with fail
      refine (status_eq x0 x1 x2 x3 x4 x5 x6 x7 (mx sa sb) _ HS.out).mono ?_
      rintro e w1 ⟨rfl, c1, rfl⟩
      go_wp2_with fail
      refine (status_eq a0 a1 a2 a3 a4 a5 a6 a7 sa _ HA.out).mono ?_
      rintro e w1 ⟨rfl, c2, rfl⟩
      go_wp2_with fail
      refine (status_eq b0 b1 b2 b3 b4 b5 b6 b7 sb _ HB.out).mono ?_
      rintro e w1 ⟨rfl, c3, rfl⟩
      go_wp2_with fail
      refine (largest_eq x0 x1 x2 x3 x4 x5 x6 x7 m _ HM.out).mono ?_
      rintro e w1 ⟨rfl, c4, rfl⟩
      go_wp2_with fail
      refine (tierOf_eq m (mx sa sb) _ HT.out).mono ?_
      rintro e w1 ⟨rfl, rfl⟩
      go_wp2
      go_ret
      exact ⟨rfl, by repeat (first | exact Grown.refl _ | apply Grown.drew | apply Grown.alloc)⟩
end Go.Proofs.Qxb6623316a.Cut

/-
  The contracts of 'hasParameter' (7) and 'ZZhasParameter' (6), over a slice of parameters that the law's own text has made.
-/
import Derived.Test.Qxb6623380aRows
import Derived.WalkKit
import Derived.ProofKit
import Derived.OpenShut
namespace Go.Proofs.Qxb6623380a.Has
open Go.RowKit

/-! ### Plain -/
/-- The element at k. -/
def el (l : List Int) (k : Nat) : Int := l.getD k 0
/-- Is c among them? -/
def hasB (l : List Int) (c : Int) : Bool := l.any (· == c)
theorem take_snoc (l : List Int) (k : Nat) (h : k < l.length) : l.take (k + 1) = l.take k ++ [el l k] := by
  rw [List.take_succ_eq_append_getElem h]; simp [el, h]
theorem has_snoc (l : List Int) (x c : Int) : hasB (l ++ [x]) c = (hasB l c || x == c) := by
  unfold hasB; rw [List.any_append]; simp
theorem has_at (l : List Int) (k : Nat) (c : Int) (h : k < l.length) (e : el l k = c) : hasB l c = true := by
  unfold hasB
  rw [List.any_eq_true]
  refine ⟨el l k, ?_, by simp [e]⟩
  unfold el
  rw [List.getD_eq_getElem?_getD, List.getElem?_eq_getElem h]
  exact List.getElem_mem h
theorem has_step (l : List Int) (k : Nat) (c : Int) (h : k < l.length) (e : ¬ el l k = c) (h0 : hasB (l.take k) c = false) : hasB (l.take (k + 1)) c = false := by
  rw [take_snoc l k h, has_snoc, h0]
  simpa using e
theorem has_end (l : List Int) (k : Nat) (c : Int) (h : l.length ≤ k) (h0 : hasB (l.take k) c = false) : false = hasB l c := by
  rw [List.take_of_length_le h] at h0
  exact h0.symm
theorem ret_bool {a b : Bool} (h : a = b) : Ending.returned (.bool a) = .returned (.bool b) := by rw [h]

/-- A row of n parameters at the head of block g: their codes are zs. -/
def Row (w : World) (g n : Nat) (zs : List Int) : Prop := ∀ t, t < n → w.cell? ⟨g, t * 2, none⟩ = some (.int .u8 (el zs t)) ∧ ∃ q, w.cell? ⟨g, t * 2 + 1, none⟩ = some (.slice (some ⟨q, 0, none⟩) 2 2)
theorem Row.later {w w' : World} {B g n : Nat} {zs : List Int} (h : Row w g n zs) (hB : Below B w w') (hg : g < B) : Row w' g n zs := fun t ht =>
  ⟨(hB.cell hg).trans (h t ht).1, (h t ht).2.elim fun q hq => ⟨q, (hB.cell hg).trans hq⟩⟩

/-! ### The walks -/
theorem has_any (g n c : Nat) (zs : List Int) (code : Int) (w : World) (hn : n ≤ 1048576) (hz : zs.length = n) (hg : g < w.heap.size) (hR : Row w g n zs) :
    Calls Try.prog 7 #[.slice (some ⟨g, 0, none⟩) n c, .int .u8 code] w fun e w' => e = .returned (.bool (hasB zs code)) ∧ Below w.heap.size w w' := by
  have HZ : Hid (zs.length = n) := hz
  clear hz
  go_enter Try.func7, Try.ntmps7
  go_wp2
  go_loopw [9] (fun i wr => ∃ k : Nat, k ≤ n ∧ i = .int .i64 k ∧ Below w.heap.size w wr ∧ Hid (hasB (zs.take k) code = false)) (fun i _ => n - (intOf i).toNat)
  case atStart => exact ⟨0, Nat.zero_le _, rfl, Below.refl _ _, rfl⟩
  case round =>
    obtain ⟨k, hk, rfl, hB, HH⟩ := hrel
    by_cases hlt : k < n
    · obtain ⟨h1, q, h2⟩ := hR k hlt
      have e1 : wr.cell? ⟨g, k * 2, none⟩ = some (.int .u8 (el zs k)) := (hB.cell hg).trans h1
      have e2 : wr.cell? ⟨g, k * 2 + 1, none⟩ = some (.slice (some ⟨q, 0, none⟩) 2 2) := (hB.cell hg).trans h2
      clear h1 h2
      by_cases hc : el zs k = code
      · have tc : (el zs k == code) = true := beq_iff_eq.2 hc
        have HC : Hid (el zs k = code) := hc
        clear hc
        go_wp2
        go_ret
        exact ⟨ret_bool (has_at zs k code (by rw [HZ.out]; exact hlt) HC.out).symm, hB.alloc hB.size _⟩
      · have tc : (el zs k == code) = false := beq_eq_false_iff_ne.2 hc
        have HC : Hid (¬ el zs k = code) := hc
        clear hc
        go_wp2
        go_roundw
        case rel => exact ⟨k + 1, by omega, by go_num, hB.alloc hB.size _, has_step zs k code (by rw [HZ.out]; exact hlt) HC.out HH.out⟩
        case measure => simp [intOf]; omega
    · go_wp2
      go_ret
      exact ⟨ret_bool (has_end zs k code (by rw [HZ.out]; omega) HH.out), hB⟩
theorem has_nil (code : Int) (w : World) :
    Calls Try.prog 7 #[.slice none 0 0, .int .u8 code] w fun e w' => e = .returned (.bool false) ∧ w' = w := by
  go_enter Try.func7, Try.ntmps7
  go_wp2
  go_loop [9] (fun i => i = .int .i64 0) (fun _ => 0)
  case atStart => rfl
  case round =>
    subst hrel
    go_wp2
    go_ret
    exact ⟨rfl, rfl⟩

theorem zhas_any (g n c : Nat) (zs : List Int) (code : Int) (b : Bool) (w : World) (hn : n ≤ 1048576) (hz : zs.length = n) (hg : g < w.heap.size) (hR : Row w g n zs) (hb : hasB zs code = b) :
    Calls Try.prog 6 #[.slice (some ⟨g, 0, none⟩) n c, .int .u8 code] w fun e w' => e = .returned (.bool b) ∧ Below w.heap.size w w' := by
  subst hb
  have h7 := has_any g n c zs code w hn hz hg hR
  have H7 : Hid (Calls Try.prog 7 #[.slice (some ⟨g, 0, none⟩) n c, .int .u8 code] w fun e w' => e = .returned (.bool (hasB zs code)) ∧ Below w.heap.size w w') := h7
  clear h7 hz hR
  go_enter Try.func6, Try.ntmps6
  go_wp2_with fail
  refine H7.out.mono ?_
  rintro e w1 ⟨rfl, hB⟩
  go_wp2
  go_ret
  exact ⟨rfl, hB⟩
theorem zhas_nil (code : Int) (w : World) :
    Calls Try.prog 6 #[.slice none 0 0, .int .u8 code] w fun e w' => e = .returned (.bool false) ∧ w' = w := by
  go_enter Try.func6, Try.ntmps6
  go_wp2_with fail
  refine (has_nil code _).mono ?_
  rintro e w1 ⟨rfl, rfl⟩
  go_wp2
  go_ret
  exact ⟨rfl, rfl⟩
end Go.Proofs.Qxb6623380a.Has

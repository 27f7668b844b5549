/-
  An argument of type [8]int8 (type 23): opened and shut.
-/
import Derived.Test.Qxb6623316aRows
import Derived.WalkKit
import Derived.ProofKit
import Derived.OpenShut
namespace Go.Proofs.Qxb6623316a.Arr
open Go.ChangeShapes Go.WideShapes Go.ChangeAt Go.RowKit

theorem cells22 : Try.prog.cellsOf 22 = 1 := by kernel_rfl
theorem cells23 : Try.prog.cellsOf 23 = 8 := by kernel_rfl

theorem list8 {α : Type} (l : List α) (h : l.length = 8) : ∃ a0 a1 a2 a3 a4 a5 a6 a7, l = [a0, a1, a2, a3, a4, a5, a6, a7] := by
  match l, h with
  | [a0, a1, a2, a3, a4, a5, a6, a7], _ => exact ⟨a0, a1, a2, a3, a4, a5, a6, a7, rfl⟩

section
variable {H : Type} {enc : TypeId × Value → H} {w : World} {base : Nat} {spare : Nat → Bool} {held : Bool}

theorem one {m : Nat} {c : Value} {y : DataW H × List MemPlace} (h : DataW.trod enc Try.prog w base spare held m 22 [c] = some y) : ∃ x : Int, c = .int .i8 x ∧ y = (.lit (.int .i8 x), []) ∧ (Lit.int .i8 x).wf = true := by
  obtain ⟨x, e, rfl, wx⟩ := DataW.trod_int Try.underlying22 h
  simp at e
  exact ⟨x, e, rfl, wx⟩

theorem open8 {r : Reach} {b0 : Nat} {v : Value} {d : DataW H} {p : List MemPlace} (hv : Value.okWide Try.prog w r b0 23 v) (h : DataW.Trod enc Try.prog w base spare held 23 v d p) :
    ∃ x0 x1 x2 x3 x4 x5 x6 x7 : Int, v = .agg #[.int .i8 x0, .int .i8 x1, .int .i8 x2, .int .i8 x3, .int .i8 x4, .int .i8 x5, .int .i8 x6, .int .i8 x7] ∧
      d = .agg [.lit (.int .i8 x0), .lit (.int .i8 x1), .lit (.int .i8 x2), .lit (.int .i8 x3), .lit (.int .i8 x4), .lit (.int .i8 x5), .lit (.int .i8 x6), .lit (.int .i8 x7)] ∧ p = [] ∧
      (Lit.int .i8 x0).wf = true ∧ (Lit.int .i8 x1).wf = true ∧ (Lit.int .i8 x2).wf = true ∧ (Lit.int .i8 x3).wf = true ∧ (Lit.int .i8 x4).wf = true ∧ (Lit.int .i8 x5).wf = true ∧ (Lit.int .i8 x6).wf = true ∧ (Lit.int .i8 x7).wf = true := by
  obtain ⟨cs, rfl, hsz, _⟩ : ∃ cs, v = .agg cs ∧ cs.size = Try.prog.cellsOf 23 ∧ Row.okWide Try.prog w r b0 23 cs := by
    simpa [Value.okWide, Try.underlying23] using hv
  rw [cells23] at hsz
  obtain ⟨l⟩ := cs
  obtain ⟨c0, c1, c2, c3, c4, c5, c6, c7, rfl⟩ := list8 l hsz
  obtain ⟨fuel, hf⟩ := h
  obtain ⟨xs, m, _, hx, _, hl, hg⟩ := DataW.trod_array Try.underlying23 hf
  obtain ⟨y0, y1, y2, y3, y4, y5, y6, y7, rfl⟩ := list8 xs hl
  rw [cells22] at hg
  have g0 := hg 0 (by decide)
  have g1 := hg 1 (by decide)
  have g2 := hg 2 (by decide)
  have g3 := hg 3 (by decide)
  have g4 := hg 4 (by decide)
  have g5 := hg 5 (by decide)
  have g6 := hg 6 (by decide)
  have g7 := hg 7 (by decide)
  obtain ⟨x0, rfl, rfl, w0⟩ := one g0
  obtain ⟨x1, rfl, rfl, w1⟩ := one g1
  obtain ⟨x2, rfl, rfl, w2⟩ := one g2
  obtain ⟨x3, rfl, rfl, w3⟩ := one g3
  obtain ⟨x4, rfl, rfl, w4⟩ := one g4
  obtain ⟨x5, rfl, rfl, w5⟩ := one g5
  obtain ⟨x6, rfl, rfl, w6⟩ := one g6
  obtain ⟨x7, rfl, rfl, w7⟩ := one g7
  simp only [Prod.mk.injEq] at hx
  exact ⟨x0, x1, x2, x3, x4, x5, x6, x7, rfl, hx.1, hx.2, w0, w1, w2, w3, w4, w5, w6, w7⟩

theorem shut8 (x0 x1 x2 x3 x4 x5 x6 x7 : Int) (w0 : (Lit.int .i8 x0).wf = true) (w1 : (Lit.int .i8 x1).wf = true) (w2 : (Lit.int .i8 x2).wf = true) (w3 : (Lit.int .i8 x3).wf = true) (w4 : (Lit.int .i8 x4).wf = true) (w5 : (Lit.int .i8 x5).wf = true) (w6 : (Lit.int .i8 x6).wf = true) (w7 : (Lit.int .i8 x7).wf = true) :
    DataW.Trod enc Try.prog w base spare held 23 (.agg #[.int .i8 x0, .int .i8 x1, .int .i8 x2, .int .i8 x3, .int .i8 x4, .int .i8 x5, .int .i8 x6, .int .i8 x7])
      (.agg [.lit (.int .i8 x0), .lit (.int .i8 x1), .lit (.int .i8 x2), .lit (.int .i8 x3), .lit (.int .i8 x4), .lit (.int .i8 x5), .lit (.int .i8 x6), .lit (.int .i8 x7)]) [] :=
  ⟨2, by simp [DataW.trod, Value.cells, Try.underlying23, Try.underlying22, cells23, cells22, w0, w1, w2, w3, w4, w5, w6, w7, show List.range 8 = [0, 1, 2, 3, 4, 5, 6, 7] from rfl]⟩
end
end Go.Proofs.Qxb6623316a.Arr

/-
  The contracts of 'zzIsupB1Build' (5).
-/
import Derived.Test.Qxb6623380aHas
import Derived.WalkSpells
namespace Go.Proofs.Qxb6623380a.Bld
open Go.RowKit Has

theorem info28 : (Try.prog.info? 28).map (fun i => (i.zero, i.size, i.bytes)) = some (some (.agg #[.int .u8 0, .slice none 0 0]), 2, 32) := by kernel_rfl

/-- n parameters at the head of block g, the first k of them laid. -/
def Part (w : World) (g n k : Nat) (zs : List Int) : Prop := ∃ cur : Array Value, w.heap[g]? = some (.cells cur 28 (0, 0)) ∧ cur.size = n * 2 ∧
  ∀ t, t < n → ∃ c a l cp, cur[t * 2]? = some (.int .u8 c) ∧ cur[t * 2 + 1]? = some (.slice a l cp) ∧ (t < k → c = el zs t ∧ ∃ q, a = some ⟨q, 0, none⟩ ∧ l = 2 ∧ cp = 2)

theorem Part.lt {w : World} {g n k : Nat} {zs : List Int} (h : Part w g n k zs) : g < w.heap.size := by
  obtain ⟨cur, hh, _⟩ := h
  rcases Nat.lt_or_ge g w.heap.size with h | h
  · exact h
  · rw [Array.getElem?_eq_none h] at hh; cases hh
/-- The two cells of parameter t, and that they may be written. -/
theorem Part.at {w : World} {g n k : Nat} {zs : List Int} (h : Part w g n k zs) (t : Nat) (ht : t < n) :
    ∃ c a l cp, w.cell? ⟨g, t * 2, none⟩ = some (.int .u8 c) ∧ w.cell? ⟨g, t * 2 + 1, none⟩ = some (.slice a l cp) ∧ w.frozen? ⟨g, t * 2, none⟩ = false ∧ w.frozen? ⟨g, t * 2 + 1, none⟩ = false := by
  obtain ⟨cur, hh, _, hp⟩ := h
  obtain ⟨c, a, l, cp, q1, q2, _⟩ := hp t ht
  exact ⟨c, a, l, cp, by simp [World.cell?, hh, q1], by simp [World.cell?, hh, q2], by simp [World.frozen?, hh], by simp [World.frozen?, hh]⟩
theorem Part.row {w : World} {g n : Nat} {zs : List Int} (h : Part w g n n zs) : Row w g n zs := by
  obtain ⟨cur, hh, _, hp⟩ := h
  intro t ht
  obtain ⟨c, a, l, cp, q1, q2, hq⟩ := hp t ht
  obtain ⟨rfl, q, rfl, rfl, rfl⟩ := hq ht
  exact ⟨by simp [World.cell?, hh, q1], q, by simp [World.cell?, hh, q2]⟩
theorem block_set {w : World} {g i : Nat} {cs : Array Value} {t : TypeId} (h : w.heap[g]? = some (.cells cs t (0, 0))) (v : Value) : (w.setCell ⟨g, i, none⟩ v).heap[g]? = some (.cells (cs.setIfInBounds i v) t (0, 0)) := by
  rw [setCell_eq_setRow w g i cs t (0, 0) v h]
  exact setRow_heap w g _ _ t _ h
theorem Part.step {w : World} {g n k : Nat} {zs : List Int} (h : Part w g n k zs) (hk : k < n) (q : Nat) (o : Obj) :
    Part (((w.setCell ⟨g, k * 2, none⟩ (.int .u8 (el zs k))).setCell ⟨g, k * 2 + 1, none⟩ (.slice (some ⟨q, 0, none⟩) 2 2)).alloc o).drew g n (k + 1) zs := by
  have hlt := h.lt
  obtain ⟨cur, hh, hs, hp⟩ := h
  refine ⟨(cur.setIfInBounds (k * 2) (.int .u8 (el zs k))).setIfInBounds (k * 2 + 1) (.slice (some ⟨q, 0, none⟩) 2 2), ?_, by simpa using hs, ?_⟩
  · show (((w.setCell _ _).setCell _ _).alloc o).heap[g]? = _
    rw [Below.heap_alloc _ _ _ (by simpa [World.setCell] using hlt)]
    exact block_set (block_set hh _) _
  · intro t ht
    by_cases e : t = k
    · subst e
      refine ⟨el zs t, some ⟨q, 0, none⟩, 2, 2, ?_, ?_, fun _ => ⟨rfl, q, rfl, rfl, rfl⟩⟩
      · rw [Array.getElem?_setIfInBounds, if_neg (by omega), Array.getElem?_setIfInBounds, if_pos rfl, if_pos (by omega)]
      · rw [Array.getElem?_setIfInBounds, if_pos rfl, if_pos (by rw [Array.size_setIfInBounds]; omega)]
    · obtain ⟨c, a, l, cp, q1, q2, hq⟩ := hp t ht
      refine ⟨c, a, l, cp, ?_, ?_, fun h => hq (by omega)⟩
      · rw [Array.getElem?_setIfInBounds, if_neg (by omega), Array.getElem?_setIfInBounds, if_neg (by omega)]; exact q1
      · rw [Array.getElem?_setIfInBounds, if_neg (by omega), Array.getElem?_setIfInBounds, if_neg (by omega)]; exact q2
theorem Part.made (w : World) (n : Nat) (zs : List Int) : Part (w.alloc (.cells (madeCells #[.int .u8 0, .slice none 0 0] (n * 2)) 28)) w.heap.size n 0 zs := by
  refine ⟨_, (MapKept.heap_alloc w _).1, size_madeCells _ _, ?_⟩
  intro t ht
  refine ⟨0, none, 0, 0, ?_, ?_, fun h => absurd h (by omega)⟩
  · unfold madeCells
    simp [show t * 2 < n * 2 by omega]
  · unfold madeCells
    simp [show t * 2 + 1 < n * 2 by omega]

theorem make_run (n : Nat) (w : World) (hn : n ≤ 1048576) : (Instr.makeSlice 24 (.int .i64 (n : Int)) (.int .i64 (n : Int))).run Try.prog w = .ok (.slice (some ⟨w.heap.size, 0, none⟩) n n) (w.alloc (.cells (madeCells #[.int .u8 0, .slice none 0 0] (n * 2)) 28)) := by
  obtain ⟨i, hi, hz0, hz1, hz2⟩ := info_parts info28
  have hr := run_make (P := Try.prog) w 24 28 i _ Try.underlying24 hi hz0 .i64 .i64 n n (by omega) (Int.le_refl _) (by rw [hz2]; omega) (by omega)
  rw [hz1] at hr
  simpa [Value.cells] using hr

theorem build_any (b off n c : Nat) (zs : List Int) (w : World) (hn : n ≤ 1048576) (hb : b < w.heap.size) (hc : ∀ t, t < n → w.cell? ⟨b, off + t, none⟩ = some (.int .u8 (el zs t))) :
    Calls Try.prog 5 #[.slice (some ⟨b, off, none⟩) n c] w fun e w' => e = .returned (.slice (some ⟨w.heap.size, 0, none⟩) n n) ∧ Row w' w.heap.size n zs ∧ Below w.heap.size w w' ∧ w.heap.size < w'.heap.size := by
  have hnil := fun w => Lib.run_eql_slice_nil (P := Try.prog) w 22 5 (some ⟨b, off, none⟩) n c 0 0 Try.underlying22
  have hmk := make_run n w hn
  have hP0 := Part.made w n zs
  generalize madeCells #[Value.int IntKind.u8 0, Value.slice Option.none 0 0] (n * 2) = M at hmk hP0
  go_enter Try.func5, Try.ntmps5
  go_wp2
  go_loopw [4] (fun i wr => ∃ k : Nat, k ≤ n ∧ i = .int .i64 k ∧ Part wr w.heap.size n k zs ∧ Below w.heap.size w wr) (fun i _ => n - (intOf i).toNat)
  case atStart => exact ⟨0, Nat.zero_le _, rfl, hP0, (Below.refl _ _).alloc (Nat.le_refl _) _⟩
  case round =>
    obtain ⟨k, hk, rfl, hP, hB⟩ := hrel
    have hG := hP.lt
    clear hnil hmk hP0
    by_cases hlt : k < n
    · obtain ⟨c0, a0, l0, cp0, e1, e2, f1, f2⟩ := hP.at k hlt
      have ec : wr.cell? ⟨b, off + k, none⟩ = some (.int .u8 (el zs k)) := (hB.cell hb).trans (hc k hlt)
      have hbr : b < wr.heap.size := by omega
      clear hc
      go_wp2
      go_region
      go_wp2
      go_roundw
      case rel => exact ⟨k + 1, by omega, by go_num, hP.step hlt _ _, (((hB.setCell (Nat.le_refl _) _).setCell (Nat.le_refl _) _).alloc (by have := hB.size; simpa [World.setCell] using this) _).drew⟩
      case measure => simp [intOf]; omega
    · obtain rfl : k = n := by omega
      go_wp2
      go_ret
      exact ⟨rfl, hP.row, hB, hG⟩

/-- An empty slice that is not nil, whatever its address. -/
theorem build_zero (x : Addr) (c : Nat) (w : World) :
    Calls Try.prog 5 #[.slice (some x) 0 c] w fun e w' => e = .returned (.slice (some ⟨w.heap.size, 0, none⟩) 0 0) ∧ Below w.heap.size w w' ∧ w.heap.size < w'.heap.size := by
  have hnil := fun w => Lib.run_eql_slice_nil (P := Try.prog) w 22 5 (some x) 0 c 0 0 Try.underlying22
  have hmk : (Instr.makeSlice 24 (.int .i64 0) (.int .i64 0)).run Try.prog w = .ok (.slice (some ⟨w.heap.size, 0, none⟩) 0 0) (w.alloc (.cells (madeCells #[.int .u8 0, .slice none 0 0] (0 * 2)) 28)) := make_run 0 w (by omega)
  generalize madeCells #[Value.int IntKind.u8 0, Value.slice Option.none 0 0] (0 * 2) = M at hmk
  go_enter Try.func5, Try.ntmps5
  go_wp2
  go_loop [4] (fun i => i = .int .i64 0) (fun _ => 0)
  case atStart => rfl
  case round =>
    subst hrel
    go_wp2
    go_ret
    exact ⟨rfl, (Below.refl _ _).alloc (Nat.le_refl _) _, by simp⟩
theorem build_nil (w : World) : Calls Try.prog 5 #[.slice none 0 0] w fun e w' => e = .returned (.slice none 0 0) ∧ w' = w := by
  have hnil := fun w => Lib.run_eql_slice_nil (P := Try.prog) w 22 5 none 0 0 0 0 Try.underlying22
  go_enter Try.func5, Try.ntmps5
  go_wp2
  go_ret
  exact ⟨rfl, rfl⟩
end Go.Proofs.Qxb6623380a.Bld

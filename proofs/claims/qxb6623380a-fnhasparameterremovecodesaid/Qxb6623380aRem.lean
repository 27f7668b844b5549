/-
  The walk of 'FnHasParameterRemoveCode' (3).
-/
import Derived.Test.Qxb6623380aHas
import Derived.Test.Qxb6623380aBld
import Derived.WalkSpells
namespace Go.Proofs.Qxb6623380a.Rem
open Go.RowKit Has Bld

/-! ### THE PLAIN LAW: no Go in sight -/
/-- What is left where every c is taken out. -/
def keep (l : List Int) (c : Int) : List Int := l.filter (fun x => x != c)
theorem keep_hit (l : List Int) (x c : Int) (h : x = c) : keep (l ++ [x]) c = keep l c := by
  unfold keep; rw [List.filter_append]; simp [h]
theorem keep_miss (l : List Int) (x c : Int) (h : ¬ x = c) : keep (l ++ [x]) c = keep l c ++ [x] := by
  unfold keep; rw [List.filter_append]; simp [h]
theorem keep_le (l : List Int) (c : Int) : (keep l c).length ≤ l.length := List.length_filter_le _ _
theorem has_same (l : List Int) (c : Int) : hasB (keep l c) c = false := by
  unfold hasB keep
  rw [List.any_eq_false]
  intro x hx
  have := (List.mem_filter.1 hx).2
  simpa using this
theorem has_other (l : List Int) (c o : Int) (h : ¬ o = c) : hasB (keep l c) o = hasB l o := by
  unfold hasB keep
  rw [List.any_filter]
  congr 1
  funext x
  by_cases e : x = o
  · subst e; simp [h]
  · simp [e]
theorem keep_lt (l : List Int) (c : Int) (h : hasB l c = true) : (keep l c).length < l.length := by
  unfold hasB at h
  rw [List.any_eq_true] at h
  obtain ⟨x, hx, he⟩ := h
  have hx' : x = c := by simpa using he
  rcases Nat.lt_or_ge (keep l c).length l.length with h | h
  · exact h
  · exfalso
    have e : (keep l c).length = l.length := Nat.le_antisymm (keep_le l c) h
    have := List.length_filter_eq_length_iff.1 e x hx
    rw [hx'] at this
    simp at this
theorem keep_all (l : List Int) (c : Int) (h : hasB l c = false) : (keep l c).length = l.length := by
  unfold hasB at h
  rw [List.any_eq_false] at h
  refine List.length_filter_eq_length_iff.2 fun x hx => ?_
  have := h x hx
  simpa using this


/-! ### 'zzBytes_..' (4) -/
theorem bytes_yes (a : Option Addr) (n c : Nat) (x y : Int) (w : World) (hn : n ≤ 1048576) :
    Calls Try.prog 4 #[.slice a n c, .int .u8 x, .int .u8 y] w fun e w' => e = .returned (.bool true) ∧ w' = w := by
  go_enter Try.func4, Try.ntmps4
  go_wp2
  go_ret
  exact ⟨rfl, rfl⟩
theorem bytes_no (a : Option Addr) (n c : Nat) (x y : Int) (w : World) (hn : 1048576 < n) :
    Calls Try.prog 4 #[.slice a n c, .int .u8 x, .int .u8 y] w fun e w' => e = .returned (.bool false) ∧ w' = w := by
  go_enter Try.func4, Try.ntmps4
  go_wp2
  go_ret
  exact ⟨rfl, rfl⟩

/-! ### 'make([]byte, 0, n)' -/
theorem info5 : (Try.prog.info? 5).map (fun i => (i.zero, i.size, i.bytes)) = some (some (.int .u8 0), 1, 1) := by kernel_rfl

/-! ### The walks -/
theorem walk_long (a : Option Addr) (n c : Nat) (x y : Int) (w : World) (hn : 1048576 < n) :
    Calls Try.prog 3 #[.slice a n c, .int .u8 x, .int .u8 y] w fun e w' => e = .returned (.bool true) ∧ Below w.heap.size w w' := by
  go_enter Try.func3, Try.ntmps3
  go_wp2_with fail
  refine (bytes_no a n c x y _ hn).mono ?_
  rintro e w1 ⟨rfl, rfl⟩
  go_wp2
  go_ret
  exact ⟨rfl, Below.refl _ _⟩
theorem walk_same (a : Option Addr) (n c : Nat) (x : Int) (w : World) (hn : n ≤ 1048576) :
    Calls Try.prog 3 #[.slice a n c, .int .u8 x, .int .u8 x] w fun e w' => e = .returned (.bool true) ∧ Below w.heap.size w w' := by
  go_enter Try.func3, Try.ntmps3
  go_wp2_with fail
  refine (bytes_yes a n c x x _ hn).mono ?_
  rintro e w1 ⟨rfl, rfl⟩
  go_wp2
  go_ret
  exact ⟨rfl, Below.refl _ _⟩

set_option maxHeartbeats 1000000 in
theorem walk_row (b off n c : Nat) (zs : List Int) (code other : Int) (w : World) (hn : n ≤ 1048576) (hz : zs.length = n) (hb : b < w.heap.size) (hc : ∀ t, t < n → w.cell? ⟨b, off + t, none⟩ = some (.int .u8 (el zs t))) (ho : ¬ other = code) :
    Calls Try.prog 3 #[.slice (some ⟨b, off, none⟩) n c, .int .u8 code, .int .u8 other] w fun e w' => e = .returned (.bool true) ∧ Below w.heap.size w w' := by
  have to : (other == code) = false := beq_eq_false_iff_ne.2 ho
  have HO : Hid (¬ other = code) := ho
  have HZ : Hid (zs.length = n) := hz
  have h5 := build_any b off n c zs w hn hb hc
  have H5 : Hid (Calls Try.prog 5 #[.slice (some ⟨b, off, none⟩) n c] w fun e w' => e = .returned (.slice (some ⟨w.heap.size, 0, none⟩) n n) ∧ Row w' w.heap.size n zs ∧ Below w.heap.size w w' ∧ w.heap.size < w'.heap.size) := h5
  clear h5 ho hz
  obtain ⟨i0, hi, hz0, hz1, hz2⟩ := info_parts info5
  go_enter Try.func3, Try.ntmps3
  go_wp2_with fail
  refine (bytes_yes (some ⟨b, off, none⟩) n c code other _ hn).mono ?_
  rintro e w' ⟨rfl, hw⟩
  have hw' := hw.symm
  subst hw'
  clear hw
  go_wp2_with fail
  refine H5.out.mono ?_
  rintro e w1 ⟨rfl, hR1, hB1, hG1⟩
  go_wp2_with (at_make; refine wpList_make_own _ rfl _ _ 22 rfl w1.heap.size 5 i0 (.int .u8 0) 1 Try.underlying22 hi hz0 hz1 _ _ _ n rfl rfl (by omega) ?b2 ?b3 (Nat.le_refl _) ?_)
  case b2 => rw [hz2]; omega
  case b3 => unfold maxLen; omega
  intro w2 hown2 hgrow2
  have hbel2 : Below w1.heap.size w1 w2 := (Below.refl _ _).grown hgrow2 (Nat.le_refl _) (fun k h => by cases h)
  go_wp2
  clear hgrow2 H5
  go_loopw [8, 9] (fun v i wr => ∃ k m : Nat, k ≤ n ∧ i = .int .i64 k ∧ v = .slice (some ⟨w1.heap.size, 0, none⟩) m n ∧ m ≤ k ∧ Hid (m = (keep (zs.take k) code).length) ∧ Hid (wr.ownsRow w1.heap.size 5 1 (.slice (some ⟨w1.heap.size, 0, none⟩) m n) m ((keep (zs.take k) code).map (Value.int .u8))) ∧ Below w1.heap.size w1 wr) (fun _ i _ => n - (intOf i).toNat)
  case atStart => exact ⟨0, 0, Nat.zero_le _, rfl, rfl, Nat.le_refl _, rfl, hown2, hbel2⟩
  case round =>
    clear hown2 hbel2
    obtain ⟨k, m, hk, rfl, rfl, hm, HM, hown, hB⟩ := hrel
    have hbs : b < w1.heap.size := by omega
    by_cases hlt : k < n
    · have ec : wr.cell? ⟨b, off + k, none⟩ = some (.int .u8 (el zs k)) := (hB.cell hbs).trans ((hB1.cell hb).trans (hc k hlt))
      have hTS : zs.take (k + 1) = zs.take k ++ [el zs k] := take_snoc zs k (by rw [HZ.out]; exact hlt)
      by_cases he : el zs k = code
      · have te : (el zs k != code) = false := by simp [he]
        have HK : Hid (keep (zs.take (k + 1)) code = keep (zs.take k) code) := by
          show _ = _
          rw [hTS]; exact keep_hit _ _ _ he
        clear he hTS
        go_wp2
        go_roundw
        case rel => exact ⟨k + 1, m, by omega, by go_num, rfl, by omega, by rw [HK.out]; exact HM, by rw [HK.out]; exact hown, hB⟩
        case measure => simp [intOf]; omega
      · have te : (el zs k != code) = true := by simp [he]
        have HK : Hid (keep (zs.take (k + 1)) code = keep (zs.take k) code ++ [el zs k]) := by
          show _ = _
          rw [hTS]; exact keep_miss _ _ _ he
        clear he hTS
        have hbr : b < wr.heap.size := by have := hB.size; omega
        go_wp2_with (at_builtin; refine wpList_append_fits _ rfl (.tmp 43) (.tmp 48) 22 rfl w1.heap.size 5 i0 1 Try.underlying22 hi hz1 w1.heap.size m n _ rfl (hown.out.alloc _) ⟨wr.heap.size, 0, none⟩ 1 1 [.int .u8 (el zs k)] rfl rfl ?c1 ?c2 (by omega) ?_)
        case c1 =>
          intro j u hj
          match j, hj with
          | 0, hj => simp at hj; subst hj; simp [Addr.add]
        case c2 => intro u hu; simp at hu; subst hu; rfl
        intro w3 hown3 hgrow3
        go_wp2
        go_roundw
        case rel => exact ⟨k + 1, m + 1, by omega, by go_num, rfl, by omega, (show _ = _ by rw [HK.out, List.length_append, ← HM.out]; rfl), (show World.ownsRow _ _ _ _ _ _ _ by rw [HK.out, List.map_append]; exact hown3), (hB.alloc hB.size _).grown hgrow3 (by have := hB.size; simp; omega) (fun j h => by cases h; exact Nat.le_refl _)⟩
        case measure => simp [intOf]; omega
    · have ek : zs.take k = zs := List.take_of_length_le (by rw [HZ.out]; omega)
      rw [ek] at HM hown
      clear ek
      have HL : Hid ((keep zs code).length = m) := HM.out.symm
      have hcells : ∀ t, t < m → wr.cell? ⟨w1.heap.size, 0 + t, none⟩ = some (.int .u8 (el (keep zs code) t)) := by
        intro t ht
        have h1 := hown.out.cellAt t (by omega)
        rw [Nat.zero_add, h1, List.getElem?_map, List.getElem?_eq_getElem (by rw [HL.out]; exact ht)]
        unfold el
        rw [List.getD_eq_getElem?_getD, List.getElem?_eq_getElem (by rw [HL.out]; exact ht)]
        rfl
      have hW1 : w1.heap.size < wr.heap.size := by
        rcases hown.out.2 with ⟨h, _⟩ | ⟨g, cap, cur, h, _, hg, _⟩
        · cases h
        · simp only [Value.slice.injEq, Option.some.injEq, Addr.mk.injEq, and_true, true_and] at h
          obtain ⟨rfl, _⟩ := h
          exact (Array.getElem?_eq_some_iff.1 hg).1
      have h5 := build_any w1.heap.size 0 m n (keep zs code) wr (by omega) hW1 hcells
      have H5 : Hid (Calls Try.prog 5 #[.slice (some ⟨w1.heap.size, 0, none⟩) m n] wr fun e w' => e = .returned (.slice (some ⟨wr.heap.size, 0, none⟩) m m) ∧ Row w' wr.heap.size m (keep zs code) ∧ Below wr.heap.size wr w' ∧ wr.heap.size < w'.heap.size) := h5
      have hR3 : Row wr w.heap.size n zs := hR1.later hB hG1
      clear h5 hcells HM hown hR1 hc
      obtain ⟨p, hp⟩ : ∃ p, hasB zs code = p := ⟨_, rfl⟩
      obtain ⟨r, hr⟩ : ∃ r, hasB zs other = r := ⟨_, rfl⟩
      have HP : Hid (hasB zs code = p) := hp
      have HR : Hid (hasB zs other = r) := hr
      clear hp hr
      go_wp2_with fail
      refine H5.out.mono ?_
      rintro e w4 ⟨rfl, hR4, hB4, hG4⟩
      have hS3 : w.heap.size < wr.heap.size := by omega
      have hP4 : Row w4 w.heap.size n zs := hR3.later hB4 hS3
      clear hR3 H5
      go_wp2_with fail
      refine (zhas_any w.heap.size n n zs code p _ hn HZ.out (by omega) hP4 HP.out).mono ?_
      rintro e w5 ⟨rfl, hB5⟩
      have hR5 : Row w5 wr.heap.size m (keep zs code) := hR4.later hB5 hG4
      have hP5 : Row w5 w.heap.size n zs := hP4.later hB5 (by omega)
      have hG5 : wr.heap.size < w5.heap.size := by have := hB5.size; omega
      clear hR4 hP4
      go_wp2_with fail
      refine (zhas_any wr.heap.size m m (keep zs code) code false _ (by omega) HL.out hG5 hR5 (has_same zs code)).mono ?_
      rintro e w6 ⟨rfl, hB6⟩
      have hR6 : Row w6 wr.heap.size m (keep zs code) := hR5.later hB6 hG5
      have hP6 : Row w6 w.heap.size n zs := hP5.later hB6 (by omega)
      have hG6 : wr.heap.size < w6.heap.size := by have := hB6.size; omega
      clear hR5 hP5
      go_wp2_with fail
      refine (zhas_any w.heap.size n n zs other r _ hn HZ.out (by omega) hP6 HR.out).mono ?_
      rintro e w7 ⟨rfl, hB7⟩
      have hR7 : Row w7 wr.heap.size m (keep zs code) := hR6.later hB7 hG6
      have hG7 : wr.heap.size < w7.heap.size := by have := hB7.size; omega
      clear hR6 hP6
      go_wp2_with fail
      refine (zhas_any wr.heap.size m m (keep zs code) other r _ (by omega) HL.out hG7 hR7 ((has_other zs code other HO.out).trans HR.out)).mono ?_
      rintro e w8 ⟨rfl, hB8⟩
      clear hR7
      have hfin : Below w.heap.size w w8 :=
        hB1.trans (((((hB.mono (by omega)).trans (hB4.mono (by omega))).trans (hB5.mono (by omega))).trans (hB6.mono (by omega))).trans ((hB7.mono (by omega)).trans (hB8.mono (by omega))))
      cases p with
      | true =>
        have hlt' : m < n := by have := keep_lt zs code HP.out; rw [HL.out, HZ.out] at this; exact this
        have tn : ((m : Int) != (n : Int)) = true := by rw [bne_iff_ne]; omega
        go_wp2
        go_ret
        exact ⟨by simp, hfin⟩
      | false =>
        have hE : m = n := by have := keep_all zs code HP.out; rw [HL.out, HZ.out] at this; exact this
        have tn : ((m : Int) != (n : Int)) = false := by simp [hE]
        clear hE
        go_wp2
        go_ret
        exact ⟨by simp, hfin⟩

theorem no_row (w : World) (g : Nat) : Row w g 0 [] := fun t h => absurd h (Nat.not_lt_zero t)
/-- The nil slice. -/
theorem walk_nil (code other : Int) (w : World) (ho : ¬ other = code) :
    Calls Try.prog 3 #[.slice none 0 0, .int .u8 code, .int .u8 other] w fun e w' => e = .returned (.bool true) ∧ Below w.heap.size w w' := by
  have to : (other == code) = false := beq_eq_false_iff_ne.2 ho
  clear ho
  obtain ⟨i0, hi, hz0, hz1, hz2⟩ := info_parts info5
  go_enter Try.func3, Try.ntmps3
  go_wp2_with fail
  refine (bytes_yes none 0 0 code other _ (by omega)).mono ?_
  rintro e w' ⟨rfl, hw⟩
  have hw' := hw.symm
  subst hw'
  clear hw
  go_wp2_with fail
  refine (build_nil _).mono ?_
  rintro e w' ⟨rfl, hw⟩
  have hw' := hw.symm
  subst hw'
  clear hw
  go_wp2_with (at_make; refine wpList_make_own _ rfl _ _ 22 rfl w.heap.size 5 i0 (.int .u8 0) 1 Try.underlying22 hi hz0 hz1 _ _ _ 0 rfl rfl (by omega) ?b2 ?b3 (Nat.le_refl _) ?_)
  case b2 => omega
  case b3 => unfold maxLen; omega
  intro w2 hown2 hgrow2
  have hbel2 : Below w.heap.size w w2 := (Below.refl _ _).grown hgrow2 (Nat.le_refl _) (fun k h => by cases h)
  clear hown2 hgrow2
  go_wp2
  go_loop [8, 9] (fun v i => v = .slice (some ⟨w.heap.size, 0, none⟩) 0 0 ∧ i = .int .i64 0) (fun _ _ => 0)
  case atStart => exact ⟨rfl, rfl⟩
  case round =>
    obtain ⟨rfl, rfl⟩ := hrel
    go_wp2_with fail
    refine (build_zero _ _ _).mono ?_
    rintro e w4 ⟨rfl, hB4, hG4⟩
    go_wp2_with fail
    refine (zhas_nil code _).mono ?_
    rintro e w' ⟨rfl, hw⟩
    have hw' := hw.symm
    subst hw'
    clear hw
    go_wp2_with fail
    refine (zhas_any w2.heap.size 0 0 [] code false _ (by omega) rfl hG4 (no_row _ _) rfl).mono ?_
    rintro e w6 ⟨rfl, hB6⟩
    go_wp2_with fail
    refine (zhas_nil other _).mono ?_
    rintro e w' ⟨rfl, hw⟩
    have hw' := hw.symm
    subst hw'
    clear hw
    have hG6 : w2.heap.size < w6.heap.size := by have := hB6.size; omega
    go_wp2_with fail
    refine (zhas_any w2.heap.size 0 0 [] other false _ (by omega) rfl hG6 (no_row _ _) rfl).mono ?_
    rintro e w8 ⟨rfl, hB8⟩
    have hs2 := hbel2.size
    have hfin : Below w.heap.size w w8 := hbel2.trans ((hB4.mono hs2).trans ((hB6.mono (by omega)).trans (hB8.mono (by omega))))
    go_wp2
    go_ret
    exact ⟨rfl, hfin⟩
/-- An empty slice that is not nil, whatever its address. -/
theorem walk_zero (x : Addr) (c : Nat) (code other : Int) (w : World) (ho : ¬ other = code) :
    Calls Try.prog 3 #[.slice (some x) 0 c, .int .u8 code, .int .u8 other] w fun e w' => e = .returned (.bool true) ∧ Below w.heap.size w w' := by
  have to : (other == code) = false := beq_eq_false_iff_ne.2 ho
  clear ho
  obtain ⟨i0, hi, hz0, hz1, hz2⟩ := info_parts info5
  go_enter Try.func3, Try.ntmps3
  go_wp2_with fail
  refine (bytes_yes (some x) 0 c code other _ (by omega)).mono ?_
  rintro e w' ⟨rfl, hw⟩
  have hw' := hw.symm
  subst hw'
  clear hw
  go_wp2_with fail
  refine (build_zero x c _).mono ?_
  rintro e w1 ⟨rfl, hB1, hG1⟩
  go_wp2_with (at_make; refine wpList_make_own _ rfl _ _ 22 rfl w1.heap.size 5 i0 (.int .u8 0) 1 Try.underlying22 hi hz0 hz1 _ _ _ 0 rfl rfl (by omega) ?b2 ?b3 (Nat.le_refl _) ?_)
  case b2 => omega
  case b3 => unfold maxLen; omega
  intro w2 hown2 hgrow2
  have hbel2 : Below w1.heap.size w1 w2 := (Below.refl _ _).grown hgrow2 (Nat.le_refl _) (fun k h => by cases h)
  clear hown2 hgrow2
  go_wp2
  go_loop [8, 9] (fun v i => v = .slice (some ⟨w1.heap.size, 0, none⟩) 0 0 ∧ i = .int .i64 0) (fun _ _ => 0)
  case atStart => exact ⟨rfl, rfl⟩
  case round =>
    obtain ⟨rfl, rfl⟩ := hrel
    go_wp2_with fail
    refine (build_zero _ _ _).mono ?_
    rintro e w4 ⟨rfl, hB4, hG4⟩
    have hs2 := hbel2.size
    have hP4 : w.heap.size < w4.heap.size := by omega
    go_wp2_with fail
    refine (zhas_any w.heap.size 0 0 [] code false _ (by omega) rfl hP4 (no_row _ _) rfl).mono ?_
    rintro e w5 ⟨rfl, hB5⟩
    have hs5 := hB5.size
    have hG5 : w2.heap.size < w5.heap.size := by omega
    go_wp2_with fail
    refine (zhas_any w2.heap.size 0 0 [] code false _ (by omega) rfl hG5 (no_row _ _) rfl).mono ?_
    rintro e w6 ⟨rfl, hB6⟩
    have hs6 := hB6.size
    have hP6 : w.heap.size < w6.heap.size := by omega
    go_wp2_with fail
    refine (zhas_any w.heap.size 0 0 [] other false _ (by omega) rfl hP6 (no_row _ _) rfl).mono ?_
    rintro e w7 ⟨rfl, hB7⟩
    have hs7 := hB7.size
    have hG7 : w2.heap.size < w7.heap.size := by omega
    go_wp2_with fail
    refine (zhas_any w2.heap.size 0 0 [] other false _ (by omega) rfl hG7 (no_row _ _) rfl).mono ?_
    rintro e w8 ⟨rfl, hB8⟩
    have hfin : Below w.heap.size w w8 := hB1.trans ((hbel2.mono (by omega)).trans ((hB4.mono (by omega)).trans ((hB5.mono (by omega)).trans ((hB6.mono (by omega)).trans ((hB7.mono (by omega)).trans (hB8.mono (by omega)))))))
    go_wp2
    go_ret
    exact ⟨rfl, hfin⟩
end Go.Proofs.Qxb6623380a.Rem

/- What the questions about two sets answer: plain laws, no program in sight. -/
import Derived.Test.YtbhlhgfgkiclgaaDoorSfg
set_option linter.unusedVariables false
set_option linter.unusedSimpArgs false
set_option maxRecDepth 100000
set_option maxHeartbeats 4000000
namespace Go.Proofs.YtbhlhgfgkiclgaaDoor.Set
open Go.RowKit Go.Proofs.YtbhlhgfgkiclgaaDoor.B

theorem srt_sub : ∀ {ys xs : List Int}, Srt xs → Srt ys → (∀ u ∈ xs, u ∈ ys) → xs.length ≤ ys.length ∧ (xs.length = ys.length → xs = ys)
  | [], xs, _, _, h => by
    cases xs with
    | nil => exact ⟨Nat.le_refl _, fun _ => rfl⟩
    | cons x xs => exact absurd (h x (List.mem_cons_self)) (by simp)
  | y :: ys, [], _, _, _ => ⟨by simp, fun h => by simp at h⟩
  | y :: ys, x :: xs, hx, hy, h => by
    have hx1 := List.pairwise_cons.1 hx
    have hy1 := List.pairwise_cons.1 hy
    rcases List.mem_cons.1 (h x List.mem_cons_self) with rfl | hm
    · have ih := srt_sub hx1.2 hy1.2 (fun u hu => by
        rcases List.mem_cons.1 (h u (List.mem_cons_of_mem _ hu)) with e | e
        · have := hx1.1 u hu; omega
        · exact e)
      refine ⟨by simp; exact ih.1, fun e => ?_⟩
      rw [ih.2 (by simpa using e)]
    · have ih := srt_sub hx hy1.2 (fun u hu => by
        rcases List.mem_cons.1 (h u hu) with e | e
        · have h3 := hy1.1 x hm
          rcases List.mem_cons.1 hu with e2 | e2
          · omega
          · have := hx1.1 u e2; omega
        · exact e)
      refine ⟨by simp at ih ⊢; omega, fun e => ?_⟩
      have := ih.1
      simp at e this
      omega
theorem all_has {xs ys : List Int} (hy : Srt ys) : xs.all (hasB ys) = true ↔ ∀ u ∈ xs, u ∈ ys := by
  rw [List.all_eq_true]
  exact ⟨fun h u hu => (hasB_iff hy u).1 (h u hu), fun h u hu => (hasB_iff hy u).2 (h u hu)⟩
theorem any_has {xs ys : List Int} (hy : Srt ys) : xs.any (hasB ys) = true ↔ ∃ u ∈ xs, u ∈ ys := by
  rw [List.any_eq_true]
  exact ⟨fun ⟨u, hu, h⟩ => ⟨u, hu, (hasB_iff hy u).1 h⟩, fun ⟨u, hu, h⟩ => ⟨u, hu, (hasB_iff hy u).2 h⟩⟩
theorem eq_all {xs ys : List Int} (hx : Srt xs) (hy : Srt ys) : (decide (xs.length = ys.length) && xs.all (hasB ys)) = decide (xs = ys) := by
  rw [Bool.eq_iff_iff, Bool.and_eq_true, decide_eq_true_iff, decide_eq_true_iff, all_has hy]
  exact ⟨fun ⟨h1, h2⟩ => (srt_sub hx hy h2).2 h1, fun h => by subst h; exact ⟨rfl, fun u hu => hu⟩⟩
theorem low_all {ys : List Int} (h : Srt ys) (hb : big ys = false) : low ys = ys := by
  unfold low
  rw [List.filter_eq_self]
  intro u hu
  rcases Int.lt_or_le u 64 with h1 | h1
  · exact decide_eq_true h1
  · rw [(big_iff h).2 ⟨u, hu, h1⟩] at hb; cases hb
theorem big_bits (n : Nat) : big (bitsL n) = false := by
  rw [← Bool.not_eq_true, big_iff (srt_bitsL n)]
  rintro ⟨u, hu, h1⟩
  have := nn_bitsL n u hu
  omega
/-- Equals, one of them small. -/
theorem eq_small {xs : List Int} {n m : Nat} (hx : Srt xs) (hn : n < 18446744073709551616) (hm : m < 18446744073709551616) (hl : low xs = bitsL n) (hb : big xs = false) : decide (xs = bitsL m) = decide ((n : Int) = m) := by
  rw [low_all hx hb] at hl
  rw [Bool.eq_iff_iff, decide_eq_true_iff, decide_eq_true_iff, hl]
  exact ⟨fun h => by rw [bitsL_inj hn hm h], fun h => by rw [show n = m by omega]⟩
theorem eq_small' {xs : List Int} {n m : Nat} (hx : Srt xs) (hn : n < 18446744073709551616) (hm : m < 18446744073709551616) (hl : low xs = bitsL n) (hb : big xs = false) : decide (bitsL m = xs) = decide ((m : Int) = n) := by
  rw [low_all hx hb] at hl
  rw [Bool.eq_iff_iff, decide_eq_true_iff, decide_eq_true_iff, hl]
  exact ⟨fun h => by rw [bitsL_inj hm hn h], fun h => by rw [show m = n by omega]⟩
theorem eq_big {xs : List Int} {m : Nat} (hb : big xs = true) : decide (xs = bitsL m) = false ∧ decide (bitsL m = xs) = false := by
  have h : xs ≠ bitsL m := fun e => by rw [e, big_bits] at hb; cases hb
  exact ⟨decide_eq_false h, decide_eq_false fun e => h e.symm⟩
theorem sub_bits (m n : Nat) (hm : m < 18446744073709551616) : (bitsL m).all (hasB (bitsL n)) = decide (((m &&& n : Nat) : Int) = m) := by
  rw [Bool.eq_iff_iff, all_has (srt_bitsL n), decide_eq_true_iff]
  have ha := bitsL_and m n
  constructor
  · intro h
    have h2 : bitsL (m &&& n) = bitsL m := by
      rw [ha, List.filter_eq_self]
      intro u hu
      rw [(hasB_iff (srt_bitsL n) u).2 (h u hu)]
      rfl
    rw [bitsL_inj (Nat.lt_of_le_of_lt Nat.and_le_left hm) hm h2]
  · intro h
    have h2 : (m &&& n) = m := by omega
    rw [h2] at ha
    intro u hu
    rw [ha, List.mem_filter] at hu
    exact (hasB_iff (srt_bitsL n) u).1 (by simpa using hu.2)
theorem has_low {ys : List Int} (hy : Srt ys) {n : Nat} (hl : low ys = bitsL n) {u : Int} (hu : u < 64) : hasB ys u = hasB (bitsL n) u := by
  rw [Bool.eq_iff_iff, hasB_iff hy, hasB_iff (srt_bitsL n), ← hl]
  unfold low
  rw [List.mem_filter]
  simp [hu]
theorem sub_low {ys : List Int} {m n : Nat} (hy : Srt ys) (hm : m < 18446744073709551616) (hl : low ys = bitsL n) : (bitsL m).all (hasB ys) = decide (((m &&& n : Nat) : Int) = m) := by
  rw [← sub_bits m n hm, Bool.eq_iff_iff, List.all_eq_true, List.all_eq_true]
  constructor
  · intro h u hu; rw [← has_low hy hl (nn_bitsL m u hu).2]; exact h u hu
  · intro h u hu; rw [has_low hy hl (nn_bitsL m u hu).2]; exact h u hu
theorem sub_small {xs : List Int} {m n : Nat} (hx : Srt xs) (hn : n < 18446744073709551616) (hl : low xs = bitsL n) (hb : big xs = false) : xs.all (hasB (bitsL m)) = decide (((n &&& m : Nat) : Int) = n) := by
  rw [low_all hx hb] at hl
  rw [hl, sub_bits n m hn]
theorem sub_big {xs : List Int} {m : Nat} (hx : Srt xs) (hb : big xs = true) : xs.all (hasB (bitsL m)) = false := by
  rw [← Bool.not_eq_true, all_has (srt_bitsL m)]
  intro h
  obtain ⟨u, hu, h1⟩ := (big_iff hx).1 hb
  have := nn_bitsL m u (h u hu)
  omega
theorem int_low {ys : List Int} {m n : Nat} (hy : Srt ys) (hm : m < 18446744073709551616) (hl : low ys = bitsL n) : (bitsL m).any (hasB ys) = !decide (((m &&& n : Nat) : Int) = 0) := by
  have ha := bitsL_and m n
  rw [Bool.eq_iff_iff, List.any_eq_true, Bool.not_eq_true', decide_eq_false_iff_not]
  constructor
  · rintro ⟨u, hu, h⟩ e
    rw [show (m &&& n) = 0 by omega, bitsL_zero] at ha
    rw [has_low hy hl (nn_bitsL m u hu).2] at h
    have h2 : u ∈ (bitsL m).filter (fun u => hasB (bitsL n) u == true) := List.mem_filter.2 ⟨hu, by rw [h]; rfl⟩
    rw [← ha] at h2
    cases h2
  · intro h
    rcases hb : bitsL (m &&& n) with _ | ⟨u, l⟩
    · have := bitsL_inj (m := m &&& n) (n := 0) (Nat.lt_of_le_of_lt Nat.and_le_left hm) (by omega) (by rw [hb, bitsL_zero])
      omega
    · have hu : u ∈ bitsL (m &&& n) := by rw [hb]; exact List.mem_cons_self
      rw [ha, List.mem_filter] at hu
      exact ⟨u, hu.1, by rw [has_low hy hl (nn_bitsL m u hu.1).2]; simpa using hu.2⟩

end Go.Proofs.YtbhlhgfgkiclgaaDoor.Set

/- FnRRMeets: for whatever ranges the law returns true. Conditions: those written at each lemma. -/
import Derived.Test.YtfnogpelaoofbaaGreatDoorRre
set_option linter.unusedVariables false
set_option linter.unusedSimpArgs false
set_option maxRecDepth 100000
set_option maxHeartbeats 8000000
namespace Go.Proofs.YtfnogpelaoofbaaGreatDoor.Rg
open Go.RowKit Go.Proofs.YtfnogpelaoofbaaGreatDoor.B Go.Proofs.YtfnogpelaoofbaaGreatDoor.Sp

theorem sameL_self (p : List Cl) : sameL p p = true := by
  unfold sameL
  rw [decide_eq_true rfl, Bool.true_and, Bool.or_eq_true]
  refine .inr (List.all_eq_true.2 fun c hc => ?_)
  have h : ∀ (l : List Cl), ∀ c ∈ l.zip l, c.1 = c.2 := by
    intro l
    induction l with
    | nil => intro c hc; cases hc
    | cons a r ih =>
      intro c hc
      rcases List.mem_cons.1 hc with rfl | hc
      · rfl
      · exact ih c hc
  rw [h p c hc]
  exact sameC_self _
theorem allM_none {p q : List Cl} (h : allM p q = false) : noneL (meetL p q) = true := by
  unfold allM at h
  rw [List.all_eq_false] at h
  obtain ⟨c, hc, h⟩ := h
  unfold noneL
  rw [Bool.or_eq_true]
  refine .inl (List.any_eq_true.2 ⟨mtc c.1 c.2, ?_, ?_⟩)
  · have : meetL p q = (p.zip q).map fun c => mtc c.1 c.2 := by
      unfold meetL
      rw [List.zip, List.map_zipWith]
    rw [this]
    exact List.mem_map.2 ⟨c, hc, rfl⟩
  · have h2 : ¬ (mtc c.1 c.2).lo < (mtc c.1 c.2).hi := by simpa using h
    exact decide_eq_true (by omega)
theorem isect_none {p q : List Cl} (h : allM p q = false) : noneL (isect p q) = true := by
  rw [isect_no h]
  cases p with
  | nil => rfl
  | cons a r => rfl
theorem isect_same (p q : List Cl) : sameL (isect p q) (meetL p q) = true := by
  cases h : allM p q
  · unfold sameL
    rw [isect_none h, allM_none h]
    rfl
  · rw [isect_yes h]
    exact sameL_self _
theorem isect_eq {p q : List Cl} (h : noneL (meetL p q) = false) : isect p q = meetL p q := by
  cases h1 : allM p q
  · rw [allM_none h1] at h; cases h
  · exact isect_yes h1
theorem isect_self {p : List Cl} (h : ∀ c ∈ p, Ful c) : isect p p = p := by
  have e : ∀ (l : List Cl), meetL l l = l := by
    intro l
    induction l with
    | nil => rfl
    | cons a r ih => show mtc a a :: meetL r r = _; rw [mtc_self, ih]
  have ha : allM p p = true := by
    unfold allM
    rw [List.all_eq_true]
    intro c hc
    have h2 : ∀ (l : List Cl), ∀ c ∈ l.zip l, c.1 = c.2 ∧ c.1 ∈ l := by
      intro l
      induction l with
      | nil => intro c hc; cases hc
      | cons a r ih =>
        intro c hc
        rcases List.mem_cons.1 hc with rfl | hc
        · exact ⟨rfl, .head _⟩
        · exact ⟨(ih c hc).1, .tail _ (ih c hc).2⟩
    obtain ⟨h3, h4⟩ := h2 p c hc
    rw [← h3, mtc_self]
    exact decide_eq_true (h _ h4).2.2
  rw [isect_yes ha, e]
theorem rrl_mem (ls : List (List Cl)) (n m : Nat) : ∀ l ∈ rrl ls n m, l.length = n ∧ ∀ c ∈ l, Ful c := by
  intro l hl
  unfold rrl at hl
  rcases List.mem_append.1 hl with h | h
  · obtain ⟨x, _, rfl⟩ := List.mem_map.1 h
    exact ⟨fullN_len _ _, fullN_ful _ _⟩
  · rw [List.mem_singleton.1 h]
    exact ⟨fullN_len _ _, fullN_ful _ _⟩
theorem rrl_pos (ls : List (List Cl)) (n m : Nat) : 0 < (rrl ls n m).length := by unfold rrl; simp
theorem R1.mk {W : World} {A : Option Addr} {n c : Nat} {l : List Cl} (h : Rd W 4 (.slice A n c) n (clc l)) (e : l.length = n) : R1 W (.slice A n c) l := ⟨A, c, by rw [e], by rw [e]; exact h⟩
theorem rd_cap2 {W : World} {size n c : Nat} {A : Option Addr} {cs : List Value} (h : Rd W size (.slice A n c) n cs) : n ≤ c := by
  obtain ⟨_, A', c', h2, h3, _⟩ := h
  injection h2 with e1 e2 e3
  omega
theorem rl_cap {W : World} {A : Option Addr} {n c : Nat} {ls : List (List Cl)} (h : RL W (.slice A n c) ls) : n ≤ c := by
  obtain ⟨vs, A', c', e, hr, _⟩ := h
  injection e with e1 e2 e3
  subst e1 e2 e3
  exact rd_cap2 hr

end Go.Proofs.YtfnogpelaoofbaaGreatDoor.Rg

/- Lists of lists of ranges in memory; ranges as lists of one; whether one of some ranges has the values at places. Conditions: those written at each lemma. -/
import Derived.Test.YtfnogpelaoofbaaGreatDoorSub
set_option linter.unusedVariables false
set_option linter.unusedSimpArgs false
set_option maxRecDepth 100000
set_option maxHeartbeats 4000000
namespace Go.Proofs.YtfnogpelaoofbaaGreatDoor.Rg
open Go.RowKit Go.Proofs.YtfnogpelaoofbaaGreatDoor.B Go.Proofs.YtfnogpelaoofbaaGreatDoor.Sp

/-- One list of ranges, read by the value v. -/
def R1 (W : World) (v : Value) (l : List Cl) : Prop := ∃ A c, v = .slice A l.length c ∧ Rd W 4 v l.length (clc l)
theorem R1.below {W W1 : World} {v : Value} {l : List Cl} (h : R1 W v l) (hb : Below W.heap.size W W1) : R1 W1 v l := by
  obtain ⟨A, c, h1, h2⟩ := h
  exact ⟨A, c, h1, h2.below hb⟩
theorem R1.of {W : World} {v : Value} {l : List Cl} (h : Rd W 4 v l.length (clc l)) : R1 W v l := by
  obtain ⟨A, c, rfl, _⟩ := h.shape
  exact ⟨A, c, rfl, h⟩
/-- Values and what they read as, one by one. -/
def All1 {α : Type} (P : Value → α → Prop) (vs : List Value) (ls : List α) : Prop := vs.length = ls.length ∧ ∀ i (h : i < vs.length) (h2 : i < ls.length), P vs[i] ls[i]
section
variable {α : Type} {P Q : Value → α → Prop} {vs : List Value} {ls : List α}
theorem All1.imp (h : All1 P vs ls) (hi : ∀ v l, P v l → Q v l) : All1 Q vs ls := ⟨h.1, fun i h1 h2 => hi _ _ (h.2 i h1 h2)⟩
theorem All1.nil (P : Value → α → Prop) : All1 P [] [] := ⟨rfl, fun i h => by simp at h⟩
theorem All1.push {v : Value} {l : α} (h : All1 P vs ls) (hv : P v l) : All1 P (vs ++ [v]) (ls ++ [l]) := by
  refine ⟨by simp [h.1], fun i h1 h2 => ?_⟩
  by_cases hi : i < vs.length
  · rw [List.getElem_append_left hi, List.getElem_append_left (by rw [← h.1]; exact hi)]
    exact h.2 i hi _
  · have e : i = vs.length := by simp at h1; omega
    subst e
    rw [List.getElem_append_right (Nat.le_refl _), List.getElem_append_right (by rw [h.1]; exact Nat.le_refl _)]
    simp only [Nat.sub_self, List.getElem_cons_zero, h.1]
    exact hv
end
/-- One list, in a row of the call's own. -/
def O1 (W : World) (B : Nat) (v : Value) (l : List Cl) : Prop := ∃ A c, v = .slice A l.length c ∧ W.ownsRow B 54 4 v l.length (clc l)
theorem O1.r1 {W : World} {B : Nat} {v : Value} {l : List Cl} (h : O1 W B v l) : R1 W v l := by
  obtain ⟨A, c, h1, h2⟩ := h
  exact ⟨A, c, h1, Rd.of_own h2⟩
theorem O1.of {W : World} {B : Nat} {v : Value} {l : List Cl} (h : W.ownsRow B 54 4 v l.length (clc l)) : O1 W B v l := by
  obtain ⟨A, c, rfl, _⟩ := (Rd.of_own h).shape
  exact ⟨A, c, rfl, h⟩
theorem O1.below {W W1 : World} {B : Nat} {v : Value} {l : List Cl} (h : O1 W B v l) (hb : Below W.heap.size W W1) : O1 W1 B v l := by
  obtain ⟨A, c, h1, h2⟩ := h
  exact ⟨A, c, h1, own_below h2 hb⟩
theorem lt_of_block {W : World} {k : Nat} {x : Obj} (h : W.heap[k]? = some x) : k < W.heap.size := Rv.lt_of_blk h
theorem own_grown {W W1 : World} {B B2 : Nat} {e e2 : TypeId} {s s2 n n2 : Nat} {v u : Value} {xs ys : List Value} (h : W.ownsRow B e s v n xs) (hu : W.ownsRow B2 e2 s2 u n2 ys) (he : e ≠ e2) (hg : W.grownBy W1 u.ownBlock) : W1.ownsRow B e s v n xs := by
  refine ⟨h.1, ?_⟩
  rcases h.2 with h2 | ⟨g, cap, cur, h1, h2, h3, h4⟩
  · exact .inl h2
  · refine .inr ⟨g, cap, cur, h1, h2, ?_, h4⟩
    rw [hg.block g (lt_of_block h3) (fun e1 => ?_)]
    · exact h3
    · rcases hu.2 with ⟨rfl, _⟩ | ⟨g2, cap2, cur2, rfl, _, h5, _⟩
      · cases e1
      · simp only [Value.ownBlock] at e1
        injection e1 with e1
        subst e1
        rw [h3] at h5
        injection h5 with h5
        injection h5 with _ h5 _
        exact he h5
theorem O1.grown {W W1 : World} {B B2 : Nat} {v u : Value} {l : List Cl} {n : Nat} {vs : List Value} (h : O1 W B v l) (hu : W.ownsRow B2 22 1 u n vs) (hg : W.grownBy W1 u.ownBlock) : O1 W1 B v l := by
  obtain ⟨A, c, h1, h2⟩ := h
  exact ⟨A, c, h1, own_grown h2 hu (by decide) hg⟩
/-- A list of lists. -/
def RL (W : World) (v : Value) (ls : List (List Cl)) : Prop := ∃ vs A c, v = .slice A ls.length c ∧ Rd W 1 v ls.length vs ∧ All1 (R1 W) vs ls
theorem RL.below {W W1 : World} {v : Value} {ls : List (List Cl)} (h : RL W v ls) (hb : Below W.heap.size W W1) : RL W1 v ls := by
  obtain ⟨vs, A, c, h1, h2, h3⟩ := h
  exact ⟨vs, A, c, h1, h2.below hb, h3.imp fun _ _ h => h.below hb⟩
/-- The list number k. -/
theorem RL.get {W : World} {A : Option Addr} {n c : Nat} {ls : List (List Cl)} (h : RL W (.slice A n c) ls) (k : Nat) (hk : k < ls.length) : ∃ b o A2 c2, A = some ⟨b, o, none⟩ ∧ b < W.heap.size ∧ W.cell? ⟨b, o + k, none⟩ = some (.slice A2 ls[k].length c2) ∧ Rd W 4 (.slice A2 ls[k].length c2) ls[k].length (clc ls[k]) := by
  obtain ⟨vs, A', c', e, hr, ha⟩ := h
  injection e with e1 e2 e3
  subst e1 e2 e3
  have hl := hr.len
  have hkv : k < vs.length := by rw [ha.1]; exact hk
  obtain ⟨b, o, c', e, _, _, hb, hc⟩ := hr.open (by omega)
  injection e with e1 e2 e3
  obtain ⟨A2, c2, e, hR⟩ := ha.2 k hkv hk
  have h1 := hc k _ (List.getElem?_eq_getElem hkv)
  rw [e] at h1 hR
  exact ⟨b, o, A2, c2, e1, hb, h1, hR⟩
/-- A list of lists in memory of the call's own. -/
def OL (W : World) (B : Nat) (v : Value) (ls : List (List Cl)) : Prop := ∃ vs, W.ownsRow B 22 1 v ls.length vs ∧ All1 (O1 W B) vs ls
theorem OL.rl {W : World} {B : Nat} {v : Value} {ls : List (List Cl)} (h : OL W B v ls) : RL W v ls := by
  obtain ⟨vs, h1, h2⟩ := h
  obtain ⟨A, c, rfl, _⟩ := (Rd.of_own h1).shape
  exact ⟨vs, A, c, rfl, Rd.of_own h1, h2.imp fun _ _ h => h.r1⟩
theorem OL.below {W W1 : World} {B : Nat} {v : Value} {ls : List (List Cl)} (h : OL W B v ls) (hb : Below W.heap.size W W1) : OL W1 B v ls := by
  obtain ⟨vs, h1, h2⟩ := h
  exact ⟨vs, own_below h1 hb, h2.imp fun _ _ h => h.below hb⟩
theorem OL.mono {W : World} {B B1 : Nat} {v : Value} {ls : List (List Cl)} (h : OL W B v ls) (hb : B1 ≤ B) : OL W B1 v ls := by
  obtain ⟨vs, h1, h2⟩ := h
  exact ⟨vs, h1.mono hb, h2.imp fun _ _ h => by
    obtain ⟨A, c, e, h3⟩ := h
    exact ⟨A, c, e, h3.mono hb⟩⟩

end Go.Proofs.YtfnogpelaoofbaaGreatDoor.Rg

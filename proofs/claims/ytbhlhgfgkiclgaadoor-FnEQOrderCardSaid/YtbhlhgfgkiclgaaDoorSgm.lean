/- Rows of lists: one behind the other, and from the last to the first. Conditions: those written at each lemma. -/
import Derived.Test.YtbhlhgfgkiclgaaDoorSgl
set_option linter.unusedVariables false
set_option linter.unusedSimpArgs false
set_option maxRecDepth 100000
namespace Go.Proofs.YtbhlhgfgkiclgaaDoor.Set
open Go.RowKit Go.Proofs.YtbhlhgfgkiclgaaDoor.B

theorem All1.append {P : Value → List Int → Prop} {vs ws : List Value} {ls ms : List (List Int)} (h : All1 P vs ls) (k : All1 P ws ms) : All1 P (vs ++ ws) (ls ++ ms) := by
  refine ⟨by simp [h.1, k.1], fun i h1 h2 => ?_⟩
  by_cases hi : i < vs.length
  · rw [List.getElem_append_left hi, List.getElem_append_left (by rw [← h.1]; exact hi)]
    exact h.2 i hi _
  · have e := h.1
    rw [List.getElem_append_right (by omega), List.getElem_append_right (by omega)]
    simp only [e]
    exact k.2 _ (by simp at h1; omega) _
theorem All1.reverse {P : Value → List Int → Prop} {vs : List Value} {ls : List (List Int)} (h : All1 P vs ls) : All1 P vs.reverse ls.reverse := by
  refine ⟨by simp [h.1], fun i h1 h2 => ?_⟩
  rw [List.getElem_reverse, List.getElem_reverse]
  simp only [h.1]
  exact h.2 _ _ _
theorem All1.rl {W : World} {B : Nat} {vs : List Value} {ls : List (List Int)} {v : Value} (h : All1 (O1 W B) vs ls) (hr : Rd W 1 v ls.length vs) : RL W v ls := by
  obtain ⟨A, c, rfl, _⟩ := hr.shape
  exact ⟨vs, A, c, rfl, hr, h.imp fun _ _ h => h.r1⟩
end Go.Proofs.YtbhlhgfgkiclgaaDoor.Set

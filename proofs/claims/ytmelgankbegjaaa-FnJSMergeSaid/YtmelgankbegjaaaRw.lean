/- Blocks into which a variable's value is stored, and the places of one or two variables that a region makes: for Rv.region_fin. Conditions: those written at each lemma. -/
import Derived.Test.YtmelgankbegjaaaRv
import Derived.ProofKit
import Derived.Below
set_option linter.unusedVariables false
set_option linter.unusedSimpArgs false
namespace Go.Proofs.Ytmelgankbegjaaa.Rv
open Go Go.RowKit

/-- All but the block g is as it was. -/
def But (g : Nat) (W W' : World) : Prop := W.heap.size ≤ W'.heap.size ∧ ∀ k, k ≠ g → k < W.heap.size → W'.heap[k]? = W.heap[k]?
theorem lt_of_blk {W : World} {b : Nat} {o : Obj} (h : W.heap[b]? = some o) : b < W.heap.size := by
  rcases Nat.lt_or_ge b W.heap.size with h1 | h1
  · exact h1
  · rw [Array.getElem?_eq_none h1] at h; cases h
theorem But.blk {g b : Nat} {W W' : World} {o : Obj} (h : But g W W') (hb : W.heap[b]? = some o) (hne : b ≠ g) : W'.heap[b]? = some o := (h.2 b hne (lt_of_blk hb)).trans hb
theorem But.tr {g : Nat} {a b c : World} (h1 : But g a b) (h2 : But g b c) : But g a c := ⟨Nat.le_trans h1.1 h2.1, fun k hk hl => (h2.2 k hk (Nat.lt_of_lt_of_le hl h1.1)).trans (h1.2 k hk hl)⟩
theorem But.one (g : Nat) (w : World) (j : Nat) (u : Value) : But g w (w.setCell ⟨g, j, none⟩ u) :=
  ⟨((Below.refl 0 w).setCell (Nat.zero_le (⟨g, j, none⟩ : Addr).block) u).size, fun k hk _ => by rw [Below.heap_setCell _ _ _ _ (fun e => hk e)]⟩
theorem set_cell1 {w : World} {b : Nat} {cs : Array Value} {t : TypeId} (j : Nat) (u : Value) (h : w.heap[b]? = some (.cells cs t (0, 0))) : (w.setCell ⟨b, j, none⟩ u).heap[b]? = some (.cells (cs.setIfInBounds j u) t (0, 0)) := by
  have hlt := lt_of_blk h
  have h' : w.heap[b] = .cells cs t (0, 0) := by simpa [Array.getElem?_eq_getElem hlt] using h
  show (w.heap.modify b _)[b]? = _
  rw [Array.getElem?_eq_getElem (by simpa using hlt), Array.getElem_modify_self, h']
  rfl
theorem cells1 {w : World} {b : Nat} {v0 : Value} {t : TypeId} (h : w.heap[b]? = some (.cells #[v0] t (0, 0))) : w.cell? ⟨b, 0, none⟩ = some v0 := by
  simp [World.cell?, h]
theorem frozen1 {w : World} {b : Nat} {v0 : Value} {t : TypeId} (h : w.heap[b]? = some (.cells #[v0] t (0, 0))) : w.frozen? ⟨b, 0, none⟩ = false := by
  simp [World.frozen?, h]
theorem sets1 {w : World} {b : Nat} {v0 : Value} {t : TypeId} (h : w.heap[b]? = some (.cells #[v0] t (0, 0))) (u0 : Value) : (w.setCell ⟨b, 0, none⟩ u0).heap[b]? = some (.cells #[u0] t (0, 0)) := by
  exact set_cell1 0 u0 h
theorem buts1 (g : Nat) (w : World) (u0 : Value) : But g w (w.setCell ⟨g, 0, none⟩ u0) := But.one g w 0 u0
theorem belows1 {B g : Nat} {X w : World} (h : Below B X w) (hg : B ≤ g) (u0 : Value) : Below B X (w.setCell ⟨g, 0, none⟩ u0) := (h.setCell hg u0)
theorem cells2 {w : World} {b : Nat} {v0 v1 : Value} {t : TypeId} (h : w.heap[b]? = some (.cells #[v0, v1] t (0, 0))) : w.cell? ⟨b, 0, none⟩ = some v0 ∧ w.cell? ⟨b, 1, none⟩ = some v1 := by
  refine ⟨?_, ?_⟩ <;> simp [World.cell?, h]
theorem frozen2 {w : World} {b : Nat} {v0 v1 : Value} {t : TypeId} (h : w.heap[b]? = some (.cells #[v0, v1] t (0, 0))) : w.frozen? ⟨b, 0, none⟩ = false ∧ w.frozen? ⟨b, 1, none⟩ = false := by
  refine ⟨?_, ?_⟩ <;> simp [World.frozen?, h]
theorem sets2 {w : World} {b : Nat} {v0 v1 : Value} {t : TypeId} (h : w.heap[b]? = some (.cells #[v0, v1] t (0, 0))) (u0 u1 : Value) : ((w.setCell ⟨b, 0, none⟩ u0).setCell ⟨b, 1, none⟩ u1).heap[b]? = some (.cells #[u0, u1] t (0, 0)) := by
  exact set_cell1 1 u1 (set_cell1 0 u0 h)
theorem buts2 (g : Nat) (w : World) (u0 u1 : Value) : But g w ((w.setCell ⟨g, 0, none⟩ u0).setCell ⟨g, 1, none⟩ u1) := (But.one g w 0 u0).tr (But.one g _ 1 u1)
theorem belows2 {B g : Nat} {X w : World} (h : Below B X w) (hg : B ≤ g) (u0 u1 : Value) : Below B X ((w.setCell ⟨g, 0, none⟩ u0).setCell ⟨g, 1, none⟩ u1) := ((h.setCell hg u0).setCell hg u1)
theorem cells3 {w : World} {b : Nat} {v0 v1 v2 : Value} {t : TypeId} (h : w.heap[b]? = some (.cells #[v0, v1, v2] t (0, 0))) : w.cell? ⟨b, 0, none⟩ = some v0 ∧ w.cell? ⟨b, 1, none⟩ = some v1 ∧ w.cell? ⟨b, 2, none⟩ = some v2 := by
  refine ⟨?_, ?_, ?_⟩ <;> simp [World.cell?, h]
theorem frozen3 {w : World} {b : Nat} {v0 v1 v2 : Value} {t : TypeId} (h : w.heap[b]? = some (.cells #[v0, v1, v2] t (0, 0))) : w.frozen? ⟨b, 0, none⟩ = false ∧ w.frozen? ⟨b, 1, none⟩ = false ∧ w.frozen? ⟨b, 2, none⟩ = false := by
  refine ⟨?_, ?_, ?_⟩ <;> simp [World.frozen?, h]
theorem sets3 {w : World} {b : Nat} {v0 v1 v2 : Value} {t : TypeId} (h : w.heap[b]? = some (.cells #[v0, v1, v2] t (0, 0))) (u0 u1 u2 : Value) : (((w.setCell ⟨b, 0, none⟩ u0).setCell ⟨b, 1, none⟩ u1).setCell ⟨b, 2, none⟩ u2).heap[b]? = some (.cells #[u0, u1, u2] t (0, 0)) := by
  exact set_cell1 2 u2 (set_cell1 1 u1 (set_cell1 0 u0 h))
theorem buts3 (g : Nat) (w : World) (u0 u1 u2 : Value) : But g w (((w.setCell ⟨g, 0, none⟩ u0).setCell ⟨g, 1, none⟩ u1).setCell ⟨g, 2, none⟩ u2) := ((But.one g w 0 u0).tr (But.one g _ 1 u1)).tr (But.one g _ 2 u2)
theorem belows3 {B g : Nat} {X w : World} (h : Below B X w) (hg : B ≤ g) (u0 u1 u2 : Value) : Below B X (((w.setCell ⟨g, 0, none⟩ u0).setCell ⟨g, 1, none⟩ u1).setCell ⟨g, 2, none⟩ u2) := (((h.setCell hg u0).setCell hg u1).setCell hg u2)
theorem cells4 {w : World} {b : Nat} {v0 v1 v2 v3 : Value} {t : TypeId} (h : w.heap[b]? = some (.cells #[v0, v1, v2, v3] t (0, 0))) : w.cell? ⟨b, 0, none⟩ = some v0 ∧ w.cell? ⟨b, 1, none⟩ = some v1 ∧ w.cell? ⟨b, 2, none⟩ = some v2 ∧ w.cell? ⟨b, 3, none⟩ = some v3 := by
  refine ⟨?_, ?_, ?_, ?_⟩ <;> simp [World.cell?, h]
theorem frozen4 {w : World} {b : Nat} {v0 v1 v2 v3 : Value} {t : TypeId} (h : w.heap[b]? = some (.cells #[v0, v1, v2, v3] t (0, 0))) : w.frozen? ⟨b, 0, none⟩ = false ∧ w.frozen? ⟨b, 1, none⟩ = false ∧ w.frozen? ⟨b, 2, none⟩ = false ∧ w.frozen? ⟨b, 3, none⟩ = false := by
  refine ⟨?_, ?_, ?_, ?_⟩ <;> simp [World.frozen?, h]
theorem sets4 {w : World} {b : Nat} {v0 v1 v2 v3 : Value} {t : TypeId} (h : w.heap[b]? = some (.cells #[v0, v1, v2, v3] t (0, 0))) (u0 u1 u2 u3 : Value) : ((((w.setCell ⟨b, 0, none⟩ u0).setCell ⟨b, 1, none⟩ u1).setCell ⟨b, 2, none⟩ u2).setCell ⟨b, 3, none⟩ u3).heap[b]? = some (.cells #[u0, u1, u2, u3] t (0, 0)) := by
  exact set_cell1 3 u3 (set_cell1 2 u2 (set_cell1 1 u1 (set_cell1 0 u0 h)))
theorem buts4 (g : Nat) (w : World) (u0 u1 u2 u3 : Value) : But g w ((((w.setCell ⟨g, 0, none⟩ u0).setCell ⟨g, 1, none⟩ u1).setCell ⟨g, 2, none⟩ u2).setCell ⟨g, 3, none⟩ u3) := (((But.one g w 0 u0).tr (But.one g _ 1 u1)).tr (But.one g _ 2 u2)).tr (But.one g _ 3 u3)
theorem belows4 {B g : Nat} {X w : World} (h : Below B X w) (hg : B ≤ g) (u0 u1 u2 u3 : Value) : Below B X ((((w.setCell ⟨g, 0, none⟩ u0).setCell ⟨g, 1, none⟩ u1).setCell ⟨g, 2, none⟩ u2).setCell ⟨g, 3, none⟩ u3) := ((((h.setCell hg u0).setCell hg u1).setCell hg u2).setCell hg u3)
theorem cells5 {w : World} {b : Nat} {v0 v1 v2 v3 v4 : Value} {t : TypeId} (h : w.heap[b]? = some (.cells #[v0, v1, v2, v3, v4] t (0, 0))) : w.cell? ⟨b, 0, none⟩ = some v0 ∧ w.cell? ⟨b, 1, none⟩ = some v1 ∧ w.cell? ⟨b, 2, none⟩ = some v2 ∧ w.cell? ⟨b, 3, none⟩ = some v3 ∧ w.cell? ⟨b, 4, none⟩ = some v4 := by
  refine ⟨?_, ?_, ?_, ?_, ?_⟩ <;> simp [World.cell?, h]
theorem frozen5 {w : World} {b : Nat} {v0 v1 v2 v3 v4 : Value} {t : TypeId} (h : w.heap[b]? = some (.cells #[v0, v1, v2, v3, v4] t (0, 0))) : w.frozen? ⟨b, 0, none⟩ = false ∧ w.frozen? ⟨b, 1, none⟩ = false ∧ w.frozen? ⟨b, 2, none⟩ = false ∧ w.frozen? ⟨b, 3, none⟩ = false ∧ w.frozen? ⟨b, 4, none⟩ = false := by
  refine ⟨?_, ?_, ?_, ?_, ?_⟩ <;> simp [World.frozen?, h]
theorem sets5 {w : World} {b : Nat} {v0 v1 v2 v3 v4 : Value} {t : TypeId} (h : w.heap[b]? = some (.cells #[v0, v1, v2, v3, v4] t (0, 0))) (u0 u1 u2 u3 u4 : Value) : (((((w.setCell ⟨b, 0, none⟩ u0).setCell ⟨b, 1, none⟩ u1).setCell ⟨b, 2, none⟩ u2).setCell ⟨b, 3, none⟩ u3).setCell ⟨b, 4, none⟩ u4).heap[b]? = some (.cells #[u0, u1, u2, u3, u4] t (0, 0)) := by
  exact set_cell1 4 u4 (set_cell1 3 u3 (set_cell1 2 u2 (set_cell1 1 u1 (set_cell1 0 u0 h))))
theorem buts5 (g : Nat) (w : World) (u0 u1 u2 u3 u4 : Value) : But g w (((((w.setCell ⟨g, 0, none⟩ u0).setCell ⟨g, 1, none⟩ u1).setCell ⟨g, 2, none⟩ u2).setCell ⟨g, 3, none⟩ u3).setCell ⟨g, 4, none⟩ u4) := ((((But.one g w 0 u0).tr (But.one g _ 1 u1)).tr (But.one g _ 2 u2)).tr (But.one g _ 3 u3)).tr (But.one g _ 4 u4)
theorem belows5 {B g : Nat} {X w : World} (h : Below B X w) (hg : B ≤ g) (u0 u1 u2 u3 u4 : Value) : Below B X (((((w.setCell ⟨g, 0, none⟩ u0).setCell ⟨g, 1, none⟩ u1).setCell ⟨g, 2, none⟩ u2).setCell ⟨g, 3, none⟩ u3).setCell ⟨g, 4, none⟩ u4) := (((((h.setCell hg u0).setCell hg u1).setCell hg u2).setCell hg u3).setCell hg u4)
theorem cells6 {w : World} {b : Nat} {v0 v1 v2 v3 v4 v5 : Value} {t : TypeId} (h : w.heap[b]? = some (.cells #[v0, v1, v2, v3, v4, v5] t (0, 0))) : w.cell? ⟨b, 0, none⟩ = some v0 ∧ w.cell? ⟨b, 1, none⟩ = some v1 ∧ w.cell? ⟨b, 2, none⟩ = some v2 ∧ w.cell? ⟨b, 3, none⟩ = some v3 ∧ w.cell? ⟨b, 4, none⟩ = some v4 ∧ w.cell? ⟨b, 5, none⟩ = some v5 := by
  refine ⟨?_, ?_, ?_, ?_, ?_, ?_⟩ <;> simp [World.cell?, h]
theorem frozen6 {w : World} {b : Nat} {v0 v1 v2 v3 v4 v5 : Value} {t : TypeId} (h : w.heap[b]? = some (.cells #[v0, v1, v2, v3, v4, v5] t (0, 0))) : w.frozen? ⟨b, 0, none⟩ = false ∧ w.frozen? ⟨b, 1, none⟩ = false ∧ w.frozen? ⟨b, 2, none⟩ = false ∧ w.frozen? ⟨b, 3, none⟩ = false ∧ w.frozen? ⟨b, 4, none⟩ = false ∧ w.frozen? ⟨b, 5, none⟩ = false := by
  refine ⟨?_, ?_, ?_, ?_, ?_, ?_⟩ <;> simp [World.frozen?, h]
theorem sets6 {w : World} {b : Nat} {v0 v1 v2 v3 v4 v5 : Value} {t : TypeId} (h : w.heap[b]? = some (.cells #[v0, v1, v2, v3, v4, v5] t (0, 0))) (u0 u1 u2 u3 u4 u5 : Value) : ((((((w.setCell ⟨b, 0, none⟩ u0).setCell ⟨b, 1, none⟩ u1).setCell ⟨b, 2, none⟩ u2).setCell ⟨b, 3, none⟩ u3).setCell ⟨b, 4, none⟩ u4).setCell ⟨b, 5, none⟩ u5).heap[b]? = some (.cells #[u0, u1, u2, u3, u4, u5] t (0, 0)) := by
  exact set_cell1 5 u5 (set_cell1 4 u4 (set_cell1 3 u3 (set_cell1 2 u2 (set_cell1 1 u1 (set_cell1 0 u0 h)))))
theorem buts6 (g : Nat) (w : World) (u0 u1 u2 u3 u4 u5 : Value) : But g w ((((((w.setCell ⟨g, 0, none⟩ u0).setCell ⟨g, 1, none⟩ u1).setCell ⟨g, 2, none⟩ u2).setCell ⟨g, 3, none⟩ u3).setCell ⟨g, 4, none⟩ u4).setCell ⟨g, 5, none⟩ u5) := (((((But.one g w 0 u0).tr (But.one g _ 1 u1)).tr (But.one g _ 2 u2)).tr (But.one g _ 3 u3)).tr (But.one g _ 4 u4)).tr (But.one g _ 5 u5)
theorem belows6 {B g : Nat} {X w : World} (h : Below B X w) (hg : B ≤ g) (u0 u1 u2 u3 u4 u5 : Value) : Below B X ((((((w.setCell ⟨g, 0, none⟩ u0).setCell ⟨g, 1, none⟩ u1).setCell ⟨g, 2, none⟩ u2).setCell ⟨g, 3, none⟩ u3).setCell ⟨g, 4, none⟩ u4).setCell ⟨g, 5, none⟩ u5) := ((((((h.setCell hg u0).setCell hg u1).setCell hg u2).setCell hg u3).setCell hg u4).setCell hg u5)
theorem allrun {ops : Array Oper} {G : Array (Option Bool)} (h0 : (ops.all fun o => o.guard.isNone) = true) (i : Nat) (h : i < ops.size) : ¬ runs G ops[i] = false := by
  have h1 := Array.all_eq_true.1 h0 i h
  unfold runs
  rw [Option.isNone_iff_eq_none.1 h1]
  exact fun e => Bool.noConfusion e
/-- A variable of the operation p, once it is made, has a place of its own. -/
def One (p B : Nat) (L : Nat → Bool) (f : Nat → Value) (W : World) : Prop := L p = true → ∃ g, f p = .pointer (some ⟨g, 0, none⟩) ∧ B ≤ g ∧ g < W.heap.size
theorem One.loc {p B n : Nat} (hn : p < n) (L L' : Nat → Bool) (f f' : Nat → Value) (w : World) (h1 : ∀ k, k < n → L k = L' k) (h2 : ∀ k, k < n → f k = f' k) (h : One p B L f w) : One p B L' f' w := by
  unfold One at *
  rw [← h1 p hn, ← h2 p hn]
  exact h
theorem One.keep {p B i : Nat} (hp : i ≠ p) {L : Nat → Bool} {f : Nat → Value} {W W' : World} (v : Value) (hs : W.heap.size ≤ W'.heap.size) (h : One p B L f W) : One p B (put L i) (upd f i v) W' := by
  unfold One put upd at *
  rw [if_neg (Ne.symm hp), if_neg (Ne.symm hp)]
  intro hl
  obtain ⟨g, a, b, c⟩ := h hl
  exact ⟨g, a, b, Nat.lt_of_lt_of_le c hs⟩
theorem One.new {p B : Nat} {L : Nat → Bool} {f : Nat → Value} {W W' : World} (hB : B ≤ W.heap.size) (hs : W'.heap.size = W.heap.size + 1) (h : One p B L f W) : One p B (put L p) (upd f p (.pointer (some ⟨W.heap.size, 0, none⟩))) W' := by
  unfold One put upd
  simp only [if_true]
  exact fun _ => ⟨_, rfl, hB, by omega⟩
theorem One.start {p B : Nat} {f : Nat → Value} {W : World} : One p B (fun _ => false) f W := fun h => by cases h
/-- Two variables, once they are made, have places of their own. -/
def Two (p q B : Nat) (L : Nat → Bool) (f : Nat → Value) (W : World) : Prop :=
  (L p = true → ∃ g, f p = .pointer (some ⟨g, 0, none⟩) ∧ B ≤ g ∧ g < W.heap.size) ∧ (L q = true → ∃ g, f q = .pointer (some ⟨g, 0, none⟩) ∧ B ≤ g ∧ g < W.heap.size) ∧ (L p = true → L q = true → f p ≠ f q)
theorem Two.loc {p q B n : Nat} (hp : p < n) (hq : q < n) (L L' : Nat → Bool) (f f' : Nat → Value) (w : World) (h1 : ∀ k, k < n → L k = L' k) (h2 : ∀ k, k < n → f k = f' k) (h : Two p q B L f w) : Two p q B L' f' w := by
  unfold Two at *
  rw [← h1 p hp, ← h1 q hq, ← h2 p hp, ← h2 q hq]
  exact h
theorem Two.keep {p q B i : Nat} (hp : i ≠ p) (hq : i ≠ q) {L : Nat → Bool} {f : Nat → Value} {W W' : World} (v : Value) (hs : W.heap.size ≤ W'.heap.size) (h : Two p q B L f W) : Two p q B (put L i) (upd f i v) W' := by
  unfold Two put upd at *
  rw [if_neg (Ne.symm hp), if_neg (Ne.symm hq), if_neg (Ne.symm hp), if_neg (Ne.symm hq)]
  refine ⟨fun hl => ?_, fun hl => ?_, h.2.2⟩
  · obtain ⟨g, a, b, c⟩ := h.1 hl
    exact ⟨g, a, b, Nat.lt_of_lt_of_le c hs⟩
  · obtain ⟨g, a, b, c⟩ := h.2.1 hl
    exact ⟨g, a, b, Nat.lt_of_lt_of_le c hs⟩
theorem Two.fst {p q B : Nat} (hpq : p ≠ q) {L : Nat → Bool} {f : Nat → Value} {W W' : World} (hB : B ≤ W.heap.size) (hs : W'.heap.size = W.heap.size + 1) (h : Two p q B L f W) : Two p q B (put L p) (upd f p (.pointer (some ⟨W.heap.size, 0, none⟩))) W' := by
  unfold Two put upd at *
  simp only [if_true, Ne.symm hpq, if_false]
  refine ⟨fun _ => ⟨_, rfl, hB, by omega⟩, fun hl => ?_, fun _ hl e => ?_⟩
  · obtain ⟨g, a, b, c⟩ := h.2.1 hl
    exact ⟨g, a, b, by omega⟩
  · obtain ⟨g, a, b, c⟩ := h.2.1 hl
    rw [a] at e
    injection e with e
    injection e with e
    injection e with e
    omega
theorem Two.snd {p q B : Nat} (hpq : p ≠ q) {L : Nat → Bool} {f : Nat → Value} {W W' : World} (hB : B ≤ W.heap.size) (hs : W'.heap.size = W.heap.size + 1) (h : Two p q B L f W) : Two p q B (put L q) (upd f q (.pointer (some ⟨W.heap.size, 0, none⟩))) W' := by
  unfold Two put upd at *
  simp only [if_true, hpq, if_false]
  refine ⟨fun hl => ?_, fun _ => ⟨_, rfl, hB, by omega⟩, fun hl _ e => ?_⟩
  · obtain ⟨g, a, b, c⟩ := h.1 hl
    exact ⟨g, a, b, by omega⟩
  · obtain ⟨g, a, b, c⟩ := h.1 hl
    rw [a] at e
    injection e with e
    injection e with e
    injection e with e
    omega
theorem Two.start {p q B : Nat} {f : Nat → Value} {W : World} : Two p q B (fun _ => false) f W := ⟨fun h => (by cases h), fun h => (by cases h), fun h => (by cases h)⟩
end Go.Proofs.Ytmelgankbegjaaa.Rv

/- Points turned the other way round, in place. Conditions: those written at each lemma. -/
import Derived.Test.YtfelbaibbanllaaGea
set_option linter.unusedVariables false
set_option linter.unusedSimpArgs false
set_option maxRecDepth 100000
set_option maxHeartbeats 8000000
namespace Go.Proofs.Ytfelbaibbanllaa.Ge
open Go.RowKit Go.Proofs.Ytfelbaibbanllaa.B
attribute [local go_sem] run_store_float

theorem own_setcell {W : World} {B : Nat} {e : TypeId} {size n cap g : Nat} {xs : List Value} (h : W.ownsRow B e size (.slice (some ⟨g, 0, none⟩) n cap) n xs) (j : Nat) (hj : j < n * size) (u : Value) :
    (W.setCell ⟨g, j, none⟩ u).ownsRow B e size (.slice (some ⟨g, 0, none⟩) n cap) n (xs.set j u) := by
  refine ⟨by rw [List.length_set]; exact h.1, ?_⟩
  rcases h.2 with ⟨h2, _⟩ | ⟨g', cap', cur, h1, h2, h3, h4, h5, h6, h7⟩
  · cases h2
  · injection h1 with e1 e2 e3
    injection e1 with e1
    injection e1 with e1
    subst e1; subst e3
    refine .inr ⟨g, cap, cur.setIfInBounds j u, rfl, h2, ?_, h4, h5, by simpa using h6, ?_⟩
    · have hlt := lt_of_block h3
      have h' : W.heap[g] = .cells cur e (0, 0) := by simpa [Array.getElem?_eq_getElem hlt] using h3
      show (W.heap.modify g _)[g]? = _
      rw [Array.getElem?_eq_getElem (by simpa using hlt), Array.getElem_modify_self, h']
      rfl
    · rw [Array.toList_setIfInBounds, List.take_set, h7]
theorem pc_set : ∀ (l : List (Nat × Nat)) (i : Nat) (p : Nat × Nat), pc (l.set i p) = ((pc l).set (i * 2) (.float .f64 p.1)).set (i * 2 + 1) (.float .f64 p.2)
  | [], i, p => by simp [pc]
  | q :: l, 0, p => rfl
  | q :: l, i + 1, p => by
    have ih := pc_set l i p
    have e : pc (q :: l) = Value.float .f64 q.1 :: Value.float .f64 q.2 :: pc l := rfl
    have e2 : pc (q :: l.set i p) = Value.float .f64 q.1 :: Value.float .f64 q.2 :: pc (l.set i p) := rfl
    rw [List.set_cons_succ, e, e2, ih, show (i + 1) * 2 = i * 2 + 1 + 1 by omega, show i * 2 + 1 + 1 + 1 = (i * 2 + 1) + 1 + 1 by omega]
    simp
/-- The first i and the last i of n have changed places. -/
def Turned (l l' : List (Nat × Nat)) (i : Nat) : Prop := l'.length = l.length ∧ ∀ t (h : t < l'.length) (h2 : t < l.length), l'[t] = if t < i ∨ l.length - i ≤ t then l[l.length - 1 - t]'(by omega) else l[t]
theorem Turned.start (l : List (Nat × Nat)) : Turned l l 0 := ⟨rfl, fun t h h2 => by rw [if_neg (by omega)]⟩
theorem Turned.done {l l' : List (Nat × Nat)} {i : Nat} (h : Turned l l' i) (hi : l.length ≤ 2 * i + 1) : l' = l.reverse := by
  refine List.ext_getElem (by rw [List.length_reverse]; exact h.1) fun t h1 h2 => ?_
  have h3 : t < l.length := by rw [← h.1]; exact h1
  rw [h.2 t h1 h3, List.getElem_reverse]
  split
  · rfl
  · rename_i hn
    have e : l.length - 1 - t = t := by omega
    simp only [e]
theorem Turned.step {l l' : List (Nat × Nat)} {i j : Nat} (h : Turned l l' i) (hj : j + i + 1 = l.length) (hij : i < j) :
    Turned l ((l'.set i (l'[j]'(by rw [h.1]; omega))).set j (l'[i]'(by rw [h.1]; omega))) (i + 1) := by
  refine ⟨by rw [List.length_set, List.length_set]; exact h.1, fun t h1 h2 => ?_⟩
  have hlt : t < l'.length := by rw [h.1]; exact h2
  have hj2 := h.2 j (by rw [h.1]; omega) (by omega)
  have hi2 := h.2 i (by rw [h.1]; omega) (by omega)
  rw [if_neg (by omega)] at hj2 hi2
  rw [List.getElem_set]
  split
  · rename_i e
    subst e
    rw [if_pos (by omega), hi2]
    congr 1
    omega
  · rw [List.getElem_set]
    split
    · rename_i e
      subst e
      rw [if_pos (by omega), hj2]
      congr 1
      omega
    · rw [h.2 t hlt h2]
      by_cases hc : t < i ∨ l.length - i ≤ t
      · rw [if_pos hc, if_pos (by omega)]
      · rw [if_neg hc, if_neg (by omega)]

theorem turn_any (g cap m B : Nat) (l : List (Nat × Nat)) (w : World) (ho : w.ownsRow B 28 2 (.slice (some ⟨g, 0, none⟩) (m + 1) cap) (m + 1) (pc l)) (hl : l.length = m + 1) (hm : m ≤ 100000) :
    Calls Try.prog 10 #[.slice (some ⟨g, 0, none⟩) (m + 1) cap] w fun e w' => e = .returned (.tuple #[]) ∧ w'.ownsRow B 28 2 (.slice (some ⟨g, 0, none⟩) (m + 1) cap) (m + 1) (pc l.reverse) ∧ Below B w w' := by
  have HO := Lib.hid ho
  have HL := Lib.hid hl
  have hgB : B ≤ g := (ho.lt g rfl).1
  clear ho hl
  go_enter Try.func10, Try.ntmps10
  go_wp2
  go_loopw [2, 3] (fun v2 v3 wr => ∃ (i j : Nat) (l' : List (Nat × Nat)), v2 = .int .i64 i ∧ v3 = .int .i64 j ∧ j + i = m ∧ i ≤ j + 1 ∧ Hid (wr.ownsRow B 28 2 (.slice (some ⟨g, 0, none⟩) (m + 1) cap) (m + 1) (pc l')) ∧ Hid (Turned l l' i) ∧ Hid (Below B w wr)) (fun v2 _ _ => (m - (intOf v2)).toNat)
  case atStart => exact ⟨0, m, l, rfl, rfl, by omega, by omega, HO, Lib.hid (Turned.start l), Lib.hid (Below.refl _ _)⟩
  case round =>
    obtain ⟨i, j, l', rfl, rfl, hij, hle, HOr, HT, HB⟩ := hrel
    by_cases hlt : i < j
    · have hl'l : l'.length = m + 1 := HT.out.1.trans HL.out
      obtain ⟨_, _, e, _, p0, p1⟩ := pc_at (Rd.of_own HOr.out) i (by omega)
      injection e with e
      injection e with e1 e2
      subst e1; subst e2
      obtain ⟨_, _, e, _, q0, q1⟩ := pc_at (Rd.of_own HOr.out) j (by omega)
      injection e with e
      injection e with e1 e2
      subst e1; subst e2
      rw [Nat.zero_add] at p0 p1 q0 q1
      have f0 := HOr.out.frozenAt (i * 2)
      have f1 := HOr.out.frozenAt (i * 2 + 1)
      have f2 := HOr.out.frozenAt (j * 2)
      have f3 := HOr.out.frozenAt (j * 2 + 1)
      have HST := Lib.hid (HT.out.step (j := j) (by rw [HL.out]; omega) hlt)
      have HSET : Hid (∀ p q : Nat × Nat, pc ((l'.set i p).set j q) = ((((pc l').set (i * 2) (.float .f64 p.1)).set (i * 2 + 1) (.float .f64 p.2)).set (j * 2) (.float .f64 q.1)).set (j * 2 + 1) (.float .f64 q.2)) := Lib.hid (fun p q => by rw [pc_set, pc_set])
      have HK := Lib.hid (fun (x0 y0 x1 y1 : Nat) => own_setcell (own_setcell (own_setcell (own_setcell HOr.out (i * 2) (by omega) (.float .f64 x0)) (i * 2 + 1) (by omega) (.float .f64 y0)) (j * 2) (by omega) (.float .f64 x1)) (j * 2 + 1) (by omega) (.float .f64 y1))
      have HBK := Lib.hid (fun (x0 y0 x1 y1 : Nat) => (((HB.out.setCell (p := ⟨g, i * 2, none⟩) hgB (.float .f64 x0)).setCell (p := ⟨g, i * 2 + 1, none⟩) hgB (.float .f64 y0)).setCell (p := ⟨g, j * 2, none⟩) hgB (.float .f64 x1)).setCell (p := ⟨g, j * 2 + 1, none⟩) hgB (.float .f64 y1))
      generalize l'[i]'(by omega) = p at *
      generalize l'[j]'(by omega) = q at *
      obtain ⟨x, y⟩ := p
      obtain ⟨x2, y2⟩ := q
      simp only at p0 p1 q0 q1
      go_wp2
      go_region
      all_goals
        go_wp2
        go_roundw
        case rel => exact ⟨i + 1, j - 1, (l'.set i (x2, y2)).set j (x, y), by go_num, by go_num, by omega, by omega, Lib.hid (by rw [HSET.out]; exact HK.out x2 y2 x y), HST, Lib.hid (HBK.out x2 y2 x y).drew⟩
        case measure => simp [intOf]; omega
    · have HT2 := Lib.hid (HT.out.done (by have := HL.out; omega))
      go_wp2
      first | go_end0 | refine bodyPost_ret (results_none rfl _ _ _) rfl ?_
      exact ⟨rfl, by rw [← HT2.out]; exact HOr.out, HB.out⟩
end Go.Proofs.Ytfelbaibbanllaa.Ge

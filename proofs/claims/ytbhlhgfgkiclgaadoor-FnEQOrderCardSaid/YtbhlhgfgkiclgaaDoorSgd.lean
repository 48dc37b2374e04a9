/- Rows of sets of one word: cells, what is put in, what is taken off. Conditions: those written at each lemma. -/
import Derived.Test.YtbhlhgfgkiclgaaDoorSgc
import Derived.Test.YtbhlhgfgkiclgaaDoorSga
set_option linter.unusedVariables false
set_option linter.unusedSimpArgs false
set_option maxRecDepth 100000
set_option maxHeartbeats 4000000
namespace Go.Proofs.YtbhlhgfgkiclgaaDoor.Set
open Go.RowKit Go.Proofs.YtbhlhgfgkiclgaaDoor.B

theorem info51 : (Tryd.prog.info? 51).map (fun i => (i.zero, i.size, i.bytes)) = some (some (.agg #[.int .u64 0, .pointer none]), 2, 16) := by kernel_rfl
theorem sz51 : ∀ W, (sizeOf 51).run Tryd.prog W = .ok 2 W := fun _ => by kernel_rfl
/-- The cells of sets of one word. -/
def smc : List Nat → List Value
  | [] => []
  | n :: l => .int .u64 n :: .pointer none :: smc l
theorem smc_len : ∀ l : List Nat, (smc l).length = l.length * 2
  | [] => rfl
  | n :: l => by simp [smc, smc_len l]; omega
theorem smc_app : ∀ l m : List Nat, smc (l ++ m) = smc l ++ smc m
  | [], m => rfl
  | n :: l, m => by simp [smc, smc_app l m]
theorem smc_get : ∀ (l : List Nat) (i : Nat) (h : i < l.length), (smc l)[i * 2]? = some (.int .u64 (l[i] : Int)) ∧ (smc l)[i * 2 + 1]? = some (.pointer none)
  | n :: l, 0, _ => ⟨rfl, rfl⟩
  | n :: l, i + 1, h => by
    have ih := smc_get l i (by simpa using h)
    rw [show (i + 1) * 2 = i * 2 + 1 + 1 by omega]
    simp only [smc, List.getElem?_cons_succ, List.getElem_cons_succ]
    exact ih
/-- A block whose first cells are these sets. -/
def Ro (cur : Array Value) (l : List Nat) : Prop := ∀ i (h : i < l.length), cur[i * 2]? = some (.int .u64 (l[i] : Int)) ∧ cur[i * 2 + 1]? = some (.pointer none)
theorem ro_take {cur : Array Value} {l : List Nat} (h : Ro cur l) (hs : l.length * 2 ≤ cur.size) : cur.toList.take (l.length * 2) = smc l := by
  apply List.ext_getElem?
  intro j
  rw [List.getElem?_take]
  split
  · rename_i hj
    rw [Array.getElem?_toList]
    rcases Nat.mod_two_eq_zero_or_one j with h2 | h2
    · have hi : j / 2 < l.length := by omega
      have h3 := (h (j / 2) hi).1
      have h4 := (smc_get l (j / 2) hi).1
      rw [show j / 2 * 2 = j by omega] at h3 h4
      rw [h3, h4]
    · have hi : j / 2 < l.length := by omega
      have h3 := (h (j / 2) hi).2
      have h4 := (smc_get l (j / 2) hi).2
      rw [show j / 2 * 2 + 1 = j by omega] at h3 h4
      rw [h3, h4]
  · rename_i hj
    rw [List.getElem?_eq_none (by rw [smc_len]; omega)]
theorem ro_of_take {cur : Array Value} {l : List Nat} (h : cur.toList.take (l.length * 2) = smc l) : Ro cur l := fun i hi => by
  have h1 := smc_get l i hi
  rw [← h, List.getElem?_take, List.getElem?_take, if_pos (by omega), if_pos (by omega), Array.getElem?_toList, Array.getElem?_toList] at h1
  exact h1
/-- Number i taken out, the last one put in its place. -/
def swapN (L : List Nat) (i : Nat) : List Nat := (L.set i (L[L.length - 1]?.getD 0)).take (L.length - 1)
theorem swapN_len (L : List Nat) (i : Nat) : (swapN L i).length = L.length - 1 := by unfold swapN; simp
theorem swapN_get {L : List Nat} {i j : Nat} (hi : i < L.length) (hj : j < (swapN L i).length) : (swapN L i)[j] = if j = i then L[L.length - 1] else L[j]'(by rw [swapN_len] at hj; omega) := by
  have hj2 := hj
  rw [swapN_len] at hj2
  refine Option.some.inj ((List.getElem?_eq_getElem hj).symm.trans ?_)
  unfold swapN
  rw [List.getElem?_take, if_pos hj2, List.getElem?_set]
  by_cases e : i = j
  · subst e
    rw [if_pos rfl, if_pos hi, if_pos rfl, List.getElem?_eq_getElem (show L.length - 1 < L.length by omega)]
    rfl
  · rw [if_neg e, if_neg (fun h => e h.symm), List.getElem?_eq_getElem (show j < L.length by omega)]
theorem ro_swap {cur : Array Value} {l : List Nat} {i : Nat} (h : Ro cur l) (hi : i < l.length) (hs : l.length * 2 ≤ cur.size) :
    Ro ((cur.setIfInBounds (i * 2) (.int .u64 (l[l.length - 1] : Int))).setIfInBounds (i * 2 + 1) (.pointer none)) (swapN l i) := fun j hj => by
  have hj2 := hj
  rw [swapN_len] at hj2
  rw [swapN_get hi hj]
  by_cases e : j = i
  · subst e
    rw [if_pos rfl, Array.getElem?_setIfInBounds_ne (by omega), Array.getElem?_setIfInBounds_self_of_lt (by omega), Array.getElem?_setIfInBounds_self_of_lt (by simp; omega)]
    exact ⟨rfl, rfl⟩
  · rw [if_neg e, Array.getElem?_setIfInBounds_ne (by omega), Array.getElem?_setIfInBounds_ne (by omega), Array.getElem?_setIfInBounds_ne (by omega), Array.getElem?_setIfInBounds_ne (by omega)]
    exact h j (by omega)
theorem swap_map (l : List Nat) (i : Nat) (hi : i < l.length) : (swapN l i).map bitsL = swapOut (l.map bitsL) i := by
  unfold swapN swapOut
  rw [List.map_take, List.map_set, List.length_map]
  congr 2
  rw [List.getElem?_map, List.getElem?_eq_getElem (show l.length - 1 < l.length by omega)]
  rfl
/-- The sets' variable e, and the row it holds. -/
def Eq (W : World) (B e : Nat) (l : List Nat) : Prop := e < B ∧ ∃ v, W.heap[e]? = some (.cells #[v] 48 (0, 0)) ∧ W.ownsRow B 51 2 v l.length (smc l)
end Go.Proofs.YtbhlhgfgkiclgaaDoor.Set

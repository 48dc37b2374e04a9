/- The law FnEQOrder for whatever argument: a slice of slices of numbers, opened. Conditions: the listed table of math/bits reads as listed. -/
import Derived.Test.YtbhlhgfgkiclgaaDoorSgn
import Derived.Test.YtbhlhgfgkiclgaaDoorSfu
import Derived.Deep.Matrix
import Derived.WalkKit
import Derived.ProofKit
import Derived.OpenShut
import Derived.ChangeOld
import Derived.Below
set_option linter.unusedVariables false
set_option linter.unusedSimpArgs false
set_option maxRecDepth 100000
set_option maxHeartbeats 4000000
namespace Go.Proofs.YtbhlhgfgkiclgaaDoor.Set
open Go.RowKit Go.Proofs.YtbhlhgfgkiclgaaDoor.B Go.ChangeShapes Go.WideShapes Go.ChangeAt

theorem rl_raw {H : Type} {enc : TypeId × Value → H} {W : World} {base : Nat} {v : Value} {d : DataW H} {p : List MemPlace} (hok : Value.okWide Tryd.prog W .any base 29 v) (h : DataW.Trod enc Tryd.prog W 0 (fun _ => true) true 29 v d p) : ∃ ls, RL W v ls := by
  obtain ⟨A0, n0, c0, rfl⟩ := okWide_slice Tryd.underlying29 hok
  obtain ⟨fuel, hf⟩ := h
  rcases Go.Deep.open_int_rows Tryd.underlying29 Tryd.underlying22 Tryd.underlying3 (by kernel_rfl) (by kernel_rfl) hf with ⟨hcs, _⟩ | ⟨a, len, cap, A, L, C, Z, hcs, _, hl, hm, _, hr⟩
  · simp [Value.cells] at hcs
    obtain ⟨rfl, rfl, rfl⟩ := hcs
    exact ⟨[], [], none, 0, rfl, Rd.nil W 1, All1.nil _⟩
  · simp [Value.cells] at hcs
    obtain ⟨rfl, rfl, rfl⟩ := hcs
    have each : ∀ r, r < c0 → IsRow .i64 W (A r) (L r) (C r) (Z r) := fun r hr' => by
      obtain ⟨_, r1, r2, r3, r4, r5, r6⟩ := hr r hr'
      rcases hA : A r with _ | a'
      · have hc0 := r5 hA
        have hz : Z r = [] := List.eq_nil_of_length_eq_zero (by omega)
        exact .inl ⟨rfl, by omega, hc0, hz⟩
      · exact .inr ⟨a', rfl, r1, r2, r3, fun i hi => (r6 a' hA).2 i (by omega), r4⟩
    have hlen : ((List.range n0).map fun r => (Z r).take (L r)).length = n0 := by simp
    refine ⟨(List.range n0).map fun r => (Z r).take (L r), (List.range n0).map fun r => .slice (A r) (L r) (C r), some a, c0, by rw [hlen], ?_, by simp, fun i h1 h2 => ?_⟩
    · rw [hlen]
      refine ⟨by simp, some a, c0, rfl, hl, by simpa [maxLen] using hm, fun hn => ?_⟩
      have h0 := (hr 0 (by omega)).1
      obtain ⟨b, o, sp⟩ := a
      have hsp : sp = none := by simpa [Addr.add] using World.cell?_spot h0
      subst hsp
      refine ⟨b, o, rfl, World.block_lt_of_cell? W _ h0, fun j u hu => ?_⟩
      rw [List.getElem?_map] at hu
      rcases Nat.lt_or_ge j n0 with hj | hj
      · rw [List.getElem?_range hj, Option.map_some] at hu
        injection hu with hu
        rw [← hu, ← add_at]
        exact (hr j (by omega)).1
      · rw [List.getElem?_eq_none (by simpa using hj)] at hu
        cases hu
    · have hi : i < n0 := by simpa using h1
      have hz := (hr i (by omega)).2.2.2.1
      have hL := (hr i (by omega)).2.1
      have hrd := (each i (by omega)).rd.1
      have hl2 : ((Z i).take (L i)).length = L i := by rw [List.length_take, hz]; omega
      rw [List.getElem_map, List.getElem_map, List.getElem_range]
      refine ⟨A i, C i, by rw [hl2], ?_⟩
      rw [hl2]
      exact hrd
theorem tab_of_laid4 {W : World} (h : laidMetH Tryd.prog Rows.fnEQOrderRow.laid W) : Tab W := by
  rw [MakeChecks.laidMetH_plain _ _ _ (by kernel_rfl)] at h
  obtain ⟨ps, ⟨g0, t0, cs0, f0, p0, q0, hg0, ht0, hv0, hd0, _, _⟩, _, _⟩ := h
  obtain rfl := Option.some.inj (gName.symm.trans hg0)
  obtain rfl := Option.some.inj (gType.symm.trans ht0)
  have hc := arr_cells (xs := Lib.deBruijn64tab.map fun n : Nat => (n : Int)) Tryd.underlying76 Tryd.underlying5 (by kernel_rfl) hd0
  have hv := fun i => World.var?_cell hg0 hv0 i
  intro j hj
  have hj' : j < (Lib.deBruijn64tab.map fun n : Nat => (n : Int)).length := by simpa using hj
  rw [hv j, ← Array.getElem?_toList, hc j hj']
  rw [List.getElem_map, List.getD_eq_getElem?_getD, List.getElem?_eq_getElem hj]
  rfl
theorem law4_raw {H : Type} {enc : TypeId × Value → H} {base : Nat} {d : DataW H} {p : List MemPlace} (v : Value) (W : World) (hok : Value.okWide Tryd.prog W .any base 29 v) (h : DataW.Trod enc Tryd.prog W 0 (fun _ => true) true 29 v d p) (hT : Tab W) :
    Calls Tryd.prog 4 #[v] W fun e w' => e = .returned (.bool true) ∧ Below W.heap.size W w' := by
  obtain ⟨ls, hr⟩ := rl_raw hok h
  exact law4_any v ls W hT hr
end Go.Proofs.YtbhlhgfgkiclgaaDoor.Set

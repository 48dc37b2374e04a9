/- The law FnCSAsks for whatever arguments; the listed table of math/bits, opened. Conditions: the table reads as listed. -/
import Derived.Test.YtbhlhgfgkiclgaaDoorSft
import Derived.Test.YtbhlhgfgkiclgaaDoorSez
set_option linter.unusedVariables false
set_option linter.unusedSimpArgs false
set_option maxRecDepth 100000
set_option maxHeartbeats 4000000
namespace Go.Proofs.YtbhlhgfgkiclgaaDoor.Set
open Go.RowKit Go.Proofs.YtbhlhgfgkiclgaaDoor.B

theorem law5_any (A : Option Addr) (len cap : Nat) (zs : List Int) (A2 : Option Addr) (len2 cap2 : Nat) (zs2 : List Int) (f : Int) (w : World) (hr : IsRow .i64 w A len cap zs) (hr2 : IsRow .i64 w A2 len2 cap2 zs2) (wf : (Lit.int .u8 f).wf = true) (hT : Tab w) :
    Calls Tryd.prog 5 #[.slice A len cap, .slice A2 len2 cap2, .int .u8 f] w fun e w' => e = .returned (.bool true) ∧ Below w.heap.size w w' := by
  obtain ⟨rd, _⟩ := hr.rd
  obtain ⟨rd2, _⟩ := hr2.rd
  have hmx := rd.le
  have hmx2 := rd2.le
  have hf := bounds_u8 wf
  by_cases h1 : len ≤ 2147483647
  · by_cases h2 : len2 ≤ 2147483647
    · have hzl : (zs.take len).length = len := by have := rd.len; simpa using this
      have hzl2 : (zs2.take len2).length = len2 := by have := rd2.len; simpa using this
      have h0 : 0 < w.heap.size := World.block_lt_of_cell? w ⟨0, 0, none⟩ (hT 0 (by decide))
      generalize zs.take len = l at *
      generalize zs2.take len2 = m at *
      subst hzl
      subst hzl2
      exact cs_any _ _ l m f w rd rd2 h1 h2 ⟨by omega, by omega⟩ hT h0
    · clear rd rd2 hr hr2 hT wf hf
      go_enter Tryd.func5, Tryd.ntmps5
      go_wp2
      go_ret
      exact ⟨rfl, Below.refl _ _⟩
  · clear rd rd2 hr hr2 hT wf hf
    go_enter Tryd.func5, Tryd.ntmps5
    go_wp2
    go_ret
    exact ⟨rfl, Below.refl _ _⟩
theorem tab_of_laid5 {W : World} (h : laidMetH Tryd.prog Rows.fnCSAsksRow.laid W) : Tab W := by
  rw [MakeChecks.laidMetH_plain _ _ _ (by kernel_rfl)] at h
  obtain ⟨ps, ⟨g0, t0, cs0, f0, p0, q0, hg0, ht0, hv0, hd0, _, _⟩, _, _⟩ := h
  obtain rfl := Option.some.inj (gName.symm.trans hg0)
  obtain rfl := Option.some.inj (gType.symm.trans ht0)
  have hc := arr_cells (xs := Lib.deBruijn64tab.map fun n : Nat => (n : Int)) Tryd.underlying76 Tryd.underlying5 (by kernel_rfl) hd0
  have hv := fun i => World.var?_cell hg0 hv0 i
  intro j hj
  have hj' : j < (Lib.deBruijn64tab.map fun n : Nat => (n : Int)).length := by simpa using hj
  rw [hv j, ← Array.getElem?_toList, hc j hj']
  rw [List.getElem_map, List.getD_eq_getElem?_getD, List.getElem?_eq_getElem hj]
  rfl

end Go.Proofs.YtbhlhgfgkiclgaaDoor.Set

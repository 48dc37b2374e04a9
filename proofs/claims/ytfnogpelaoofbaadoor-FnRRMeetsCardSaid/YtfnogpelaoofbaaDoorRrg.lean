/- Lists of ranges that come in, opened; the law FnRRMeets over arguments as they are read. Conditions: those written at each lemma. -/
import Derived.Test.YtfnogpelaoofbaaDoorRrf
import Derived.Test.YtfnogpelaoofbaaDoorOvh
import Derived.Deep.Slices
import Derived.ProofKit
import Derived.OpenShut
import Derived.ChangeOld
set_option linter.unusedVariables false
set_option linter.unusedSimpArgs false
set_option maxRecDepth 100000
set_option maxHeartbeats 4000000
namespace Go.Proofs.YtfnogpelaoofbaaDoor.Rg
open Go.ChangeShapes Go.WideShapes Go.ChangeAt Go.RowKit Go.Proofs.YtfnogpelaoofbaaDoor.B Go.Proofs.YtfnogpelaoofbaaDoor.Sp

instance : Inhabited Cl := ⟨⟨0, 0, 0, 0⟩⟩
section
variable {H : Type} {enc : TypeId × Value → H} {W : World} {base : Nat} {held : Bool}
theorem clc_at (c : Nat → Cl) : ∀ (n j : Nat) (u : Value), (clc ((List.range n).map c))[j]? = some u → j / 4 < n ∧ ([.int .i64 (c (j / 4)).a, .int .i64 (c (j / 4)).x, .int .i64 (c (j / 4)).b, .int .i64 (c (j / 4)).y] : List Value)[j % 4]? = some u := by
  intro n j u hu
  have hl : (clc ((List.range n).map c)).length = n * 4 := by rw [clc_len]; simp
  have hj : j < n * 4 := by
    rcases Nat.lt_or_ge j (n * 4) with h | h
    · exact h
    · rw [List.getElem?_eq_none (by omega)] at hu; cases hu
  have hk : j / 4 < n := by omega
  refine ⟨hk, ?_⟩
  obtain ⟨g0, g1, g2, g3⟩ := clc_get ((List.range n).map c) (j / 4) (by simpa using hk)
  simp only [List.getElem_map, List.getElem_range] at g0 g1 g2 g3
  have h4 : j % 4 = 0 ∨ j % 4 = 1 ∨ j % 4 = 2 ∨ j % 4 = 3 := by omega
  rcases h4 with h4 | h4 | h4 | h4 <;> rw [h4]
  · rw [show j = j / 4 * 4 by omega] at hu; rw [g0] at hu; exact hu
  · rw [show j = j / 4 * 4 + 1 by omega] at hu; rw [g1] at hu; exact hu
  · rw [show j = j / 4 * 4 + 2 by omega] at hu; rw [g2] at hu; exact hu
  · rw [show j = j / 4 * 4 + 3 by omega] at hu; rw [g3] at hu; exact hu
theorem cols_raw {fuel : Nat} {v : Value} {x : DataW H × List MemPlace} (h : DataW.trod enc Tryd.prog W base (fun _ => true) held fuel 28 [v] = some x) : ∃ l, R1 W v l := by
  rcases Go.Deep.open_slice Tryd.underlying28 h with ⟨hcs, _⟩ | ⟨a, len, cap, m, n, D, Pl, hcs, _, hl, hm, hmm, _, hx⟩
  · injection hcs with hv
    subst hv
    exact ⟨[], none, 0, rfl, Rd.nil W 4⟩
  · injection hcs with hv
    subst hv
    rw [if_pos rfl] at hmm
    subst hmm
    rw [show Tryd.prog.cellsOf 27 = 4 by kernel_rfl] at hx
    obtain ⟨c, hc⟩ := Go.Deep.choose_lt (α := Cl) (p := fun i c => W.cells? base (a.add (i * 4)) 4 = some [.int .i64 c.a, .int .i64 c.x, .int .i64 c.b, .int .i64 c.y]) (fun i hi => by
      obtain ⟨cs', h1, h2⟩ := hx i hi
      obtain ⟨c, rfl⟩ := trod_col h2
      exact ⟨c, h1⟩)
    have hlen : ((List.range len).map c).length = len := by simp
    refine ⟨(List.range len).map c, some a, m, by rw [hlen], ?_⟩
    rw [hlen]
    refine ⟨by rw [clc_len, hlen], some a, m, rfl, hl, by simpa [maxLen] using hm, fun hn => ?_⟩
    have h0 := (World.cells?_some (hc 0 (by omega))).2.2 0 (by omega)
    obtain ⟨b, o, sp⟩ := a
    have hsp : sp = none := by simpa [Addr.add] using World.cell?_spot h0
    subst hsp
    rw [add_at, add_at] at h0
    refine ⟨b, o, rfl, World.block_lt_of_cell? W _ h0, fun j u hu => ?_⟩
    obtain ⟨hk, h4⟩ := clc_at c len j u hu
    have h := (World.cells?_some (hc (j / 4) (by omega))).2.2 (j % 4) (by omega)
    rw [h4, add_at, add_at, show o + j / 4 * 4 + j % 4 = o + j by omega] at h
    exact h
theorem rows_raw {b0 : Nat} {v : Value} {d : DataW H} {p : List MemPlace} (hok : Value.okWide Tryd.prog W .any b0 46 v) (h : DataW.Trod enc Tryd.prog W 0 (fun _ => true) true 46 v d p) : ∃ ls, RL W v ls := by
  obtain ⟨A0, n0, c0, rfl⟩ := okWide_slice Tryd.underlying46 hok
  obtain ⟨fuel, hf⟩ := h
  rcases Go.Deep.open_slice1 Tryd.underlying46 (by kernel_rfl) hf with ⟨hcs, _⟩ | ⟨a, len, cap, m, n, V, D, Pl, hcs, _, hl, hm, hmm, _, hx⟩
  · simp [Value.cells] at hcs
    obtain ⟨rfl, rfl, rfl⟩ := hcs
    exact ⟨[], [], none, 0, rfl, Rd.nil W 1, All1.nil _⟩
  · simp [Value.cells] at hcs
    obtain ⟨rfl, rfl, rfl⟩ := hcs
    rw [if_pos rfl] at hmm
    subst hmm
    obtain ⟨L, hL⟩ := Go.Deep.choose_lt (α := List Cl) (p := fun i l => R1 W (V i) l) (fun i hi => cols_raw (hx i hi).2)
    have hlen : ((List.range n0).map L).length = n0 := by simp
    refine ⟨(List.range n0).map L, (List.range n0).map V, some a, m, by rw [hlen], ?_, by simp, fun i h1 h2 => ?_⟩
    · rw [hlen]
      refine ⟨by simp, some a, m, rfl, hl, by simpa [maxLen] using hm, fun hn => ?_⟩
      have h0 := (hx 0 (by omega)).1
      obtain ⟨b, o, sp⟩ := a
      have hsp : sp = none := by simpa [Addr.add] using World.cell?_spot h0
      subst hsp
      refine ⟨b, o, rfl, World.block_lt_of_cell? W _ h0, fun j u hu => ?_⟩
      rw [List.getElem?_map] at hu
      rcases Nat.lt_or_ge j n0 with hj | hj
      · rw [List.getElem?_range hj, Option.map_some] at hu
        injection hu with hu
        rw [← hu, ← add_at]
        exact (hx j (by omega)).1
      · rw [List.getElem?_eq_none (by simpa using hj)] at hu
        cases hu
    · rw [List.getElem_map, List.getElem_map, List.getElem_range]
      exact hL i (by have := h1; simp at this; omega)
theorem law7_raw {b0 : Nat} {d : DataW H} {p : List MemPlace} (v : Value) (cc : Int) (W : World) (hok : Value.okWide Tryd.prog W .any b0 46 v) (h : DataW.Trod enc Tryd.prog W 0 (fun _ => true) true 46 v d p) (hc : (Lit.int .u8 cc).wf = true) (hT : True) :
    Calls Tryd.prog 7 #[v, .int .u8 cc] W fun e w' => e = .returned (.bool true) ∧ Below W.heap.size W w' := by
  obtain ⟨ls, hr⟩ := rows_raw hok h
  obtain ⟨h0, h1⟩ := bounds_u8 hc
  exact law7 v ls cc W hr h0 h1
end
end Go.Proofs.YtfnogpelaoofbaaDoor.Rg

/- Positions and ranges of a column: the walks of the thin package's conversions and of the comparisons. Conditions: those written at each lemma. -/
import Derived.Test.YtfnogpelaoofbaaGreatDoorProg
import Derived.Test.YtfnogpelaoofbaaGreatDoorBase
set_option linter.unusedVariables false
set_option linter.unusedSimpArgs false
set_option maxRecDepth 100000
set_option maxHeartbeats 20000000
namespace Go.Proofs.YtfnogpelaoofbaaGreatDoor.Rg
open Go.RowKit Go.Proofs.YtfnogpelaoofbaaGreatDoor.B

/-- A position. -/
inductive Ct where
  | bn | an | bl (k : Int) | ab (k : Int) | aa
def Ct.v : Ct → Value
  | .bn => .iface 151 (.agg #[])
  | .an => .iface 152 (.agg #[])
  | .bl k => .iface 154 (.agg #[.iface 2 (.int .i64 k)])
  | .ab k => .iface 155 (.agg #[.iface 2 (.int .i64 k)])
  | .aa => .iface 156 (.agg #[])
theorem Ct.cells (a : Ct) : a.v.cells = #[a.v] := by cases a <;> rfl
theorem Ct.one (a : Ct) : a.v.oneCell' = true := by cases a <;> rfl
def ctOf (kind key : Int) : Ct := if kind = 0 then .bn else if kind = 1 then .an else if kind = 2 then .bl key else if kind = 3 then .ab key else .aa
abbrev cutV (kind key : Int) : Value := .agg #[.int .i64 kind, .int .i64 key]
abbrev tv : Value := .iface 135 (.agg #[])
abbrev exV (a b : Ct) : Value := .agg #[a.v, b.v, tv]

theorem cut_any (kind key : Int) (w : World) (h0 : 0 ≤ kind) (h4 : kind ≤ 4) : Calls Tryz.prog 68 #[cutV kind key] w fun e w' => e = .returned (ctOf kind key).v ∧ Below w.heap.size w w' := by
  have : kind = 0 ∨ kind = 1 ∨ kind = 2 ∨ kind = 3 ∨ kind = 4 := by omega
  rcases this with rfl | rfl | rfl | rfl | rfl
  all_goals
    go_enter Tryz.func68, Tryz.ntmps68
    go_wp2
    go_ret
    exact ⟨rfl, (Below.refl _ _).alloc (Nat.le_refl _) _⟩

/-- What stands in a cell. -/
@[irreducible] def cv (W : World) (p : Addr) : Value := (W.cell? p).getD .nilIface
theorem cv_some {W : World} {p : Addr} {v : Value} (h : W.cell? p = some v) : W.cell? p = some (cv W p) := by unfold cv; rw [h]; rfl
abbrev SE (B : Nat) (k1 x1 k2 x2 : Int) (W : World) : Prop :=
  W.cell? ⟨B, 0, none⟩ = some (.int .i64 k1) ∧ W.cell? ⟨B, 1, none⟩ = some (.int .i64 x1) ∧ W.cell? ⟨B, 2, none⟩ = some (.int .i64 k2) ∧ W.cell? ⟨B, 3, none⟩ = some (.int .i64 x2) ∧ B + 1 < W.heap.size ∧
  W.cell? ⟨B + 1, 0, none⟩ = some (cv W ⟨B + 1, 0, none⟩) ∧ W.cell? ⟨B + 1, 1, none⟩ = some (cv W ⟨B + 1, 1, none⟩) ∧ W.cell? ⟨B + 1, 2, none⟩ = some (cv W ⟨B + 1, 2, none⟩) ∧ W.frozen? ⟨B + 1, 0, none⟩ = false ∧ W.frozen? ⟨B + 1, 1, none⟩ = false ∧ W.frozen? ⟨B + 1, 2, none⟩ = false
theorem keepE {B : Nat} {k1 x1 k2 x2 : Int} {W w' : World} (hb : Below W.heap.size W w') (h : SE B k1 x1 k2 x2 W) : SE B k1 x1 k2 x2 w' := by
  obtain ⟨c0, c1, c2, c3, hB, d0, d1, d2, f0, f1, f2⟩ := h
  exact ⟨cell_below hb c0, cell_below hb c1, cell_below hb c2, cell_below hb c3, by have := hb.size; omega, cv_some (cell_below hb d0), cv_some (cell_below hb d1), cv_some (cell_below hb d2),
    (hb.frozen (p := ⟨B + 1, 0, none⟩) hB).trans f0, (hb.frozen (p := ⟨B + 1, 1, none⟩) hB).trans f1, (hb.frozen (p := ⟨B + 1, 2, none⟩) hB).trans f2⟩

theorem storeE {B : Nat} {k1 x1 k2 x2 : Int} {W : World} {a b c : Value} (h : SE B k1 x1 k2 x2 W) : SE B k1 x1 k2 x2 (((W.setCell ⟨B + 1, 0, none⟩ a).setCell ⟨B + 1, 1, none⟩ b).setCell ⟨B + 1, 2, none⟩ c) := by
  obtain ⟨c0, c1, c2, c3, hB, d0, d1, d2, f0, f1, f2⟩ := h
  refine ⟨?_, ?_, ?_, ?_, ?_, ?_, ?_, ?_, ?_, ?_, ?_⟩
  all_goals first | (go_simp; done) | (simp; done) | (simp; assumption) | (refine cv_some (v := a) ?_; first | (go_simp; done) | (simp; done)) | (refine cv_some (v := b) ?_; first | (go_simp; done) | (simp; done)) | (refine cv_some (v := c) ?_; first | (go_simp; done) | (simp; done))

theorem expr_any (k1 x1 k2 x2 : Int) (w : World) (h1 : 0 ≤ k1) (h2 : k1 ≤ 4) (h3 : 0 ≤ k2) (h4 : k2 ≤ 4) : Calls Tryz.prog 47 #[.agg #[.int .i64 k1, .int .i64 x1, .int .i64 k2, .int .i64 x2]] w
    fun e w' => e = .returned (exV (ctOf k1 x1) (ctOf k2 x2)) ∧ Below w.heap.size w w' := by
  have C1 := fun W => cut_any k1 x1 W h1 h2
  have C2 := fun W => cut_any k2 x2 W h3 h4
  generalize ctOf k1 x1 = a at *
  generalize ctOf k2 x2 = b at *
  have hS : SE w.heap.size k1 x1 k2 x2 ((w.alloc (.cells #[.int .i64 k1, .int .i64 x1, .int .i64 k2, .int .i64 x2] 54)).alloc (.cells #[.nilIface, .nilIface, .nilIface] 92)).drew := by
    refine ⟨?_, ?_, ?_, ?_, ?_, ?_, ?_, ?_, ?_, ?_, ?_⟩
    all_goals first | (go_simp; done) | (simp; done) | (refine cv_some (v := .nilIface) ?_; first | (go_simp; done) | (simp; done))
  cases a <;> cases b
  all_goals
    simp only [Ct.v] at C1 C2
    go_enter Tryz.func47, Tryz.ntmps47
    go_wp2
    go_region_held3 (fun W => SE w.heap.size k1 x1 k2 x2 W) (first | assumption | (refine keepE hb1 ?_; assumption) | (refine keepE hb2 ?_; assumption) | (refine storeE ?_; assumption)) (first
      | (go_at_call 68; (with_reducible refine (C1 _).mono ?_); rintro e w1 ⟨rfl, hb1⟩)
      | (go_at_call 68; (with_reducible refine (C2 _).mono ?_); rintro e w2 ⟨rfl, hb2⟩))
    go_wp2
    rename_i hHd
    clear hHd
    have hW := keepE hb2 (keepE hb1 hS)
    obtain ⟨c0, c1, c2, c3, hB, d0, d1, d2, f0, f1, f2⟩ := hW
    (try simp only [Exit.inBlock, Exit.then])
    refine bodyPost_ret (v := exV _ _) ?_ rfl ⟨rfl, ?_⟩
    · simp only [results, show Tryz.f47.results = #[.cell 2 92] by kernel_rfl]
      go_simp
      simp [Ct.v]
    · have g1 := hb1.size
      have g0 : w.heap.size ≤ ((w.alloc (.cells #[.int .i64 k1, .int .i64 x1, .int .i64 k2, .int .i64 x2] 54)).alloc (.cells #[.nilIface, .nilIface, .nilIface] 92)).drew.heap.size := by first | (go_simp; done) | (go_simp; omega)
      have e0 : Below w.heap.size w ((w.alloc (.cells #[.int .i64 k1, .int .i64 x1, .int .i64 k2, .int .i64 x2] 54)).alloc (.cells #[.nilIface, .nilIface, .nilIface] 92)).drew := (((Below.refl w.heap.size w).alloc (Nat.le_refl _) _).alloc (by first | (go_simp; done) | (go_simp; omega)) _).drew
      have e2 := (e0.trans (hb1.mono g0)).trans (hb2.mono (Nat.le_trans g0 g1))
      exact ((e2.setCell (Nat.le_succ _) _).setCell (Nat.le_succ _) _).setCell (Nat.le_succ _) _

end Go.Proofs.YtfnogpelaoofbaaGreatDoor.Rg

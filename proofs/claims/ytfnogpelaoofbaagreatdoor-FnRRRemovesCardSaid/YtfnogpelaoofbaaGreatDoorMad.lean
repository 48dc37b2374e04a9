/- FnRGMade: ranges made of keys, as the thin package's. Conditions: those written at each lemma. -/
import Derived.Test.YtfnogpelaoofbaaGreatDoorCon
set_option linter.unusedVariables false
set_option linter.unusedSimpArgs false
set_option maxRecDepth 100000
set_option maxHeartbeats 4000000
namespace Go.Proofs.YtfnogpelaoofbaaGreatDoor.Rg
open Go.RowKit Go.Proofs.YtfnogpelaoofbaaGreatDoor.B

abbrev zeC : Obj := .cells #[.int .i64 0, .int .i64 0, .int .i64 0, .int .i64 0] 54
abbrev SC (B : Nat) (ta : TypeId) (ai : Value) (tb : TypeId) (bi : Value) (W : World) : Prop :=
  W.cell? ⟨B, 0, none⟩ = some (.iface ta ai) ∧ W.cell? ⟨B, 1, none⟩ = some (.iface tb bi) ∧ B + 1 < W.heap.size ∧
  W.cell? ⟨B + 1, 0, none⟩ = some (cv W ⟨B + 1, 0, none⟩) ∧ W.cell? ⟨B + 1, 1, none⟩ = some (cv W ⟨B + 1, 1, none⟩) ∧ W.cell? ⟨B + 1, 2, none⟩ = some (cv W ⟨B + 1, 2, none⟩) ∧ W.cell? ⟨B + 1, 3, none⟩ = some (cv W ⟨B + 1, 3, none⟩) ∧
  W.frozen? ⟨B + 1, 0, none⟩ = false ∧ W.frozen? ⟨B + 1, 1, none⟩ = false ∧ W.frozen? ⟨B + 1, 2, none⟩ = false ∧ W.frozen? ⟨B + 1, 3, none⟩ = false
theorem keepC {B : Nat} {ta tb : TypeId} {ai bi : Value} {W w' : World} (hb : Below W.heap.size W w') (h : SC B ta ai tb bi W) : SC B ta ai tb bi w' := by
  obtain ⟨c0, c1, hB, d0, d1, d2, d3, f0, f1, f2, f3⟩ := h
  exact ⟨cell_below hb c0, cell_below hb c1, by have := hb.size; omega, cv_some (cell_below hb d0), cv_some (cell_below hb d1), cv_some (cell_below hb d2), cv_some (cell_below hb d3),
    (hb.frozen (p := ⟨B + 1, 0, none⟩) hB).trans f0, (hb.frozen (p := ⟨B + 1, 1, none⟩) hB).trans f1, (hb.frozen (p := ⟨B + 1, 2, none⟩) hB).trans f2, (hb.frozen (p := ⟨B + 1, 3, none⟩) hB).trans f3⟩
theorem storeC {B : Nat} {ta tb : TypeId} {ai bi : Value} {W : World} {a b c d : Value} (h : SC B ta ai tb bi W) :
    SC B ta ai tb bi ((((W.setCell ⟨B + 1, 0, none⟩ a).setCell ⟨B + 1, 1, none⟩ b).setCell ⟨B + 1, 2, none⟩ c).setCell ⟨B + 1, 3, none⟩ d) := by
  obtain ⟨c0, c1, hB, d0, d1, d2, d3, f0, f1, f2, f3⟩ := h
  refine ⟨?_, ?_, ?_, ?_, ?_, ?_, ?_, ?_, ?_, ?_, ?_⟩
  all_goals first | (go_simp; done) | (simp; done) | (simp; assumption) | (refine cv_some (v := a) ?_; first | (go_simp; done) | (simp; done)) | (refine cv_some (v := b) ?_; first | (go_simp; done) | (simp; done)) | (refine cv_some (v := c) ?_; first | (go_simp; done) | (simp; done)) | (refine cv_some (v := d) ?_; first | (go_simp; done) | (simp; done))
theorem startC (ta tb : TypeId) (ai bi : Value) (w : World) : SC w.heap.size ta ai tb bi ((w.alloc (exC ta ai tb bi)).alloc zeC).drew := by
  refine ⟨?_, ?_, ?_, ?_, ?_, ?_, ?_, ?_, ?_, ?_, ?_⟩
  all_goals first | (go_simp; done) | (simp; done) | (refine cv_some (v := .int .i64 0) ?_; first | (go_simp; done) | (simp; done))

theorem col_gen {ta tb : TypeId} {ai bi : Value} {k1 x1 k2 x2 : Int} (w : World)
    (C1 : ∀ W, Calls Tryz.prog 76 #[.iface ta ai] W fun e w' => e = .returned (cutV k1 x1) ∧ Below W.heap.size W w')
    (C2 : ∀ W, Calls Tryz.prog 76 #[.iface tb bi] W fun e w' => e = .returned (cutV k2 x2) ∧ Below W.heap.size W w') :
    Calls Tryz.prog 55 #[exI ta ai tb bi] w fun e w' => e = .returned (colV k1 x1 k2 x2) ∧ Below w.heap.size w w' := by
  have hS := startC ta tb ai bi w
  have B0 : Below w.heap.size w ((w.alloc (exC ta ai tb bi)).alloc zeC).drew := by go_grown
  have hM := Lib.hid (And.intro hS B0)
  clear B0
  go_enter Tryz.func55, Tryz.ntmps55
  go_wp2
  go_region_held3 (fun W => SC w.heap.size ta ai tb bi W) (first | assumption | (refine keepC hb1 ?_; assumption) | (refine keepC hb2 ?_; assumption) | (refine storeC ?_; assumption)) (first
    | ((with_reducible refine (C1 _).mono ?_); rintro e w1 ⟨rfl, hb1⟩)
    | ((with_reducible refine (C2 _).mono ?_); rintro e w2 ⟨rfl, hb2⟩))
  go_wp2
  rename_i hHd
  clear hHd
  have hW := keepC hb2 (keepC hb1 hS)
  obtain ⟨c0, c1, hB, d0, d1, d2, d3, f0, f1, f2, f3⟩ := hW
  (try simp only [Exit.inBlock, Exit.then])
  refine bodyPost_ret (v := colV _ _ _ _) ?_ rfl ⟨rfl, ?_⟩
  · simp only [results, show Tryz.f55.results = #[.cell 2 54] by kernel_rfl]
    go_simp
  · have e2 := (hM.out.2.trans (hb1.mono hM.out.2.size)).trans (hb2.mono (Nat.le_trans hM.out.2.size hb1.size))
    exact (((e2.setCell (Nat.le_succ _) _).setCell (Nat.le_succ _) _).setCell (Nat.le_succ _) _).setCell (Nat.le_succ _) _
theorem col_any (a b : Ct) (w : World) : Calls Tryz.prog 55 #[exV a b] w fun e w' => e = .returned (colV a.kind a.key b.kind b.key) ∧ Below w.heap.size w w' := by
  rw [ex_eq]
  exact col_gen w (fun W => by rw [← Ct.v_eq]; exact cutOf_any a W) (fun W => by rw [← Ct.v_eq]; exact cutOf_any b W)

abbrev SK (B : Nat) (W : World) : Prop := W.cell? ⟨B, 0, none⟩ = some (.bool false) ∧ W.frozen? ⟨B, 0, none⟩ = false ∧ B < W.heap.size
theorem keepK {B : Nat} {W w' : World} (hb : Below W.heap.size W w') (h : SK B W) : SK B w' :=
  ⟨cell_below hb h.1, (hb.frozen (p := ⟨B, 0, none⟩) h.2.2).trans h.2.1, Nat.lt_of_lt_of_le h.2.2 hb.size⟩
abbrev coC (k1 x1 k2 x2 : Int) : Obj := .cells #[.int .i64 k1, .int .i64 x1, .int .i64 k2, .int .i64 x2] 54
abbrev fbC : Obj := .cells #[.bool false] 4
theorem startK (o : Obj) (w : World) : SK (w.heap.size + 1) ((w.alloc o).alloc fbC) ∧ Below w.heap.size w ((w.alloc o).alloc fbC) := by
  refine ⟨⟨?_, ?_, ?_⟩, ?_⟩
  all_goals first | (go_simp; done) | (simp; done) | (go_grown; done) | (go_simp; omega)
abbrev SZ (B : Nat) (W : World) : Prop := W.cell? ⟨B, 0, none⟩ = some (.int .i64 0) ∧ W.cell? ⟨B, 1, none⟩ = some (.int .i64 0) ∧ W.cell? ⟨B, 2, none⟩ = some (.int .i64 0) ∧ W.cell? ⟨B, 3, none⟩ = some (.int .i64 0) ∧
  W.frozen? ⟨B, 0, none⟩ = false ∧ W.frozen? ⟨B, 1, none⟩ = false ∧ W.frozen? ⟨B, 2, none⟩ = false ∧ W.frozen? ⟨B, 3, none⟩ = false ∧ B < W.heap.size
theorem keepZ {B : Nat} {W w' : World} (hb : Below W.heap.size W w') (h : SZ B W) : SZ B w' := by
  obtain ⟨c0, c1, c2, c3, f0, f1, f2, f3, hB⟩ := h
  exact ⟨cell_below hb c0, cell_below hb c1, cell_below hb c2, cell_below hb c3, (hb.frozen (p := ⟨B, 0, none⟩) hB).trans f0, (hb.frozen (p := ⟨B, 1, none⟩) hB).trans f1, (hb.frozen (p := ⟨B, 2, none⟩) hB).trans f2, (hb.frozen (p := ⟨B, 3, none⟩) hB).trans f3, Nat.lt_of_lt_of_le hB hb.size⟩
theorem startZ (w : World) : SZ w.heap.size (w.alloc zeC) ∧ Below w.heap.size w (w.alloc zeC) := by
  refine ⟨⟨?_, ?_, ?_, ?_, ?_, ?_, ?_, ?_, ?_⟩, ?_⟩
  all_goals first | (go_simp; done) | (simp; done) | (go_grown; done) | (go_simp; omega)
theorem keepZB {B : Nat} {w W w' : World} (hb : Below W.heap.size W w') (h : SZ B W ∧ Below B w W) : SZ B w' ∧ Below B w w' := ⟨keepZ hb h.1, h.2.trans (hb.mono (Nat.le_of_lt h.1.2.2.2.2.2.2.2.2))⟩
end Go.Proofs.YtfnogpelaoofbaaGreatDoor.Rg

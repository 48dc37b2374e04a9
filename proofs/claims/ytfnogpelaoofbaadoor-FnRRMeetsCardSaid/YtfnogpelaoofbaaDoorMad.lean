/- FnRGMade: ranges made of keys, as the thin package's. Conditions: those written at each lemma. -/
import Derived.Test.YtfnogpelaoofbaaDoorCon
set_option linter.unusedVariables false
set_option linter.unusedSimpArgs false
set_option maxRecDepth 100000
set_option maxHeartbeats 4000000
namespace Go.Proofs.YtfnogpelaoofbaaDoor.Rg
open Go.RowKit Go.Proofs.YtfnogpelaoofbaaDoor.B

abbrev zeC : Obj := .cells #[.int .i64 0, .int .i64 0, .int .i64 0, .int .i64 0] 27
abbrev SC (B : Nat) (ta : TypeId) (ai : Value) (tb : TypeId) (bi : Value) (W : World) : Prop :=
  W.cell? ⟨B, 0, none⟩ = some (.iface ta ai) ∧ W.cell? ⟨B, 1, none⟩ = some (.iface tb bi) ∧ B + 1 < W.heap.size ∧
  W.cell? ⟨B + 1, 0, none⟩ = some (cv W ⟨B + 1, 0, none⟩) ∧ W.cell? ⟨B + 1, 1, none⟩ = some (cv W ⟨B + 1, 1, none⟩) ∧ W.cell? ⟨B + 1, 2, none⟩ = some (cv W ⟨B + 1, 2, none⟩) ∧ W.cell? ⟨B + 1, 3, none⟩ = some (cv W ⟨B + 1, 3, none⟩) ∧
  W.frozen? ⟨B + 1, 0, none⟩ = false ∧ W.frozen? ⟨B + 1, 1, none⟩ = false ∧ W.frozen? ⟨B + 1, 2, none⟩ = false ∧ W.frozen? ⟨B + 1, 3, none⟩ = false
theorem keepC {B : Nat} {ta tb : TypeId} {ai bi : Value} {W w' : World} (hb : Below W.heap.size W w') (h : SC B ta ai tb bi W) : SC B ta ai tb bi w' := by
  obtain ⟨c0, c1, hB, d0, d1, d2, d3, f0, f1, f2, f3⟩ := h
  exact ⟨cell_below hb c0, cell_below hb c1, by have := hb.size; omega, cv_some (cell_below hb d0), cv_some (cell_below hb d1), cv_some (cell_below hb d2), cv_some (cell_below hb d3),
    (hb.frozen (p := ⟨B + 1, 0, none⟩) hB).trans f0, (hb.frozen (p := ⟨B + 1, 1, none⟩) hB).trans f1, (hb.frozen (p := ⟨B + 1, 2, none⟩) hB).trans f2, (hb.frozen (p := ⟨B + 1, 3, none⟩) hB).trans f3⟩
theorem storeC {B : Nat} {ta tb : TypeId} {ai bi : Value} {W : World} {a b c d : Value} (h : SC B ta ai tb bi W) :
    SC B ta ai tb bi ((((W.setCell ⟨B + 1, 0, none⟩ a).setCell ⟨B + 1, 1, none⟩ b).setCell ⟨B + 1, 2, none⟩ c).setCell ⟨B + 1, 3, none⟩ d) := by
  obtain ⟨c0, c1, hB, d0, d1, d2, d3, f0, f1, f2, f3⟩ := h
  refine ⟨?_, ?_, ?_, ?_, ?_, ?_, ?_, ?_, ?_, ?_, ?_⟩
  all_goals first | (go_simp; done) | (simp; done) | (simp; assumption) | (refine cv_some (v := a) ?_; first | (go_simp; done) | (simp; done)) | (refine cv_some (v := b) ?_; first | (go_simp; done) | (simp; done)) | (refine cv_some (v := c) ?_; first | (go_simp; done) | (simp; done)) | (refine cv_some (v := d) ?_; first | (go_simp; done) | (simp; done))
theorem startC (ta tb : TypeId) (ai bi : Value) (w : World) : SC w.heap.size ta ai tb bi ((w.alloc (exC ta ai tb bi)).alloc zeC).drew := by
  refine ⟨?_, ?_, ?_, ?_, ?_, ?_, ?_, ?_, ?_, ?_, ?_⟩
  all_goals first | (go_simp; done) | (simp; done) | (refine cv_some (v := .int .i64 0) ?_; first | (go_simp; done) | (simp; done))

theorem col_gen {ta tb : TypeId} {ai bi : Value} {k1 x1 k2 x2 : Int} (w : World)
    (C1 : ∀ W, Calls Tryd.prog 62 #[.iface ta ai] W fun e w' => e = .returned (cutV k1 x1) ∧ Below W.heap.size W w')
    (C2 : ∀ W, Calls Tryd.prog 62 #[.iface tb bi] W fun e w' => e = .returned (cutV k2 x2) ∧ Below W.heap.size W w') :
    Calls Tryd.prog 36 #[exI ta ai tb bi] w fun e w' => e = .returned (colV k1 x1 k2 x2) ∧ Below w.heap.size w w' := by
  have hS := startC ta tb ai bi w
  have B0 : Below w.heap.size w ((w.alloc (exC ta ai tb bi)).alloc zeC).drew := by go_grown
  have hM := Lib.hid (And.intro hS B0)
  clear B0
  go_enter Tryd.func36, Tryd.ntmps36
  go_wp2
  go_region_held3 (fun W => SC w.heap.size ta ai tb bi W) (first | assumption | (refine keepC hb1 ?_; assumption) | (refine keepC hb2 ?_; assumption) | (refine storeC ?_; assumption)) (first
    | ((with_reducible refine (C1 _).mono ?_); rintro e w1 ⟨rfl, hb1⟩)
    | ((with_reducible refine (C2 _).mono ?_); rintro e w2 ⟨rfl, hb2⟩))
  go_wp2
  rename_i hHd
  clear hHd
  have hW := keepC hb2 (keepC hb1 hS)
  obtain ⟨c0, c1, hB, d0, d1, d2, d3, f0, f1, f2, f3⟩ := hW
  (try simp only [Exit.inBlock, Exit.then])
  refine bodyPost_ret (v := colV _ _ _ _) ?_ rfl ⟨rfl, ?_⟩
  · simp only [results, show Tryd.f36.results = #[.cell 2 27] by kernel_rfl]
    go_simp
  · have e2 := (hM.out.2.trans (hb1.mono hM.out.2.size)).trans (hb2.mono (Nat.le_trans hM.out.2.size hb1.size))
    exact (((e2.setCell (Nat.le_succ _) _).setCell (Nat.le_succ _) _).setCell (Nat.le_succ _) _).setCell (Nat.le_succ _) _
theorem col_any (a b : Ct) (w : World) : Calls Tryd.prog 36 #[exV a b] w fun e w' => e = .returned (colV a.kind a.key b.kind b.key) ∧ Below w.heap.size w w' := by
  rw [ex_eq]
  exact col_gen w (fun W => by rw [← Ct.v_eq]; exact cutOf_any a W) (fun W => by rw [← Ct.v_eq]; exact cutOf_any b W)

abbrev SK (B : Nat) (W : World) : Prop := W.cell? ⟨B, 0, none⟩ = some (.bool false) ∧ W.frozen? ⟨B, 0, none⟩ = false ∧ B < W.heap.size
theorem keepK {B : Nat} {W w' : World} (hb : Below W.heap.size W w') (h : SK B W) : SK B w' :=
  ⟨cell_below hb h.1, (hb.frozen (p := ⟨B, 0, none⟩) h.2.2).trans h.2.1, Nat.lt_of_lt_of_le h.2.2 hb.size⟩
abbrev coC (k1 x1 k2 x2 : Int) : Obj := .cells #[.int .i64 k1, .int .i64 x1, .int .i64 k2, .int .i64 x2] 27
abbrev fbC : Obj := .cells #[.bool false] 4
theorem startK (o : Obj) (w : World) : SK (w.heap.size + 1) ((w.alloc o).alloc fbC) ∧ Below w.heap.size w ((w.alloc o).alloc fbC) := by
  refine ⟨⟨?_, ?_, ?_⟩, ?_⟩
  all_goals first | (go_simp; done) | (simp; done) | (go_grown; done) | (go_simp; omega)
theorem rgempty_any (k1 x1 k2 x2 : Int) (a b : Ct) (w : World) (E : ∀ W, Calls Tryd.prog 34 #[colV k1 x1 k2 x2] W fun e w' => e = .returned (exV a b) ∧ Below W.heap.size W w') :
    Calls Tryd.prog 14 #[colV k1 x1 k2 x2] w fun e w' => e = .returned (.tuple #[.bool (decide (0 ≤ cp a b)), .bool true]) ∧ Below w.heap.size w w' := by
  have C := fun W => empty_gen (cmp_of a b) W
  rw [ex_eq] at E
  generalize exI a.tid a.inner b.tid b.inner = v at E C
  generalize decide (0 ≤ cp a b) = n at C ⊢
  have S0 := Lib.hid (startK (coC k1 x1 k2 x2) w)
  cases n
  all_goals
    go_enter_defers Tryd.func14, Tryd.ntmps14
    go_wp2_with (first
      | (go_at_call 34; (with_reducible refine (E _).mono ?_); rintro e w1 ⟨rfl, hb1⟩
         have S1 := Lib.hid (And.intro (keepK hb1 S0.out.1) (S0.out.2.trans (hb1.mono S0.out.2.size))); clear hb1)
      | (go_at_call 49; (with_reducible refine (C _).mono ?_); rintro e w2 ⟨rfl, hb2⟩
         have S2 := Lib.hid (And.intro (keepK hb2 S1.out.1) (S1.out.2.trans (hb2.mono S1.out.2.size))); clear hb2))
    have k0 := S2.out.1.1
    have k1' := S2.out.1.2.1
    refine wp_region_noPanic ?_
    go_region
    refine NoPanic.normal ?_
    go_wp2
    refine leaves_cons (f := 48) (args := #[.pointer (some ⟨w.heap.size + 1, 0, none⟩)]) (by simp) (by simp [go_sem]) ?_
    refine (caught_idle ⟨w.heap.size + 1, 0, none⟩ _).mono ?_
    rintro e u' w'' ⟨rfl, rfl, rfl⟩
    have kk : (w2.setCell ⟨w.heap.size + 1, 0, none⟩ (.bool true)).cell? ⟨w.heap.size + 1, 0, none⟩ = some (.bool true) := by go_simp
    have B3 := Lib.hid ((S2.out.2.setCell (p := ⟨w.heap.size + 1, 0, none⟩) (Nat.le_succ _) (.bool true)).drew)
    simp [Leaves, settle, results, go_sem, kk]
    exact B3.out

abbrev SZ (B : Nat) (W : World) : Prop := W.cell? ⟨B, 0, none⟩ = some (.int .i64 0) ∧ W.cell? ⟨B, 1, none⟩ = some (.int .i64 0) ∧ W.cell? ⟨B, 2, none⟩ = some (.int .i64 0) ∧ W.cell? ⟨B, 3, none⟩ = some (.int .i64 0) ∧
  W.frozen? ⟨B, 0, none⟩ = false ∧ W.frozen? ⟨B, 1, none⟩ = false ∧ W.frozen? ⟨B, 2, none⟩ = false ∧ W.frozen? ⟨B, 3, none⟩ = false ∧ B < W.heap.size
theorem keepZ {B : Nat} {W w' : World} (hb : Below W.heap.size W w') (h : SZ B W) : SZ B w' := by
  obtain ⟨c0, c1, c2, c3, f0, f1, f2, f3, hB⟩ := h
  exact ⟨cell_below hb c0, cell_below hb c1, cell_below hb c2, cell_below hb c3, (hb.frozen (p := ⟨B, 0, none⟩) hB).trans f0, (hb.frozen (p := ⟨B, 1, none⟩) hB).trans f1, (hb.frozen (p := ⟨B, 2, none⟩) hB).trans f2, (hb.frozen (p := ⟨B, 3, none⟩) hB).trans f3, Nat.lt_of_lt_of_le hB hb.size⟩
theorem startZ (w : World) : SZ w.heap.size (w.alloc zeC) ∧ Below w.heap.size w (w.alloc zeC) := by
  refine ⟨⟨?_, ?_, ?_, ?_, ?_, ?_, ?_, ?_, ?_⟩, ?_⟩
  all_goals first | (go_simp; done) | (simp; done) | (go_grown; done) | (go_simp; omega)
theorem keepZB {B : Nat} {w W w' : World} (hb : Below W.heap.size W w') (h : SZ B W ∧ Below B w W) : SZ B w' ∧ Below B w w' := ⟨keepZ hb h.1, h.2.trans (hb.mono (Nat.le_of_lt h.1.2.2.2.2.2.2.2.2))⟩
theorem made0 (a b : Int) (w : World) : Calls Tryd.prog 13 #[.int .i64 0, .int .i64 a, .int .i64 b] w fun e w' => e = .returned (colV (Ct.kind .bn) (Ct.key .bn) (Ct.kind .aa) (Ct.key .aa)) ∧ Below w.heap.size w w' := by
  have E := fun W => all_con W
  have C := fun W => col_any .bn .aa W
  generalize exV .bn .aa = v at E C
  simp only [Ct.kind, Ct.key] at C ⊢
  have S0 := Lib.hid (startZ w)
  go_enter Tryd.func13, Tryd.ntmps13
  go_wp2_with (first
    | (go_at_call 37; (with_reducible refine (E _).mono ?_); rintro e w1 ⟨rfl, hb1⟩
       have S1 := Lib.hid (keepZB hb1 S0.out); clear hb1)
    | (go_at_call 36; (with_reducible refine (C _).mono ?_); rintro e w2 ⟨rfl, hb2⟩
       have S2 := Lib.hid (keepZB hb2 S1.out); clear hb2
       obtain ⟨c0, c1, c2, c3, f0, f1, f2, f3, hB⟩ := S2.out.1))
  refine bodyPost_ret (v := colV _ _ _ _) ?_ rfl ⟨rfl, ?_⟩
  · simp only [results, show Tryd.f13.results = #[.cell 6 27] by kernel_rfl]
    go_simp
  · exact (((S2.out.2.setCell (Nat.le_refl _) _).setCell (Nat.le_refl _) _).setCell (Nat.le_refl _) _).setCell (Nat.le_refl _) _
theorem made1 (a b : Int) (w : World) : Calls Tryd.prog 13 #[.int .i64 1, .int .i64 a, .int .i64 b] w fun e w' => e = .returned (colV (Ct.kind .aa) (Ct.key .aa) (Ct.kind .aa) (Ct.key .aa)) ∧ Below w.heap.size w w' := by
  have E := fun W => empty_con W
  have C := fun W => col_any .aa .aa W
  generalize exV .aa .aa = v at E C
  simp only [Ct.kind, Ct.key] at C ⊢
  have S0 := Lib.hid (startZ w)
  go_enter Tryd.func13, Tryd.ntmps13
  go_wp2_with (first
    | (go_at_call 47; (with_reducible refine (E _).mono ?_); rintro e w1 ⟨rfl, hb1⟩
       have S1 := Lib.hid (keepZB hb1 S0.out); clear hb1)
    | (go_at_call 36; (with_reducible refine (C _).mono ?_); rintro e w2 ⟨rfl, hb2⟩
       have S2 := Lib.hid (keepZB hb2 S1.out); clear hb2
       obtain ⟨c0, c1, c2, c3, f0, f1, f2, f3, hB⟩ := S2.out.1))
  refine bodyPost_ret (v := colV _ _ _ _) ?_ rfl ⟨rfl, ?_⟩
  · simp only [results, show Tryd.f13.results = #[.cell 6 27] by kernel_rfl]
    go_simp
  · exact (((S2.out.2.setCell (Nat.le_refl _) _).setCell (Nat.le_refl _) _).setCell (Nat.le_refl _) _).setCell (Nat.le_refl _) _
theorem made2 (a b : Int) (w : World) : Calls Tryd.prog 13 #[.int .i64 2, .int .i64 a, .int .i64 b] w fun e w' => e = .returned (colV (Ct.kind .bn) (Ct.key .bn) (Ct.kind .an) (Ct.key .an)) ∧ Below w.heap.size w w' := by
  have E := fun W => null_con W
  have C := fun W => col_any .bn .an W
  generalize exV .bn .an = v at E C
  simp only [Ct.kind, Ct.key] at C ⊢
  have S0 := Lib.hid (startZ w)
  go_enter Tryd.func13, Tryd.ntmps13
  go_wp2_with (first
    | (go_at_call 38; (with_reducible refine (E _).mono ?_); rintro e w1 ⟨rfl, hb1⟩
       have S1 := Lib.hid (keepZB hb1 S0.out); clear hb1)
    | (go_at_call 36; (with_reducible refine (C _).mono ?_); rintro e w2 ⟨rfl, hb2⟩
       have S2 := Lib.hid (keepZB hb2 S1.out); clear hb2
       obtain ⟨c0, c1, c2, c3, f0, f1, f2, f3, hB⟩ := S2.out.1))
  refine bodyPost_ret (v := colV _ _ _ _) ?_ rfl ⟨rfl, ?_⟩
  · simp only [results, show Tryd.f13.results = #[.cell 6 27] by kernel_rfl]
    go_simp
  · exact (((S2.out.2.setCell (Nat.le_refl _) _).setCell (Nat.le_refl _) _).setCell (Nat.le_refl _) _).setCell (Nat.le_refl _) _
theorem made3 (a b : Int) (w : World) : Calls Tryd.prog 13 #[.int .i64 3, .int .i64 a, .int .i64 b] w fun e w' => e = .returned (colV (Ct.kind .an) (Ct.key .an) (Ct.kind .aa) (Ct.key .aa)) ∧ Below w.heap.size w w' := by
  have E := fun W => notNull_con W
  have C := fun W => col_any .an .aa W
  generalize exV .an .aa = v at E C
  simp only [Ct.kind, Ct.key] at C ⊢
  have S0 := Lib.hid (startZ w)
  go_enter Tryd.func13, Tryd.ntmps13
  go_wp2_with (first
    | (go_at_call 39; (with_reducible refine (E _).mono ?_); rintro e w1 ⟨rfl, hb1⟩
       have S1 := Lib.hid (keepZB hb1 S0.out); clear hb1)
    | (go_at_call 36; (with_reducible refine (C _).mono ?_); rintro e w2 ⟨rfl, hb2⟩
       have S2 := Lib.hid (keepZB hb2 S1.out); clear hb2
       obtain ⟨c0, c1, c2, c3, f0, f1, f2, f3, hB⟩ := S2.out.1))
  refine bodyPost_ret (v := colV _ _ _ _) ?_ rfl ⟨rfl, ?_⟩
  · simp only [results, show Tryd.f13.results = #[.cell 6 27] by kernel_rfl]
    go_simp
  · exact (((S2.out.2.setCell (Nat.le_refl _) _).setCell (Nat.le_refl _) _).setCell (Nat.le_refl _) _).setCell (Nat.le_refl _) _
theorem made4 (a b : Int) (w : World) : Calls Tryd.prog 13 #[.int .i64 4, .int .i64 a, .int .i64 b] w fun e w' => e = .returned (colV (Ct.kind (.bl a)) (Ct.key (.bl a)) (Ct.kind (.ab b)) (Ct.key (.ab b))) ∧ Below w.heap.size w w' := by
  have E := fun W => closed_con a b W
  have C := fun W => col_any (.bl a) (.ab b) W
  generalize exV (.bl a) (.ab b) = v at E C
  simp only [Ct.kind, Ct.key] at C ⊢
  have S0 := Lib.hid (startZ w)
  go_enter Tryd.func13, Tryd.ntmps13
  go_wp2_with (first
    | (go_at_call 40; (with_reducible refine (E _).mono ?_); rintro e w1 ⟨rfl, hb1⟩
       have S1 := Lib.hid (keepZB hb1 S0.out); clear hb1)
    | (go_at_call 36; (with_reducible refine (C _).mono ?_); rintro e w2 ⟨rfl, hb2⟩
       have S2 := Lib.hid (keepZB hb2 S1.out); clear hb2
       obtain ⟨c0, c1, c2, c3, f0, f1, f2, f3, hB⟩ := S2.out.1))
  refine bodyPost_ret (v := colV _ _ _ _) ?_ rfl ⟨rfl, ?_⟩
  · simp only [results, show Tryd.f13.results = #[.cell 6 27] by kernel_rfl]
    go_simp
  · exact (((S2.out.2.setCell (Nat.le_refl _) _).setCell (Nat.le_refl _) _).setCell (Nat.le_refl _) _).setCell (Nat.le_refl _) _
theorem made5 (a b : Int) (w : World) : Calls Tryd.prog 13 #[.int .i64 5, .int .i64 a, .int .i64 b] w fun e w' => e = .returned (colV (Ct.kind (.ab a)) (Ct.key (.ab a)) (Ct.kind (.bl b)) (Ct.key (.bl b))) ∧ Below w.heap.size w w' := by
  have E := fun W => open_con a b W
  have C := fun W => col_any (.ab a) (.bl b) W
  generalize exV (.ab a) (.bl b) = v at E C
  simp only [Ct.kind, Ct.key] at C ⊢
  have S0 := Lib.hid (startZ w)
  go_enter Tryd.func13, Tryd.ntmps13
  go_wp2_with (first
    | (go_at_call 41; (with_reducible refine (E _).mono ?_); rintro e w1 ⟨rfl, hb1⟩
       have S1 := Lib.hid (keepZB hb1 S0.out); clear hb1)
    | (go_at_call 36; (with_reducible refine (C _).mono ?_); rintro e w2 ⟨rfl, hb2⟩
       have S2 := Lib.hid (keepZB hb2 S1.out); clear hb2
       obtain ⟨c0, c1, c2, c3, f0, f1, f2, f3, hB⟩ := S2.out.1))
  refine bodyPost_ret (v := colV _ _ _ _) ?_ rfl ⟨rfl, ?_⟩
  · simp only [results, show Tryd.f13.results = #[.cell 6 27] by kernel_rfl]
    go_simp
  · exact (((S2.out.2.setCell (Nat.le_refl _) _).setCell (Nat.le_refl _) _).setCell (Nat.le_refl _) _).setCell (Nat.le_refl _) _
theorem made6 (a b : Int) (w : World) : Calls Tryd.prog 13 #[.int .i64 6, .int .i64 a, .int .i64 b] w fun e w' => e = .returned (colV (Ct.kind (.ab a)) (Ct.key (.ab a)) (Ct.kind .aa) (Ct.key .aa)) ∧ Below w.heap.size w w' := by
  have E := fun W => gt_con a W
  have C := fun W => col_any (.ab a) .aa W
  generalize exV (.ab a) .aa = v at E C
  simp only [Ct.kind, Ct.key] at C ⊢
  have S0 := Lib.hid (startZ w)
  go_enter Tryd.func13, Tryd.ntmps13
  go_wp2_with (first
    | (go_at_call 42; (with_reducible refine (E _).mono ?_); rintro e w1 ⟨rfl, hb1⟩
       have S1 := Lib.hid (keepZB hb1 S0.out); clear hb1)
    | (go_at_call 36; (with_reducible refine (C _).mono ?_); rintro e w2 ⟨rfl, hb2⟩
       have S2 := Lib.hid (keepZB hb2 S1.out); clear hb2
       obtain ⟨c0, c1, c2, c3, f0, f1, f2, f3, hB⟩ := S2.out.1))
  refine bodyPost_ret (v := colV _ _ _ _) ?_ rfl ⟨rfl, ?_⟩
  · simp only [results, show Tryd.f13.results = #[.cell 6 27] by kernel_rfl]
    go_simp
  · exact (((S2.out.2.setCell (Nat.le_refl _) _).setCell (Nat.le_refl _) _).setCell (Nat.le_refl _) _).setCell (Nat.le_refl _) _
theorem made7 (a b : Int) (w : World) : Calls Tryd.prog 13 #[.int .i64 7, .int .i64 a, .int .i64 b] w fun e w' => e = .returned (colV (Ct.kind (.bl a)) (Ct.key (.bl a)) (Ct.kind .aa) (Ct.key .aa)) ∧ Below w.heap.size w w' := by
  have E := fun W => ge_con a W
  have C := fun W => col_any (.bl a) .aa W
  generalize exV (.bl a) .aa = v at E C
  simp only [Ct.kind, Ct.key] at C ⊢
  have S0 := Lib.hid (startZ w)
  go_enter Tryd.func13, Tryd.ntmps13
  go_wp2_with (first
    | (go_at_call 43; (with_reducible refine (E _).mono ?_); rintro e w1 ⟨rfl, hb1⟩
       have S1 := Lib.hid (keepZB hb1 S0.out); clear hb1)
    | (go_at_call 36; (with_reducible refine (C _).mono ?_); rintro e w2 ⟨rfl, hb2⟩
       have S2 := Lib.hid (keepZB hb2 S1.out); clear hb2
       obtain ⟨c0, c1, c2, c3, f0, f1, f2, f3, hB⟩ := S2.out.1))
  refine bodyPost_ret (v := colV _ _ _ _) ?_ rfl ⟨rfl, ?_⟩
  · simp only [results, show Tryd.f13.results = #[.cell 6 27] by kernel_rfl]
    go_simp
  · exact (((S2.out.2.setCell (Nat.le_refl _) _).setCell (Nat.le_refl _) _).setCell (Nat.le_refl _) _).setCell (Nat.le_refl _) _
theorem made8 (a b : Int) (w : World) : Calls Tryd.prog 13 #[.int .i64 8, .int .i64 a, .int .i64 b] w fun e w' => e = .returned (colV (Ct.kind .an) (Ct.key .an) (Ct.kind (.bl a)) (Ct.key (.bl a))) ∧ Below w.heap.size w w' := by
  have E := fun W => lt_con a W
  have C := fun W => col_any .an (.bl a) W
  generalize exV .an (.bl a) = v at E C
  simp only [Ct.kind, Ct.key] at C ⊢
  have S0 := Lib.hid (startZ w)
  go_enter Tryd.func13, Tryd.ntmps13
  go_wp2_with (first
    | (go_at_call 44; (with_reducible refine (E _).mono ?_); rintro e w1 ⟨rfl, hb1⟩
       have S1 := Lib.hid (keepZB hb1 S0.out); clear hb1)
    | (go_at_call 36; (with_reducible refine (C _).mono ?_); rintro e w2 ⟨rfl, hb2⟩
       have S2 := Lib.hid (keepZB hb2 S1.out); clear hb2
       obtain ⟨c0, c1, c2, c3, f0, f1, f2, f3, hB⟩ := S2.out.1))
  refine bodyPost_ret (v := colV _ _ _ _) ?_ rfl ⟨rfl, ?_⟩
  · simp only [results, show Tryd.f13.results = #[.cell 6 27] by kernel_rfl]
    go_simp
  · exact (((S2.out.2.setCell (Nat.le_refl _) _).setCell (Nat.le_refl _) _).setCell (Nat.le_refl _) _).setCell (Nat.le_refl _) _
theorem made9 (a b : Int) (w : World) : Calls Tryd.prog 13 #[.int .i64 9, .int .i64 a, .int .i64 b] w fun e w' => e = .returned (colV (Ct.kind .an) (Ct.key .an) (Ct.kind (.ab a)) (Ct.key (.ab a))) ∧ Below w.heap.size w w' := by
  have E := fun W => le_con a W
  have C := fun W => col_any .an (.ab a) W
  generalize exV .an (.ab a) = v at E C
  simp only [Ct.kind, Ct.key] at C ⊢
  have S0 := Lib.hid (startZ w)
  go_enter Tryd.func13, Tryd.ntmps13
  go_wp2_with (first
    | (go_at_call 45; (with_reducible refine (E _).mono ?_); rintro e w1 ⟨rfl, hb1⟩
       have S1 := Lib.hid (keepZB hb1 S0.out); clear hb1)
    | (go_at_call 36; (with_reducible refine (C _).mono ?_); rintro e w2 ⟨rfl, hb2⟩
       have S2 := Lib.hid (keepZB hb2 S1.out); clear hb2
       obtain ⟨c0, c1, c2, c3, f0, f1, f2, f3, hB⟩ := S2.out.1))
  refine bodyPost_ret (v := colV _ _ _ _) ?_ rfl ⟨rfl, ?_⟩
  · simp only [results, show Tryd.f13.results = #[.cell 6 27] by kernel_rfl]
    go_simp
  · exact (((S2.out.2.setCell (Nat.le_refl _) _).setCell (Nat.le_refl _) _).setCell (Nat.le_refl _) _).setCell (Nat.le_refl _) _
theorem made10 (a b : Int) (w : World) : Calls Tryd.prog 13 #[.int .i64 10, .int .i64 a, .int .i64 b] w fun e w' => e = .returned (colV (Ct.kind (.bl a)) (Ct.key (.bl a)) (Ct.kind (.bl b)) (Ct.key (.bl b))) ∧ Below w.heap.size w w' := by
  have E := fun W => co_con a b W
  have C := fun W => col_any (.bl a) (.bl b) W
  generalize exV (.bl a) (.bl b) = v at E C
  simp only [Ct.kind, Ct.key] at C ⊢
  have S0 := Lib.hid (startZ w)
  go_enter Tryd.func13, Tryd.ntmps13
  go_wp2_with (first
    | (go_at_call 46; (with_reducible refine (E _).mono ?_); rintro e w1 ⟨rfl, hb1⟩
       have S1 := Lib.hid (keepZB hb1 S0.out); clear hb1)
    | (go_at_call 36; (with_reducible refine (C _).mono ?_); rintro e w2 ⟨rfl, hb2⟩
       have S2 := Lib.hid (keepZB hb2 S1.out); clear hb2
       obtain ⟨c0, c1, c2, c3, f0, f1, f2, f3, hB⟩ := S2.out.1))
  refine bodyPost_ret (v := colV _ _ _ _) ?_ rfl ⟨rfl, ?_⟩
  · simp only [results, show Tryd.f13.results = #[.cell 6 27] by kernel_rfl]
    go_simp
  · exact (((S2.out.2.setCell (Nat.le_refl _) _).setCell (Nat.le_refl _) _).setCell (Nat.le_refl _) _).setCell (Nat.le_refl _) _
theorem made11 (a b : Int) (w : World) : Calls Tryd.prog 13 #[.int .i64 11, .int .i64 a, .int .i64 b] w fun e w' => e = .returned (colV (Ct.kind (.ab a)) (Ct.key (.ab a)) (Ct.kind (.ab b)) (Ct.key (.ab b))) ∧ Below w.heap.size w w' := by
  have E := fun W => oc_con a b W
  have C := fun W => col_any (.ab a) (.ab b) W
  generalize exV (.ab a) (.ab b) = v at E C
  simp only [Ct.kind, Ct.key] at C ⊢
  have S0 := Lib.hid (startZ w)
  go_enter Tryd.func13, Tryd.ntmps13
  go_wp2_with (first
    | (go_at_call 46; (with_reducible refine (E _).mono ?_); rintro e w1 ⟨rfl, hb1⟩
       have S1 := Lib.hid (keepZB hb1 S0.out); clear hb1)
    | (go_at_call 36; (with_reducible refine (C _).mono ?_); rintro e w2 ⟨rfl, hb2⟩
       have S2 := Lib.hid (keepZB hb2 S1.out); clear hb2
       obtain ⟨c0, c1, c2, c3, f0, f1, f2, f3, hB⟩ := S2.out.1))
  refine bodyPost_ret (v := colV _ _ _ _) ?_ rfl ⟨rfl, ?_⟩
  · simp only [results, show Tryd.f13.results = #[.cell 6 27] by kernel_rfl]
    go_simp
  · exact (((S2.out.2.setCell (Nat.le_refl _) _).setCell (Nat.le_refl _) _).setCell (Nat.le_refl _) _).setCell (Nat.le_refl _) _

end Go.Proofs.YtfnogpelaoofbaaDoor.Rg

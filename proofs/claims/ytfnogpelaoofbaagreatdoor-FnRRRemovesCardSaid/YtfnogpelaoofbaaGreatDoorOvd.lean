/- What two ranges have in common, by the specification. Conditions: those written at each lemma. -/
import Derived.Test.YtfnogpelaoofbaaGreatDoorOvc
set_option linter.unusedVariables false
set_option linter.unusedSimpArgs false
set_option maxRecDepth 100000
set_option maxHeartbeats 4000000
namespace Go.Proofs.YtfnogpelaoofbaaGreatDoor.Rg
open Go.RowKit Go.Proofs.YtfnogpelaoofbaaGreatDoor.B Go.Proofs.YtfnogpelaoofbaaGreatDoor.Sp
abbrev PosW (k x : Int) : Prop := 0 ≤ k ∧ k ≤ 4 ∧ -1000 ≤ x ∧ x ≤ 1000
theorem three_blocks (w : World) (x y z : Obj) : (((w.alloc x).alloc y).alloc z).heap[w.heap.size]? = some x ∧ (((w.alloc x).alloc y).alloc z).heap[w.heap.size + 1]? = some y ∧ (((w.alloc x).alloc y).alloc z).heap[w.heap.size + 1 + 1]? = some z ∧ (((w.alloc x).alloc y).alloc z).heap.size = w.heap.size + 1 + 1 + 1 := by
  have e1 : (w.alloc x).heap.size = w.heap.size + 1 := by simp
  have e2 : ((w.alloc x).alloc y).heap.size = w.heap.size + 1 + 1 := by simp
  refine ⟨heap_old (heap_old (heap_alloc_new _ _)), heap_old ?_, ?_, by simp⟩
  · rw [← e1]; exact heap_alloc_new _ _
  · rw [← e2]; exact heap_alloc_new _ _
/-- RGMeet: of the lower ends the higher one, of the upper ends the lower one. -/
theorem meet_any (ka xa kb xb ma ya mb yb : Int) (w : World) (pa : PosW ka xa) (pb : PosW kb xb) (qa : PosW ma ya) (qb : PosW mb yb) :
    Calls Tryz.prog 30 #[coV ka xa kb xb, coV ma ya mb yb] w fun e w' => e = .returned (if plc ma ya > plc ka xa then (if plc mb yb < plc kb xb then coV ma ya mb yb else coV ma ya kb xb) else (if plc mb yb < plc kb xb then coV ka xa mb yb else coV ka xa kb xb)) ∧ Below w.heap.size w w' := by
  have PA := Lib.hid (fun W => place_any ka xa W pa.1 pa.2.1 pa.2.2.1 pa.2.2.2)
  have PB := Lib.hid (fun W => place_any kb xb W pb.1 pb.2.1 pb.2.2.1 pb.2.2.2)
  have QA := Lib.hid (fun W => place_any ma ya W qa.1 qa.2.1 qa.2.2.1 qa.2.2.2)
  have QB := Lib.hid (fun W => place_any mb yb W qb.1 qb.2.1 qb.2.2.1 qb.2.2.2)
  generalize plc ka xa = za at *
  generalize plc kb xb = zb at *
  generalize plc ma ya = ya2 at *
  generalize plc mb yb = yb2 at *
  have HX : Hid (Below w.heap.size w (((w.alloc (Sp.coC ka xa kb xb)).alloc (Sp.coC ma ya mb yb)).alloc zeC)) := Lib.hid (by go_grown)
  clear pa pb qa qb
  have HB3 := Lib.hid (three_blocks w (Sp.coC ka xa kb xb) (Sp.coC ma ya mb yb) zeC)
  go_enter Tryz.func30, Tryz.ntmps30
  go_upto_region 1 with fail
  generalize (((w.alloc (Sp.coC ka xa kb xb)).alloc (Sp.coC ma ya mb yb)).alloc zeC) = X at *
  have hsz := HB3.out.2.2.2
  refine Rv.region_goods (n := 26) (by kernel_rfl) #[5, 6, 7, 8, 9, 10, 11] #[] (fun i v W => v = (#[.pointer (some ⟨w.heap.size + 1, 0, none⟩), cuV ma ya, .int .i64 ya2, .pointer (some ⟨w.heap.size, 0, none⟩), cuV ka xa, .int .i64 za, .bool (decide (ya2 > za))] : Array Value).getD i undef) (fun i v w w' h hb => ?_) (fun i h g b hg => ?_) rfl (by kernel_rfl) (by kernel_rfl) (fun i h hr w => ?_) ?_ ?_
  · exact h
  · match i, h, hg with
    | 0, _, hg => cases hg
    | 1, _, hg => cases hg
    | 2, _, hg => cases hg
    | 3, _, hg => cases hg
    | 4, _, hg => cases hg
    | 5, _, hg => cases hg
    | 6, _, hg => cases hg
    | m + 7, h, _ => exact absurd h (by show ¬ m + 7 < 7; omega)
  · match i, h, hr with
    | 0, _, hr => exact Bool.noConfusion (show true = false from hr)
    | 1, _, hr => exact Bool.noConfusion (show true = false from hr)
    | 2, _, hr => exact Bool.noConfusion (show true = false from hr)
    | 3, _, hr => exact Bool.noConfusion (show true = false from hr)
    | 4, _, hr => exact Bool.noConfusion (show true = false from hr)
    | 5, _, hr => exact Bool.noConfusion (show true = false from hr)
    | 6, _, hr => exact Bool.noConfusion (show true = false from hr)
    | m + 7, h, _ => exact absurd h (by show ¬ m + 7 < 7; omega)
  · intro i h a W hrun hbase hpre hdep htr
    obtain ⟨n0, n1, n2, n3⟩ := Rv.cells4 ((htr.block _ (by omega)).trans HB3.out.1)
    obtain ⟨r0, r1, r2, r3⟩ := Rv.cells4 ((htr.block _ (by omega)).trans HB3.out.2.1)
    match i, h with
    | 0, _ =>
      obtain ⟨e3, x3⟩ := Rv.ev (show a.tmps.getD 3 undef = .pointer (some ⟨w.heap.size + 1, 0, none⟩) from hbase 3 rfl)
      exact Rv.step_op (op := Go.Op.fieldAddr 54 (Go.Operand.tmp 3) 0) (v := .pointer (some ⟨w.heap.size + 1, 0, none⟩)) (w1 := W) rfl rfl (fun d pos aft g => by unfold execOp; go_simp) ⟨_, rfl, rfl, Below.refl _ _⟩
    | 1, _ =>
      obtain ⟨e5, x5⟩ := Rv.ev (show a.tmps.getD 5 undef = .pointer (some ⟨w.heap.size + 1, 0, none⟩) from hdep 0 rfl)
      exact Rv.step_op (op := Go.Op.load 52 (Go.Operand.tmp 5)) (v := cuV ma ya) (w1 := W) rfl rfl (fun d pos aft g => by unfold execOp; go_simp) ⟨_, rfl, rfl, Below.refl _ _⟩
    | 2, _ =>
      obtain ⟨e6, x6⟩ := Rv.ev (show a.tmps.getD 6 undef = cuV ma ya from hdep 1 rfl)
      have cf : ∀ x0 W, (callFunc 45 #[x0]).run Tryz.prog W = .ok (.enter 45 #[x0]) W := fun _ _ => by kernel_rfl
      refine Rv.step_fn (op := Go.Op.call { callee := Go.Callee.value (Go.Operand.func 45), args := #[Go.Operand.tmp 6], argTypes := #[52] }) (f := 45) (args := #[cuV ma ya]) (R := fun v W' => v = .int .i64 ya2 ∧ Below W.heap.size W W') rfl rfl (fun d pos aft g => by unfold execOp; go_simp) ((QA.out W).mono ?_) ?_
      · (rintro e W' ⟨rfl, hb⟩; exact ⟨_, rfl, rfl, hb⟩)
      · (rintro v W' ⟨rfl, hb⟩; exact ⟨_, rfl, rfl, hb⟩)
    | 3, _ =>
      obtain ⟨e2, x2⟩ := Rv.ev (show a.tmps.getD 2 undef = .pointer (some ⟨w.heap.size, 0, none⟩) from hbase 2 rfl)
      exact Rv.step_op (op := Go.Op.fieldAddr 54 (Go.Operand.tmp 2) 0) (v := .pointer (some ⟨w.heap.size, 0, none⟩)) (w1 := W) rfl rfl (fun d pos aft g => by unfold execOp; go_simp) ⟨_, rfl, rfl, Below.refl _ _⟩
    | 4, _ =>
      obtain ⟨e8, x8⟩ := Rv.ev (show a.tmps.getD 8 undef = .pointer (some ⟨w.heap.size, 0, none⟩) from hdep 3 rfl)
      exact Rv.step_op (op := Go.Op.load 52 (Go.Operand.tmp 8)) (v := cuV ka xa) (w1 := W) rfl rfl (fun d pos aft g => by unfold execOp; go_simp) ⟨_, rfl, rfl, Below.refl _ _⟩
    | 5, _ =>
      obtain ⟨e9, x9⟩ := Rv.ev (show a.tmps.getD 9 undef = cuV ka xa from hdep 4 rfl)
      have cf : ∀ x0 W, (callFunc 45 #[x0]).run Tryz.prog W = .ok (.enter 45 #[x0]) W := fun _ _ => by kernel_rfl
      refine Rv.step_fn (op := Go.Op.call { callee := Go.Callee.value (Go.Operand.func 45), args := #[Go.Operand.tmp 9], argTypes := #[52] }) (f := 45) (args := #[cuV ka xa]) (R := fun v W' => v = .int .i64 za ∧ Below W.heap.size W W') rfl rfl (fun d pos aft g => by unfold execOp; go_simp) ((PA.out W).mono ?_) ?_
      · (rintro e W' ⟨rfl, hb⟩; exact ⟨_, rfl, rfl, hb⟩)
      · (rintro v W' ⟨rfl, hb⟩; exact ⟨_, rfl, rfl, hb⟩)
    | 6, _ =>
      obtain ⟨e7, x7⟩ := Rv.ev (show a.tmps.getD 7 undef = .int .i64 ya2 from hdep 2 rfl)
      obtain ⟨e10, x10⟩ := Rv.ev (show a.tmps.getD 10 undef = .int .i64 za from hdep 5 rfl)
      exact Rv.step_op (op := Go.Op.binOp Go.BinOp.gtr 3 (Go.Operand.tmp 7) (Go.Operand.tmp 10) 3) (v := .bool (decide (ya2 > za))) (w1 := W) rfl rfl (fun d pos aft g => by unfold execOp; go_simp) ⟨_, rfl, rfl, Below.refl _ _⟩
    | m + 7, h => exact absurd h (by show ¬ m + 7 < 7; omega)
  intro W f hf htr
  have f0 : f 0 = .pointer (some ⟨w.heap.size + 1, 0, none⟩) := hf 0 (by show 0 < 7; omega)
  have f1 : f 1 = cuV ma ya := hf 1 (by show 1 < 7; omega)
  have f2 : f 2 = .int .i64 ya2 := hf 2 (by show 2 < 7; omega)
  have f3 : f 3 = .pointer (some ⟨w.heap.size, 0, none⟩) := hf 3 (by show 3 < 7; omega)
  have f4 : f 4 = cuV ka xa := hf 4 (by show 4 < 7; omega)
  have f5 : f 5 = .int .i64 za := hf 5 (by show 5 < 7; omega)
  have f6 : f 6 = .bool (decide (ya2 > za)) := hf 6 (by show 6 < 7; omega)
  refine (show ∀ (a : Act) (w : World), Code.wp _ _ _ a w → _ from by assumption) _ _ ?_
  refine Rv.fin_swap (L' := [(5, f 0), (6, f 1), (7, f 2), (8, f 3), (9, f 4), (10, f 5), (11, f 6)]) rfl ?_
  rw [f0, f1, f2, f3, f4, f5, f6]
  clear f0 f1 f2 f3 f4 f5 f6
  simp only [Rv.fin, List.foldl_cons, List.foldl_nil, Act.put, List.setIfInBounds_toArray, List.set_cons_succ, List.set_cons_zero]
  have H1 := Lib.hid ((htr.block _ (by omega)).trans HB3.out.1)
  have H2 := Lib.hid ((htr.block _ (by omega)).trans HB3.out.2.1)
  have H3 := Lib.hid ((htr.block _ (by omega)).trans HB3.out.2.2.1)
  have HXW := Lib.hid (HX.out.trans (htr.mono (by omega)))
  have hsW : w.heap.size + 1 + 1 + 1 ≤ W.heap.size := by have := htr.size; omega
  obtain ⟨c0, c1, c2, c3⟩ := Rv.cells4 H1.out
  obtain ⟨d0, d1, d2, d3⟩ := Rv.cells4 H2.out
  obtain ⟨f0, f1, f2, f3⟩ := Rv.frozen4 H1.out
  clear htr
  by_cases h1 : ya2 > za
  · have g1 : decide (ya2 > za) = true := by simp [h1]
    rw [g1]
    go_upto_region 3 with fail
    have HN := Lib.hid (Rv.set_cell1 1 (.int .i64 ya) (Rv.set_cell1 0 (.int .i64 ma) H1.out))
    have HBU := Lib.hid ((Rv.But.one w.heap.size W 0 (.int .i64 ma)).tr (Rv.But.one w.heap.size _ 1 (.int .i64 ya)))
    have HR := Lib.hid (HBU.out.blk H2.out (by omega))
    have HT := Lib.hid (HBU.out.blk H3.out (by omega))
    have HXW2 := Lib.hid ((HXW.out.setCell (p := ⟨w.heap.size, 0, none⟩) (Nat.le_refl _) (.int .i64 ma)).setCell (p := ⟨w.heap.size, 1, none⟩) (Nat.le_refl _) (.int .i64 ya))
    have hsX := Nat.le_trans hsW HBU.out.1
    simp only [List.setIfInBounds_toArray, List.set_cons_succ, List.set_cons_zero] at HN
    clear H1 H2 H3 HXW HB3 HX HBU c0 c1 c2 c3 d0 d1 d2 d3 f0 f1 f2 f3 hsW hsz
    generalize (W.setCell ⟨w.heap.size, 0, none⟩ (.int .i64 ma)).setCell ⟨w.heap.size, 1, none⟩ (.int .i64 ya) = X at *
    refine Rv.region_goods (n := 26) (by kernel_rfl) #[15, 16, 17, 18, 19, 20, 21] #[] (fun i v W => v = (#[.pointer (some ⟨w.heap.size + 1, 2, none⟩), cuV mb yb, .int .i64 yb2, .pointer (some ⟨w.heap.size, 2, none⟩), cuV kb xb, .int .i64 zb, .bool (decide (yb2 < zb))] : Array Value).getD i undef) (fun i v w w' h hb => ?_) (fun i h g b hg => ?_) rfl (by kernel_rfl) (by kernel_rfl) (fun i h hr w => ?_) ?_ ?_
    · exact h
    · match i, h, hg with
      | 0, _, hg => cases hg
      | 1, _, hg => cases hg
      | 2, _, hg => cases hg
      | 3, _, hg => cases hg
      | 4, _, hg => cases hg
      | 5, _, hg => cases hg
      | 6, _, hg => cases hg
      | m + 7, h, _ => exact absurd h (by show ¬ m + 7 < 7; omega)
    · match i, h, hr with
      | 0, _, hr => exact Bool.noConfusion (show true = false from hr)
      | 1, _, hr => exact Bool.noConfusion (show true = false from hr)
      | 2, _, hr => exact Bool.noConfusion (show true = false from hr)
      | 3, _, hr => exact Bool.noConfusion (show true = false from hr)
      | 4, _, hr => exact Bool.noConfusion (show true = false from hr)
      | 5, _, hr => exact Bool.noConfusion (show true = false from hr)
      | 6, _, hr => exact Bool.noConfusion (show true = false from hr)
      | m + 7, h, _ => exact absurd h (by show ¬ m + 7 < 7; omega)
    · intro i h a W hrun hbase hpre hdep htr
      obtain ⟨n0, n1, n2, n3⟩ := Rv.cells4 ((htr.block _ (by omega)).trans HN.out)
      obtain ⟨r0, r1, r2, r3⟩ := Rv.cells4 ((htr.block _ (by omega)).trans HR.out)
      match i, h with
      | 0, _ =>
        obtain ⟨e3, x3⟩ := Rv.ev (show a.tmps.getD 3 undef = .pointer (some ⟨w.heap.size + 1, 0, none⟩) from hbase 3 rfl)
        exact Rv.step_op (op := Go.Op.fieldAddr 54 (Go.Operand.tmp 3) 1) (v := .pointer (some ⟨w.heap.size + 1, 2, none⟩)) (w1 := W) rfl rfl (fun d pos aft g => by unfold execOp; go_simp) ⟨_, rfl, rfl, Below.refl _ _⟩
      | 1, _ =>
        obtain ⟨e15, x15⟩ := Rv.ev (show a.tmps.getD 15 undef = .pointer (some ⟨w.heap.size + 1, 2, none⟩) from hdep 0 rfl)
        exact Rv.step_op (op := Go.Op.load 52 (Go.Operand.tmp 15)) (v := cuV mb yb) (w1 := W) rfl rfl (fun d pos aft g => by unfold execOp; go_simp) ⟨_, rfl, rfl, Below.refl _ _⟩
      | 2, _ =>
        obtain ⟨e16, x16⟩ := Rv.ev (show a.tmps.getD 16 undef = cuV mb yb from hdep 1 rfl)
        have cf : ∀ x0 W, (callFunc 45 #[x0]).run Tryz.prog W = .ok (.enter 45 #[x0]) W := fun _ _ => by kernel_rfl
        refine Rv.step_fn (op := Go.Op.call { callee := Go.Callee.value (Go.Operand.func 45), args := #[Go.Operand.tmp 16], argTypes := #[52] }) (f := 45) (args := #[cuV mb yb]) (R := fun v W' => v = .int .i64 yb2 ∧ Below W.heap.size W W') rfl rfl (fun d pos aft g => by unfold execOp; go_simp) ((QB.out W).mono ?_) ?_
        · (rintro e W' ⟨rfl, hb⟩; exact ⟨_, rfl, rfl, hb⟩)
        · (rintro v W' ⟨rfl, hb⟩; exact ⟨_, rfl, rfl, hb⟩)
      | 3, _ =>
        obtain ⟨e2, x2⟩ := Rv.ev (show a.tmps.getD 2 undef = .pointer (some ⟨w.heap.size, 0, none⟩) from hbase 2 rfl)
        exact Rv.step_op (op := Go.Op.fieldAddr 54 (Go.Operand.tmp 2) 1) (v := .pointer (some ⟨w.heap.size, 2, none⟩)) (w1 := W) rfl rfl (fun d pos aft g => by unfold execOp; go_simp) ⟨_, rfl, rfl, Below.refl _ _⟩
      | 4, _ =>
        obtain ⟨e18, x18⟩ := Rv.ev (show a.tmps.getD 18 undef = .pointer (some ⟨w.heap.size, 2, none⟩) from hdep 3 rfl)
        exact Rv.step_op (op := Go.Op.load 52 (Go.Operand.tmp 18)) (v := cuV kb xb) (w1 := W) rfl rfl (fun d pos aft g => by unfold execOp; go_simp) ⟨_, rfl, rfl, Below.refl _ _⟩
      | 5, _ =>
        obtain ⟨e19, x19⟩ := Rv.ev (show a.tmps.getD 19 undef = cuV kb xb from hdep 4 rfl)
        have cf : ∀ x0 W, (callFunc 45 #[x0]).run Tryz.prog W = .ok (.enter 45 #[x0]) W := fun _ _ => by kernel_rfl
        refine Rv.step_fn (op := Go.Op.call { callee := Go.Callee.value (Go.Operand.func 45), args := #[Go.Operand.tmp 19], argTypes := #[52] }) (f := 45) (args := #[cuV kb xb]) (R := fun v W' => v = .int .i64 zb ∧ Below W.heap.size W W') rfl rfl (fun d pos aft g => by unfold execOp; go_simp) ((PB.out W).mono ?_) ?_
        · (rintro e W' ⟨rfl, hb⟩; exact ⟨_, rfl, rfl, hb⟩)
        · (rintro v W' ⟨rfl, hb⟩; exact ⟨_, rfl, rfl, hb⟩)
      | 6, _ =>
        obtain ⟨e17, x17⟩ := Rv.ev (show a.tmps.getD 17 undef = .int .i64 yb2 from hdep 2 rfl)
        obtain ⟨e20, x20⟩ := Rv.ev (show a.tmps.getD 20 undef = .int .i64 zb from hdep 5 rfl)
        exact Rv.step_op (op := Go.Op.binOp Go.BinOp.lss 3 (Go.Operand.tmp 17) (Go.Operand.tmp 20) 3) (v := .bool (decide (yb2 < zb))) (w1 := W) rfl rfl (fun d pos aft g => by unfold execOp; go_simp) ⟨_, rfl, rfl, Below.refl _ _⟩
      | m + 7, h => exact absurd h (by show ¬ m + 7 < 7; omega)
    intro W f hf htr
    have f0 : f 0 = .pointer (some ⟨w.heap.size + 1, 2, none⟩) := hf 0 (by show 0 < 7; omega)
    have f1 : f 1 = cuV mb yb := hf 1 (by show 1 < 7; omega)
    have f2 : f 2 = .int .i64 yb2 := hf 2 (by show 2 < 7; omega)
    have f3 : f 3 = .pointer (some ⟨w.heap.size, 2, none⟩) := hf 3 (by show 3 < 7; omega)
    have f4 : f 4 = cuV kb xb := hf 4 (by show 4 < 7; omega)
    have f5 : f 5 = .int .i64 zb := hf 5 (by show 5 < 7; omega)
    have f6 : f 6 = .bool (decide (yb2 < zb)) := hf 6 (by show 6 < 7; omega)
    refine (show ∀ (a : Act) (w : World), Code.wp _ _ _ a w → _ from by assumption) _ _ ?_
    refine Rv.fin_swap (L' := [(15, f 0), (16, f 1), (17, f 2), (18, f 3), (19, f 4), (20, f 5), (21, f 6)]) rfl ?_
    rw [f0, f1, f2, f3, f4, f5, f6]
    clear f0 f1 f2 f3 f4 f5 f6
    simp only [Rv.fin, List.foldl_cons, List.foldl_nil, Act.put, List.setIfInBounds_toArray, List.set_cons_succ, List.set_cons_zero]
    have HXW3 := Lib.hid (HXW2.out.trans (htr.mono (by omega)))
    have hsV := Nat.le_trans hsX htr.size
    obtain ⟨c0, c1, c2, c3⟩ := Rv.cells4 ((htr.block _ (by omega)).trans HN.out)
    obtain ⟨q0, q1, q2, q3⟩ := Rv.frozen4 ((htr.block _ (by omega)).trans HN.out)
    obtain ⟨d0, d1, d2, d3⟩ := Rv.cells4 ((htr.block _ (by omega)).trans HR.out)
    obtain ⟨s0, s1, s2, s3⟩ := Rv.cells4 ((htr.block _ (by omega)).trans HT.out)
    obtain ⟨t0, t1, t2, t3⟩ := Rv.frozen4 ((htr.block _ (by omega)).trans HT.out)
    clear htr
    by_cases h2 : yb2 < zb
    · have g2 : decide (yb2 < zb) = true := by simp [h2]
      rw [g2]
      go_wp2
      refine bodyPost_ret (v := coV ma ya mb yb) ?_ rfl ⟨rfl, ?_⟩
      · simp only [results, show Tryz.f30.results = #[.cell 4 54] by kernel_rfl]; go_simp
      · exact Rv.belows4 ((HXW3.out.setCell (p := ⟨w.heap.size, 2, none⟩) (Nat.le_refl _) _).setCell (p := ⟨w.heap.size, 3, none⟩) (Nat.le_refl _) _) (show w.heap.size ≤ w.heap.size + 1 + 1 by omega) _ _ _ _
    · have g2 : decide (yb2 < zb) = false := by simp [h2]
      rw [g2]
      go_wp2
      refine bodyPost_ret (v := coV ma ya kb xb) ?_ rfl ⟨rfl, ?_⟩
      · simp only [results, show Tryz.f30.results = #[.cell 4 54] by kernel_rfl]; go_simp
      · exact Rv.belows4 HXW3.out (show w.heap.size ≤ w.heap.size + 1 + 1 by omega) _ _ _ _
  · have g1 : decide (ya2 > za) = false := by simp [h1]
    rw [g1]
    go_upto_region 3 with fail
    have HN := H1
    have HR := H2
    have HT := H3
    have HXW2 := HXW
    have hsX := hsW
    clear H1 H2 H3 HXW HB3 HX c0 c1 c2 c3 d0 d1 d2 d3 f0 f1 f2 f3 hsW hsz
    generalize W = X at *
    refine Rv.region_goods (n := 26) (by kernel_rfl) #[15, 16, 17, 18, 19, 20, 21] #[] (fun i v W => v = (#[.pointer (some ⟨w.heap.size + 1, 2, none⟩), cuV mb yb, .int .i64 yb2, .pointer (some ⟨w.heap.size, 2, none⟩), cuV kb xb, .int .i64 zb, .bool (decide (yb2 < zb))] : Array Value).getD i undef) (fun i v w w' h hb => ?_) (fun i h g b hg => ?_) rfl (by kernel_rfl) (by kernel_rfl) (fun i h hr w => ?_) ?_ ?_
    · exact h
    · match i, h, hg with
      | 0, _, hg => cases hg
      | 1, _, hg => cases hg
      | 2, _, hg => cases hg
      | 3, _, hg => cases hg
      | 4, _, hg => cases hg
      | 5, _, hg => cases hg
      | 6, _, hg => cases hg
      | m + 7, h, _ => exact absurd h (by show ¬ m + 7 < 7; omega)
    · match i, h, hr with
      | 0, _, hr => exact Bool.noConfusion (show true = false from hr)
      | 1, _, hr => exact Bool.noConfusion (show true = false from hr)
      | 2, _, hr => exact Bool.noConfusion (show true = false from hr)
      | 3, _, hr => exact Bool.noConfusion (show true = false from hr)
      | 4, _, hr => exact Bool.noConfusion (show true = false from hr)
      | 5, _, hr => exact Bool.noConfusion (show true = false from hr)
      | 6, _, hr => exact Bool.noConfusion (show true = false from hr)
      | m + 7, h, _ => exact absurd h (by show ¬ m + 7 < 7; omega)
    · intro i h a W hrun hbase hpre hdep htr
      obtain ⟨n0, n1, n2, n3⟩ := Rv.cells4 ((htr.block _ (by omega)).trans HN.out)
      obtain ⟨r0, r1, r2, r3⟩ := Rv.cells4 ((htr.block _ (by omega)).trans HR.out)
      match i, h with
      | 0, _ =>
        obtain ⟨e3, x3⟩ := Rv.ev (show a.tmps.getD 3 undef = .pointer (some ⟨w.heap.size + 1, 0, none⟩) from hbase 3 rfl)
        exact Rv.step_op (op := Go.Op.fieldAddr 54 (Go.Operand.tmp 3) 1) (v := .pointer (some ⟨w.heap.size + 1, 2, none⟩)) (w1 := W) rfl rfl (fun d pos aft g => by unfold execOp; go_simp) ⟨_, rfl, rfl, Below.refl _ _⟩
      | 1, _ =>
        obtain ⟨e15, x15⟩ := Rv.ev (show a.tmps.getD 15 undef = .pointer (some ⟨w.heap.size + 1, 2, none⟩) from hdep 0 rfl)
        exact Rv.step_op (op := Go.Op.load 52 (Go.Operand.tmp 15)) (v := cuV mb yb) (w1 := W) rfl rfl (fun d pos aft g => by unfold execOp; go_simp) ⟨_, rfl, rfl, Below.refl _ _⟩
      | 2, _ =>
        obtain ⟨e16, x16⟩ := Rv.ev (show a.tmps.getD 16 undef = cuV mb yb from hdep 1 rfl)
        have cf : ∀ x0 W, (callFunc 45 #[x0]).run Tryz.prog W = .ok (.enter 45 #[x0]) W := fun _ _ => by kernel_rfl
        refine Rv.step_fn (op := Go.Op.call { callee := Go.Callee.value (Go.Operand.func 45), args := #[Go.Operand.tmp 16], argTypes := #[52] }) (f := 45) (args := #[cuV mb yb]) (R := fun v W' => v = .int .i64 yb2 ∧ Below W.heap.size W W') rfl rfl (fun d pos aft g => by unfold execOp; go_simp) ((QB.out W).mono ?_) ?_
        · (rintro e W' ⟨rfl, hb⟩; exact ⟨_, rfl, rfl, hb⟩)
        · (rintro v W' ⟨rfl, hb⟩; exact ⟨_, rfl, rfl, hb⟩)
      | 3, _ =>
        obtain ⟨e2, x2⟩ := Rv.ev (show a.tmps.getD 2 undef = .pointer (some ⟨w.heap.size, 0, none⟩) from hbase 2 rfl)
        exact Rv.step_op (op := Go.Op.fieldAddr 54 (Go.Operand.tmp 2) 1) (v := .pointer (some ⟨w.heap.size, 2, none⟩)) (w1 := W) rfl rfl (fun d pos aft g => by unfold execOp; go_simp) ⟨_, rfl, rfl, Below.refl _ _⟩
      | 4, _ =>
        obtain ⟨e18, x18⟩ := Rv.ev (show a.tmps.getD 18 undef = .pointer (some ⟨w.heap.size, 2, none⟩) from hdep 3 rfl)
        exact Rv.step_op (op := Go.Op.load 52 (Go.Operand.tmp 18)) (v := cuV kb xb) (w1 := W) rfl rfl (fun d pos aft g => by unfold execOp; go_simp) ⟨_, rfl, rfl, Below.refl _ _⟩
      | 5, _ =>
        obtain ⟨e19, x19⟩ := Rv.ev (show a.tmps.getD 19 undef = cuV kb xb from hdep 4 rfl)
        have cf : ∀ x0 W, (callFunc 45 #[x0]).run Tryz.prog W = .ok (.enter 45 #[x0]) W := fun _ _ => by kernel_rfl
        refine Rv.step_fn (op := Go.Op.call { callee := Go.Callee.value (Go.Operand.func 45), args := #[Go.Operand.tmp 19], argTypes := #[52] }) (f := 45) (args := #[cuV kb xb]) (R := fun v W' => v = .int .i64 zb ∧ Below W.heap.size W W') rfl rfl (fun d pos aft g => by unfold execOp; go_simp) ((PB.out W).mono ?_) ?_
        · (rintro e W' ⟨rfl, hb⟩; exact ⟨_, rfl, rfl, hb⟩)
        · (rintro v W' ⟨rfl, hb⟩; exact ⟨_, rfl, rfl, hb⟩)
      | 6, _ =>
        obtain ⟨e17, x17⟩ := Rv.ev (show a.tmps.getD 17 undef = .int .i64 yb2 from hdep 2 rfl)
        obtain ⟨e20, x20⟩ := Rv.ev (show a.tmps.getD 20 undef = .int .i64 zb from hdep 5 rfl)
        exact Rv.step_op (op := Go.Op.binOp Go.BinOp.lss 3 (Go.Operand.tmp 17) (Go.Operand.tmp 20) 3) (v := .bool (decide (yb2 < zb))) (w1 := W) rfl rfl (fun d pos aft g => by unfold execOp; go_simp) ⟨_, rfl, rfl, Below.refl _ _⟩
      | m + 7, h => exact absurd h (by show ¬ m + 7 < 7; omega)
    intro W f hf htr
    have f0 : f 0 = .pointer (some ⟨w.heap.size + 1, 2, none⟩) := hf 0 (by show 0 < 7; omega)
    have f1 : f 1 = cuV mb yb := hf 1 (by show 1 < 7; omega)
    have f2 : f 2 = .int .i64 yb2 := hf 2 (by show 2 < 7; omega)
    have f3 : f 3 = .pointer (some ⟨w.heap.size, 2, none⟩) := hf 3 (by show 3 < 7; omega)
    have f4 : f 4 = cuV kb xb := hf 4 (by show 4 < 7; omega)
    have f5 : f 5 = .int .i64 zb := hf 5 (by show 5 < 7; omega)
    have f6 : f 6 = .bool (decide (yb2 < zb)) := hf 6 (by show 6 < 7; omega)
    refine (show ∀ (a : Act) (w : World), Code.wp _ _ _ a w → _ from by assumption) _ _ ?_
    refine Rv.fin_swap (L' := [(15, f 0), (16, f 1), (17, f 2), (18, f 3), (19, f 4), (20, f 5), (21, f 6)]) rfl ?_
    rw [f0, f1, f2, f3, f4, f5, f6]
    clear f0 f1 f2 f3 f4 f5 f6
    simp only [Rv.fin, List.foldl_cons, List.foldl_nil, Act.put, List.setIfInBounds_toArray, List.set_cons_succ, List.set_cons_zero]
    have HXW3 := Lib.hid (HXW2.out.trans (htr.mono (by omega)))
    have hsV := Nat.le_trans hsX htr.size
    obtain ⟨c0, c1, c2, c3⟩ := Rv.cells4 ((htr.block _ (by omega)).trans HN.out)
    obtain ⟨q0, q1, q2, q3⟩ := Rv.frozen4 ((htr.block _ (by omega)).trans HN.out)
    obtain ⟨d0, d1, d2, d3⟩ := Rv.cells4 ((htr.block _ (by omega)).trans HR.out)
    obtain ⟨s0, s1, s2, s3⟩ := Rv.cells4 ((htr.block _ (by omega)).trans HT.out)
    obtain ⟨t0, t1, t2, t3⟩ := Rv.frozen4 ((htr.block _ (by omega)).trans HT.out)
    clear htr
    by_cases h2 : yb2 < zb
    · have g2 : decide (yb2 < zb) = true := by simp [h2]
      rw [g2]
      go_wp2
      refine bodyPost_ret (v := coV ka xa mb yb) ?_ rfl ⟨rfl, ?_⟩
      · simp only [results, show Tryz.f30.results = #[.cell 4 54] by kernel_rfl]; go_simp
      · exact Rv.belows4 ((HXW3.out.setCell (p := ⟨w.heap.size, 2, none⟩) (Nat.le_refl _) _).setCell (p := ⟨w.heap.size, 3, none⟩) (Nat.le_refl _) _) (show w.heap.size ≤ w.heap.size + 1 + 1 by omega) _ _ _ _
    · have g2 : decide (yb2 < zb) = false := by simp [h2]
      rw [g2]
      go_wp2
      refine bodyPost_ret (v := coV ka xa kb xb) ?_ rfl ⟨rfl, ?_⟩
      · simp only [results, show Tryz.f30.results = #[.cell 4 54] by kernel_rfl]; go_simp
      · exact Rv.belows4 HXW3.out (show w.heap.size ≤ w.heap.size + 1 + 1 by omega) _ _ _ _
end Go.Proofs.YtfnogpelaoofbaaGreatDoor.Rg

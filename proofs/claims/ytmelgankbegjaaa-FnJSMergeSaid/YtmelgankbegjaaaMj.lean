/- impl.JSMerge. Conditions: those written at each lemma. -/
import Derived.Test.YtmelgankbegjaaaMi
import Derived.Deep.Cut
import Derived.Deep.Onto
import Derived.Handy
import Derived.Laws.Rows
set_option linter.unusedVariables false
set_option linter.unusedSimpArgs false
set_option maxRecDepth 100000
set_option maxHeartbeats 8000000
namespace Go.Proofs.Ytmelgankbegjaaa.Js
open Go.RowKit Go.Proofs.Ytmelgankbegjaaa.B

theorem caught_idleM (p : Addr) (w : World) :
    CallsD Try.prog 18 #[.pointer (some p)] .returning w fun e u' w' => e = .returned (.tuple #[]) ∧ u' = .returning ∧ w' = w := by
  refine callsD_of_wpS Try.func18 rfl fun c₀ cs hu => ?_
  apply wpS_seq
  apply wpS_region
  simp [wpOpsS, go_sem, recoverD, hu, Try.ntmps18, Exit.thenS]
  refine wpS_cond (t := false) (by simp [Act.eval, Array.replicate]) ?_
  simp only [Bool.false_eq_true, if_false]
  refine wpS_of_wp (wp_skip ?_)
  cases c₀
  simp_all [bodyPostS, results, Try.results18]
theorem heap_oldM {w : World} {o : Obj} {k : Nat} {x : Obj} (h : w.heap[k]? = some x) : (w.alloc o).heap[k]? = some x := (((Below.refl _ _).alloc (Nat.le_refl _) o : Below w.heap.size w (w.alloc o)).block k (Rv.lt_of_blk h)).trans h
theorem four_blocks (w : World) (x y z u : Obj) : ((((w.alloc x).alloc y).alloc z).alloc u).heap[w.heap.size]? = some x ∧ ((((w.alloc x).alloc y).alloc z).alloc u).heap[w.heap.size + 1]? = some y ∧ ((((w.alloc x).alloc y).alloc z).alloc u).heap[w.heap.size + 1 + 1]? = some z ∧ ((((w.alloc x).alloc y).alloc z).alloc u).heap[w.heap.size + 1 + 1 + 1]? = some u ∧ Below w.heap.size w ((((w.alloc x).alloc y).alloc z).alloc u) := by
  have e1 : (w.alloc x).heap.size = w.heap.size + 1 := by simp
  have e2 : ((w.alloc x).alloc y).heap.size = w.heap.size + 1 + 1 := by simp
  have e3 : (((w.alloc x).alloc y).alloc z).heap.size = w.heap.size + 1 + 1 + 1 := by simp
  refine ⟨heap_oldM (heap_oldM (heap_oldM (heap_alloc_new _ _))), heap_oldM (heap_oldM ?_), heap_oldM ?_, ?_, ((((Below.refl _ _).alloc (Nat.le_refl _) x).alloc (by omega) y).alloc (by omega) z).alloc (by omega) u⟩
  · rw [← e1]; exact heap_alloc_new _ _
  · rw [← e2]; exact heap_alloc_new _ _
  · rw [← e3]; exact heap_alloc_new _ _
theorem jsmg_any (t1 t2 : J) (p q : Nat → Prop) (v1 v2 : Value) (w : World) (hw1 : Wf t1) (hw2 : Wf t2) (hj1 : NN p w t1 v1) (hj2 : NN q w t2 v2) : Calls Try.prog 11 #[.bool false, v1, v2] w fun e w' => ∃ v c d, e = .returned (.tuple #[v, .bool true]) ∧ Mg t1 t2 c ∧ eqJ d c = true ∧ Wg d ∧ NN (fun x => w.heap.size ≤ x) w' d v ∧ Below w.heap.size w w' := by
  suffices H : ∀ (R : Ending → World → Prop), (∀ w' v c d, Mg t1 t2 c → eqJ d c = true → Wg d → NN (fun x => w.heap.size ≤ x) w' d v → Below w.heap.size w w' → R (.returned (.tuple #[v, .bool true])) w') → Calls Try.prog 11 #[.bool false, v1, v2] w R from H _ (fun w' v c d h1 h2 h3 h4 h5 => ⟨v, c, d, rfl, h1, h2, h3, h4, h5⟩)
  intro R hR
  have HRR := Lib.hid hR
  clear hR
  obtain ⟨A1, c1, B1, d1, rfl, _⟩ := hj1.five
  obtain ⟨A2, c2, B2, d2, rfl, _⟩ := hj2.five
  obtain ⟨hb1, hb2, hb3, hb4, hX⟩ := four_blocks w (.cells #[.int .i64 t1.k, .int .u64 (nb t1.k t1.n), .string t1.s, .slice A1 t1.ns.length c1, .slice B1 t1.is.length d1] 32) (.cells #[.int .i64 t2.k, .int .u64 (nb t2.k t2.n), .string t2.s, .slice A2 t2.ns.length c2, .slice B2 t2.is.length d2] 32) nz (.cells #[.bool false] 4)
  have HX := Lib.hid hX
  have HJ1 := Lib.hid (hj1.below hX)
  have HJ2 := Lib.hid (hj2.below hX)
  have HW1 := Lib.hid hw1
  have HW2 := Lib.hid hw2
  have HG1 := Lib.hid hb1
  have HG2 := Lib.hid hb2
  have HG3 := Lib.hid hb3
  have HG4 := Lib.hid hb4
  clear hj1 hj2 hw1 hw2 hb1 hb2 hb3 hb4 hX
  go_enter_defers Try.func11, Try.ntmps11
  go_upto_region 2 with fail
  generalize ((((w.alloc (.cells #[.int .i64 t1.k, .int .u64 (nb t1.k t1.n), .string t1.s, .slice A1 t1.ns.length c1, .slice B1 t1.is.length d1] 32)).alloc (.cells #[.int .i64 t2.k, .int .u64 (nb t2.k t2.n), .string t2.s, .slice A2 t2.ns.length c2, .slice B2 t2.is.length d2] 32)).alloc nz).alloc (.cells #[.bool false] 4)) = X at *
  have hg1 := Rv.lt_of_blk HG1.out
  have hg2 := Rv.lt_of_blk HG2.out
  have hg3 := Rv.lt_of_blk HG3.out
  have hg4 := Rv.lt_of_blk HG4.out
  refine wp_region_noPanic ?_
  refine Rv.region_fin2 (n := 15) (by kernel_rfl) #[8, 9, 10, 11, 12, 13, 14, 1007, 1008] #[] (fun i f W => if i = 8 then (fun f W => W.heap[w.heap.size + 1 + 1 + 1]? = some (.cells #[.bool true] 4 (0, 0))) f W else if i = 7 then (fun f W => ∃ (c d : J) (A5 : Option Addr) (c5 : Nat) (A6 : Option Addr) (c6 : Nat), Mg t1 t2 c ∧ eqJ d c = true ∧ Wg d ∧ NN (fun x => X.heap.size ≤ x) W d (.agg #[.int .i64 d.k, .int .u64 (nb d.k d.n), .string d.s, .slice A5 d.ns.length c5, .slice A6 d.is.length c6]) ∧ W.heap[w.heap.size + 1 + 1]? = some (.cells #[.int .i64 d.k, .int .u64 (nb d.k d.n), .string d.s, .slice A5 d.ns.length c5, .slice A6 d.is.length c6] 32 (0, 0))) f W else if i = 6 then (fun f W => ∃ c d : J, Mg t1 t2 c ∧ eqJ d c = true ∧ Wg d ∧ NN (fun x => X.heap.size ≤ x) W d (f 6)) f W else if i = 5 then (fun f W => ∃ c : J, Mg t1 t2 c ∧ IO (fun x => X.heap.size ≤ x) W c (f 5)) f W else if i = 3 then (fun f W => ∃ M, X.heap.size ≤ M ∧ M ≤ W.heap.size ∧ IO (fun x => X.heap.size ≤ x ∧ x < M) W t1 (f 1) ∧ IO (fun x => M ≤ x) W t2 (f 3)) f W else if i = 1 then (fun f W => IO (fun x => X.heap.size ≤ x) W t1 (f 1)) f W else f i = (#[.agg #[.int .i64 t1.k, .int .u64 (nb t1.k t1.n), .string t1.s, .slice A1 t1.ns.length c1, .slice B1 t1.is.length d1], undef, .agg #[.int .i64 t2.k, .int .u64 (nb t2.k t2.n), .string t2.s, .slice A2 t2.ns.length c2, .slice B2 t2.is.length d2], undef, .bool false, undef, undef, undef, undef] : Array Value).getD i undef) (fun i j => (i == 5 && (j == 1 || j == 3)) || (i == 7 && (j == 1 || j == 3 || j == 5 || j == 6)) || (i == 8 && (j == 1 || j == 3 || j == 5 || j == 6))) (fun i => i == 5 || i == 7 || i == 8) (fun i => i == 7 || i == 8) (fun i f W W' => if i = 8 then (fun f W W' => W.grownBy W' (some (w.heap.size + 1 + 1 + 1))) f W W' else True) (fun W => Below w.heap.size w W ∧ ∃ b : Bool, W.heap[w.heap.size + 1 + 1 + 1]? = some (.cells #[.bool b] 4 (0, 0))) (fun W => Below X.heap.size X W) (fun _ _ _ => True) (fun _ _ _ _ _ _ _ _ => trivial) (fun i f f' w hi h hd hg => ?_) (fun i j f w w' hi hj hij hK hdp h hr => ?_) (fun i h g b hg => ?_) rfl (by kernel_rfl) (fun i h g b hg => ?_) (⟨HX.out.drew, false, HG4.out⟩) ((Below.refl _ _).drew) (fun _ => trivial) (fun i h hr f w hf => ?_) (fun _ _ _ _ _ _ _ _ => trivial) ?_ ?_
  · by_cases hi1008 : i = 8
    · subst hi1008
      rw [if_pos rfl] at hg ⊢
      exact hg
    rw [if_neg hi1008] at hg ⊢
    by_cases hi1007 : i = 7
    · subst hi1007
      rw [if_pos rfl] at hg ⊢
      exact hg
    rw [if_neg hi1007] at hg ⊢
    by_cases hi14 : i = 6
    · subst hi14
      rw [if_pos rfl] at hg ⊢
      obtain ⟨c, d, q1, q2, q3, q4⟩ := hg
      rw [h] at q4
      exact ⟨c, d, q1, q2, q3, q4⟩
    rw [if_neg hi14] at hg ⊢
    by_cases hi13 : i = 5
    · subst hi13
      rw [if_pos rfl] at hg ⊢
      obtain ⟨c, q1, q2⟩ := hg
      rw [h] at q2
      exact ⟨c, q1, q2⟩
    rw [if_neg hi13] at hg ⊢
    by_cases hi11 : i = 3
    · subst hi11
      rw [if_pos rfl] at hg ⊢
      obtain ⟨M, q1, q2, q3, q4⟩ := hg
      rw [h] at q4
      rw [hd 1 rfl] at q3
      exact ⟨M, q1, q2, q3, q4⟩
    rw [if_neg hi11] at hg ⊢
    by_cases hi9 : i = 1
    · subst hi9
      rw [if_pos rfl] at hg ⊢
      have hz := hg
      rw [h] at hz
      exact hz
    rw [if_neg hi9] at hg ⊢
    rw [← h]; exact hg
  · by_cases hj1008 : j = 8
    · subst hj1008
      rw [if_pos rfl] at h ⊢
      rcases hr with ⟨hK1, hr⟩ | hr
      · have hi2 : i = 5 ∨ i = 7 ∨ i = 8 := by simpa [or_assoc] using hK1
        rcases hi2 with e | e | e
        · subst e; exfalso; revert hdp; decide
        · subst e; exfalso; revert hdp; decide
        · exact absurd e hij
      · exact (hr.block _ (Rv.lt_of_blk h)).trans h
    rw [if_neg hj1008] at h ⊢
    by_cases hj1007 : j = 7
    · subst hj1007
      rw [if_pos rfl] at h ⊢
      rcases hr with ⟨hK1, hr⟩ | hr
      · have hi2 : i = 5 ∨ i = 7 ∨ i = 8 := by simpa [or_assoc] using hK1
        rcases hi2 with e | e | e
        · subst e; exfalso; revert hdp; decide
        · exact absurd e hij
        · (subst e; rw [if_pos rfl] at hr; obtain ⟨c, d, A5, c5, A6, c6, h1, h2, h3, h4, h5⟩ := h; exact ⟨c, d, A5, c5, A6, c6, h1, h2, h3, h4.grown hr (fun x hx e => by injection e with e; omega), blk_grown h5 hr (fun e => by injection e with e; omega)⟩)
      · obtain ⟨c, d, A5, c5, A6, c6, h1, h2, h3, h4, h5⟩ := h
        exact ⟨c, d, A5, c5, A6, c6, h1, h2, h3, h4.below hr, (hr.block _ (Rv.lt_of_blk h5)).trans h5⟩
    rw [if_neg hj1007] at h ⊢
    by_cases hj14 : j = 6
    · subst hj14
      rw [if_pos rfl] at h ⊢
      rcases hr with ⟨hK1, hr⟩ | hr
      · have hi2 : i = 5 ∨ i = 7 ∨ i = 8 := by simpa [or_assoc] using hK1
        rcases hi2 with e | e | e
        · subst e; exfalso; revert hdp; decide
        · subst e; exfalso; revert hK; decide
        · subst e; exfalso; revert hK; decide
      · obtain ⟨c, d, h1, h2, h3, h4⟩ := h
        exact ⟨c, d, h1, h2, h3, h4.below hr⟩
    rw [if_neg hj14] at h ⊢
    by_cases hj13 : j = 5
    · subst hj13
      rw [if_pos rfl] at h ⊢
      rcases hr with ⟨hK1, hr⟩ | hr
      · have hi2 : i = 5 ∨ i = 7 ∨ i = 8 := by simpa [or_assoc] using hK1
        rcases hi2 with e | e | e
        · exact absurd e hij
        · subst e; exfalso; revert hK; decide
        · subst e; exfalso; revert hK; decide
      · obtain ⟨c, h1, h2⟩ := h
        exact ⟨c, h1, h2.below hr⟩
    rw [if_neg hj13] at h ⊢
    by_cases hj11 : j = 3
    · subst hj11
      rw [if_pos rfl] at h ⊢
      rcases hr with ⟨hK1, hr⟩ | hr
      · have hi2 : i = 5 ∨ i = 7 ∨ i = 8 := by simpa [or_assoc] using hK1
        rcases hi2 with e | e | e
        · subst e; exfalso; revert hK; decide
        · subst e; exfalso; revert hK; decide
        · subst e; exfalso; revert hK; decide
      · obtain ⟨M, h1, h2, h3, h4⟩ := h
        exact ⟨M, h1, Nat.le_trans h2 hr.size, h3.below hr, h4.below hr⟩
    rw [if_neg hj11] at h ⊢
    by_cases hj9 : j = 1
    · subst hj9
      rw [if_pos rfl] at h ⊢
      rcases hr with ⟨hK1, hr⟩ | hr
      · have hi2 : i = 5 ∨ i = 7 ∨ i = 8 := by simpa [or_assoc] using hK1
        rcases hi2 with e | e | e
        · subst e; exfalso; revert hK; decide
        · subst e; exfalso; revert hK; decide
        · subst e; exfalso; revert hK; decide
      · exact h.below hr
    rw [if_neg hj9] at h ⊢
    exact h
  · match i, h, hg with
    | 0, _, hg => cases hg
    | 1, _, hg => cases hg
    | 2, _, hg => cases hg
    | 3, _, hg => cases hg
    | 4, _, hg => cases hg
    | 5, _, hg => cases hg
    | 6, _, hg => cases hg
    | 7, _, hg => cases hg
    | 8, _, hg => cases hg
    | m + 9, h, _ => exact absurd h (by show ¬ m + 9 < 9; omega)
  · match i, h, hg with
    | 0, _, hg => cases hg
    | 1, _, hg => cases hg
    | 2, _, hg => cases hg
    | 3, _, hg => cases hg
    | 4, _, hg => cases hg
    | 5, _, hg => cases hg
    | 6, _, hg => cases hg
    | 7, _, hg => cases hg
    | 8, _, hg => cases hg
    | m + 9, h, _ => exact absurd h (by show ¬ m + 9 < 9; omega)
  · match i, h, hr, hf with
    | 0, _, hr, _ => exact Bool.noConfusion (show true = false from hr)
    | 1, _, hr, _ => exact Bool.noConfusion (show true = false from hr)
    | 2, _, hr, _ => exact Bool.noConfusion (show true = false from hr)
    | 3, _, hr, _ => exact Bool.noConfusion (show true = false from hr)
    | 4, _, hr, _ => exact Bool.noConfusion (show true = false from hr)
    | 5, _, hr, _ => exact Bool.noConfusion (show true = false from hr)
    | 6, _, hr, _ => exact Bool.noConfusion (show true = false from hr)
    | 7, _, hr, _ => exact Bool.noConfusion (show true = false from hr)
    | 8, _, hr, _ => exact Bool.noConfusion (show true = false from hr)
    | m + 9, h, _, _ => exact absurd h (by show ¬ m + 9 < 9; omega)
  · intro i h a W hrun hbase hpre hdep htr hta hJ
    match i, h with
    | 0, _ =>
      obtain ⟨e4, x4⟩ := Rv.ev (show a.tmps.getD 4 undef = .pointer (some ⟨w.heap.size, 0, none⟩) from hbase 4 rfl)
      obtain ⟨y0, y1, y2, y3, y4⟩ := Rv.cells5 (((hta (by decide)).block _ hg1).trans HG1.out)
      exact Rv.step_op (op := Go.Op.load 32 (Go.Operand.tmp 4)) (v := .agg #[.int .i64 t1.k, .int .u64 (nb t1.k t1.n), .string t1.s, .slice A1 t1.ns.length c1, .slice B1 t1.is.length d1]) (w1 := W) rfl rfl (fun d pos aft g => by unfold execOp; go_simp) ⟨_, rfl, rfl, .inr (Below.refl _ _), htr, fun _ ht => ht, fun _ _ _ => trivial⟩
    | 1, _ =>
      obtain ⟨e8, x8⟩ := Rv.ev (show a.tmps.getD 8 undef = .agg #[.int .i64 t1.k, .int .u64 (nb t1.k t1.n), .string t1.s, .slice A1 t1.ns.length c1, .slice B1 t1.is.length d1] from hdep 0 rfl rfl)
      have cf : ∀ x0 W, (callFunc 16 #[x0]).run Try.prog W = .ok (.enter 16 #[x0]) W := fun _ _ => by kernel_rfl
      have hx := (hta (by decide)).size
      refine Rv.step_fn (op := Go.Op.call { callee := Go.Callee.value (Go.Operand.func 16), args := #[Go.Operand.tmp 8], argTypes := #[32] }) (ty := 20) (f := 16) (args := #[.agg #[.int .i64 t1.k, .int .u64 (nb t1.k t1.n), .string t1.s, .slice A1 t1.ns.length c1, .slice B1 t1.is.length d1]]) (R := fun v W' => IO (fun x => W.heap.size ≤ x) W' t1 v ∧ Below W.heap.size W W') rfl rfl (fun d pos aft g => by unfold execOp; go_simp) ((vio_any t1 _ _ W HW1.out (HJ1.out.below (hta (by decide)))).mono ?_) ?_
      · (rintro e W' ⟨u, rfl, hu, hc, hb⟩; exact ⟨_, rfl, hu, hb⟩)
      · (rintro v W' ⟨hv, hb⟩; exact ⟨_, rfl, hv.mono (fun x hx' => Nat.le_trans hx hx'), .inr hb, ⟨htr.1.trans (hb.mono htr.1.size), htr.2.imp fun b hq => (hb.block _ (Rv.lt_of_blk hq)).trans hq⟩, (fun _ ht => ht.trans (hb.mono ht.size)), fun _ _ _ => trivial⟩)
    | 2, _ =>
      obtain ⟨e5, x5⟩ := Rv.ev (show a.tmps.getD 5 undef = .pointer (some ⟨w.heap.size + 1, 0, none⟩) from hbase 5 rfl)
      obtain ⟨y0, y1, y2, y3, y4⟩ := Rv.cells5 (((hta (by decide)).block _ hg2).trans HG2.out)
      exact Rv.step_op (op := Go.Op.load 32 (Go.Operand.tmp 5)) (v := .agg #[.int .i64 t2.k, .int .u64 (nb t2.k t2.n), .string t2.s, .slice A2 t2.ns.length c2, .slice B2 t2.is.length d2]) (w1 := W) rfl rfl (fun d pos aft g => by unfold execOp; go_simp) ⟨_, rfl, rfl, .inr (Below.refl _ _), htr, fun _ ht => ht, fun _ _ _ => trivial⟩
    | 3, _ =>
      obtain ⟨e10, x10⟩ := Rv.ev (show a.tmps.getD 10 undef = .agg #[.int .i64 t2.k, .int .u64 (nb t2.k t2.n), .string t2.s, .slice A2 t2.ns.length c2, .slice B2 t2.is.length d2] from hdep 2 rfl rfl)
      have cf : ∀ x0 W, (callFunc 16 #[x0]).run Try.prog W = .ok (.enter 16 #[x0]) W := fun _ _ => by kernel_rfl
      have hx := (hta (by decide)).size
      have n9 : IO (fun x => X.heap.size ≤ x) W t1 (a.tmps.getD 9 undef) := hdep 1 rfl rfl
      refine Rv.step_fn (op := Go.Op.call { callee := Go.Callee.value (Go.Operand.func 16), args := #[Go.Operand.tmp 10], argTypes := #[32] }) (ty := 20) (f := 16) (args := #[.agg #[.int .i64 t2.k, .int .u64 (nb t2.k t2.n), .string t2.s, .slice A2 t2.ns.length c2, .slice B2 t2.is.length d2]]) (R := fun v W' => IO (fun x => W.heap.size ≤ x) W' t2 v ∧ Below W.heap.size W W') rfl rfl (fun d pos aft g => by unfold execOp; go_simp) ((vio_any t2 _ _ W HW2.out (HJ2.out.below (hta (by decide)))).mono ?_) ?_
      · (rintro e W' ⟨u, rfl, hu, hc, hb⟩; exact ⟨_, rfl, hu, hb⟩)
      · (rintro v W' ⟨hv, hb⟩; exact ⟨_, rfl, ⟨W.heap.size, hx, hb.size, n9.bound.below hb, hv⟩, .inr hb, ⟨htr.1.trans (hb.mono htr.1.size), htr.2.imp fun b hq => (hb.block _ (Rv.lt_of_blk hq)).trans hq⟩, (fun _ ht => ht.trans (hb.mono ht.size)), fun _ _ _ => trivial⟩)
    | 4, _ =>
      obtain ⟨e0, x0⟩ := Rv.ev (show a.tmps.getD 0 undef = .bool false from hbase 0 rfl)
      exact Rv.step_op (op := Go.Op.move (Go.Operand.tmp 0)) (v := .bool false) (w1 := W) rfl rfl (fun d pos aft g => by unfold execOp; go_simp) ⟨_, rfl, rfl, .inr (Below.refl _ _), htr, fun _ ht => ht, fun _ _ _ => trivial⟩
    | 5, _ =>
      obtain ⟨M, m1, m2, n9, n11⟩ : ∃ M, X.heap.size ≤ M ∧ M ≤ W.heap.size ∧ IO (fun x => X.heap.size ≤ x ∧ x < M) W t1 (a.tmps.getD 9 undef) ∧ IO (fun x => M ≤ x) W t2 (a.tmps.getD 11 undef) := hdep 3 rfl rfl
      obtain ⟨v9, q9⟩ : ∃ v, a.tmps.getD 9 undef = v := ⟨_, rfl⟩
      obtain ⟨v11, q11⟩ : ∃ v, a.tmps.getD 11 undef = v := ⟨_, rfl⟩
      rw [q9] at n9
      rw [q11] at n11
      obtain ⟨e9, x9⟩ := Rv.ev q9
      obtain ⟨e11, x11⟩ := Rv.ev q11
      obtain ⟨e12, x12⟩ := Rv.ev (show a.tmps.getD 12 undef = .bool false from hdep 4 rfl rfl)
      have cf : ∀ x0 x1 x2 W, (callFunc 24 #[x0, x1, x2]).run Try.prog W = .ok (.enter 24 #[x0, x1, x2]) W := fun _ _ _ _ => by kernel_rfl
      have hx := (hta (by decide)).size
      have hxw := HX.out.size
      refine Rv.step_fn (op := Go.Op.call { callee := Go.Callee.value (Go.Operand.func 24), args := #[Go.Operand.tmp 9, Go.Operand.tmp 11, Go.Operand.tmp 12], argTypes := #[20, 20, 4] }) (ty := 20) (f := 24) (args := #[v9, v11, .bool false]) (R := fun v W' => (∃ c : J, Mg t1 t2 c ∧ IO (fun x => X.heap.size ≤ x) W' c v) ∧ Below X.heap.size W W') rfl rfl (fun d pos aft g => by unfold execOp; go_simp) ((mdoor_any t1 t2 _ _ v9 v11 W X.heap.size HW1.out HW2.out n9 n11.bound (fun x h1 h2 => by have := h1.2; have := h2.1; omega) (fun x h => h.2) (fun x h => h.elim (fun h => h.1) (fun h => Nat.le_trans m1 h.1)) hx).mono ?_) ?_
      · (rintro e W' ⟨u, c, rfl, hg, hio, hs, hb⟩; exact ⟨_, rfl, ⟨c, hg, hio.mono (fun x h => by rcases h with h | h | h; exact h.1; exact Nat.le_trans m1 h.1; exact Nat.le_trans hx h)⟩, hb⟩)
      · (rintro v W' ⟨hv, hb⟩; exact ⟨_, rfl, hv, .inl ⟨rfl, trivial⟩, ⟨htr.1.trans (hb.mono hxw), htr.2.imp fun b hq => (hb.block _ hg4).trans hq⟩, (fun _ ht => ht.trans hb), fun _ _ _ => trivial⟩)
    | 6, _ =>
      obtain ⟨cc, g13, n13⟩ : ∃ c : J, Mg t1 t2 c ∧ IO (fun x => X.heap.size ≤ x) W c (a.tmps.getD 13 undef) := hdep 5 rfl rfl
      obtain ⟨v13, q13⟩ : ∃ v, a.tmps.getD 13 undef = v := ⟨_, rfl⟩
      rw [q13] at n13
      obtain ⟨e13, x13⟩ := Rv.ev q13
      have cf : ∀ x0 W, (callFunc 23 #[x0]).run Try.prog W = .ok (.enter 23 #[x0]) W := fun _ _ => by kernel_rfl
      have hx := (hta (by decide)).size
      refine Rv.step_fn (op := Go.Op.call { callee := Go.Callee.value (Go.Operand.func 23), args := #[Go.Operand.tmp 13], argTypes := #[20] }) (ty := 32) (f := 23) (args := #[v13]) (R := fun v W' => (∃ c d : J, Mg t1 t2 c ∧ eqJ d c = true ∧ Wg d ∧ NN (fun x => X.heap.size ≤ x) W' d v) ∧ Below W.heap.size W W') rfl rfl (fun d pos aft g => by unfold execOp; go_simp) ((node_any cc _ v13 W (g13.wg HW1.out HW2.out) n13.iv).mono ?_) ?_
      · (rintro e W' ⟨v, d, rfl, hn, he, hg, hb⟩; exact ⟨_, rfl, ⟨cc, d, g13, he, hg, hn.weak (fun x _ hx' => Nat.le_trans hx hx')⟩, hb⟩)
      · (rintro v W' ⟨hv, hb⟩; exact ⟨_, rfl, hv, .inr hb, ⟨htr.1.trans (hb.mono htr.1.size), htr.2.imp fun b hq => (hb.block _ (Rv.lt_of_blk hq)).trans hq⟩, (fun _ ht => ht.trans (hb.mono ht.size)), fun _ _ _ => trivial⟩)
    | 7, _ =>
      obtain ⟨e6, x6⟩ := Rv.ev (show a.tmps.getD 6 undef = .pointer (some ⟨w.heap.size + 1 + 1, 0, none⟩) from hbase 6 rfl)
      obtain ⟨cc, dd, g14, h14, w14, n14⟩ : ∃ c d : J, Mg t1 t2 c ∧ eqJ d c = true ∧ Wg d ∧ NN (fun x => X.heap.size ≤ x) W d (a.tmps.getD 14 undef) := hdep 6 rfl rfl
      obtain ⟨v14, q14⟩ : ∃ v, a.tmps.getD 14 undef = v := ⟨_, rfl⟩
      rw [q14] at n14
      obtain ⟨A5, c5, A6, c6, ez, _⟩ := n14.five
      subst ez
      obtain ⟨e14, x14⟩ := Rv.ev q14
      have hta1 := hta (by decide)
      have hq := (hta1.block _ hg3).trans HG3.out
      obtain ⟨s0, s1, s2, s3, s4⟩ := Rv.cells5 hq
      obtain ⟨t0, t1', t2', t3, t4⟩ := Rv.frozen5 hq
      have gs := fun (V : World) j u => grown_set (Below.refl _ V) (w.heap.size + 1 + 1) j u
      have hgg := grown_then (grown_then (grown_then (grown_then (gs W 0 (.int .i64 dd.k)) (gs _ 1 (.int .u64 (nb dd.k dd.n)))) (gs _ 2 (.string dd.s))) (gs _ 3 (.slice A5 dd.ns.length c5))) (gs _ 4 (.slice A6 dd.is.length c6))
      exact Rv.step_skip (op := Go.Op.store 32 (Go.Operand.tmp 6) (Go.Operand.tmp 14)) (ty := 0) (w1 := (((((W.setCell ⟨w.heap.size + 1 + 1, 0, none⟩ (.int .i64 dd.k)).setCell ⟨w.heap.size + 1 + 1, 1, none⟩ (.int .u64 (nb dd.k dd.n))).setCell ⟨w.heap.size + 1 + 1, 2, none⟩ (.string dd.s)).setCell ⟨w.heap.size + 1 + 1, 3, none⟩ (.slice A5 dd.ns.length c5)).setCell ⟨w.heap.size + 1 + 1, 4, none⟩ (.slice A6 dd.is.length c6))) rfl rfl (fun d pos aft g => by unfold execOp; go_simp) ⟨undef, rfl, ⟨cc, dd, A5, c5, A6, c6, g14, h14, w14, n14.grown hgg (fun x hx e => by injection e with e; omega), Rv.sets5 hq _ _ _ _ _⟩, .inl ⟨rfl, trivial⟩, ⟨htr.1.grown hgg htr.1.size (fun k hk => by injection hk with hk; omega), htr.2.imp fun b hq => blk_grown hq hgg (fun e => by injection e with e; omega)⟩, (fun h _ => by cases h), fun _ _ _ => trivial⟩
    | 8, _ =>
      obtain ⟨e7, x7⟩ := Rv.ev (show a.tmps.getD 7 undef = .pointer (some ⟨w.heap.size + 1 + 1 + 1, 0, none⟩) from hbase 7 rfl)
      obtain ⟨b0, hq⟩ := htr.2
      have s0 := Rv.cells1 hq
      have t0 := Rv.frozen1 hq
      have gs := grown_set (Below.refl _ W) (w.heap.size + 1 + 1 + 1) 0 (.bool true)
      exact Rv.step_skip (op := Go.Op.store 4 (Go.Operand.tmp 7) (Go.Operand.const (Go.Value.bool true))) (ty := 0) (w1 := W.setCell ⟨w.heap.size + 1 + 1 + 1, 0, none⟩ (.bool true)) rfl rfl (fun d pos aft g => by unfold execOp; go_simp) ⟨undef, rfl, Rv.sets1 hq _, .inl ⟨rfl, (by rw [if_pos rfl]; exact gs)⟩, ⟨htr.1.grown gs htr.1.size (fun k hk => by injection hk with hk; omega), true, Rv.sets1 hq _⟩, (fun h _ => by cases h), fun _ _ _ => trivial⟩
    | m + 9, h => exact absurd h (by show ¬ m + 9 < 9; omega)
  intro W f hf htr hJ
  have f0 : f 0 = .agg #[.int .i64 t1.k, .int .u64 (nb t1.k t1.n), .string t1.s, .slice A1 t1.ns.length c1, .slice B1 t1.is.length d1] := hf 0 (by show 0 < 9; omega) rfl
  have f2 : f 2 = .agg #[.int .i64 t2.k, .int .u64 (nb t2.k t2.n), .string t2.s, .slice A2 t2.ns.length c2, .slice B2 t2.is.length d2] := hf 2 (by show 2 < 9; omega) rfl
  have f4 : f 4 = .bool false := hf 4 (by show 4 < 9; omega) rfl
  have HS7 := Lib.hid (show (fun f W => ∃ (c d : J) (A5 : Option Addr) (c5 : Nat) (A6 : Option Addr) (c6 : Nat), Mg t1 t2 c ∧ eqJ d c = true ∧ Wg d ∧ NN (fun x => X.heap.size ≤ x) W d (.agg #[.int .i64 d.k, .int .u64 (nb d.k d.n), .string d.s, .slice A5 d.ns.length c5, .slice A6 d.is.length c6]) ∧ W.heap[w.heap.size + 1 + 1]? = some (.cells #[.int .i64 d.k, .int .u64 (nb d.k d.n), .string d.s, .slice A5 d.ns.length c5, .slice A6 d.is.length c6] 32 (0, 0))) f W from hf 7 (by show 7 < 9; omega) rfl)
  have HS8 := Lib.hid (show (fun f W => W.heap[w.heap.size + 1 + 1 + 1]? = some (.cells #[.bool true] 4 (0, 0))) f W from hf 8 (by show 8 < 9; omega) rfl)
  clear hf
  refine (show ∀ (a : Act) (w : World), Code.wp _ _ _ a w → _ from by assumption) _ _ ?_
  refine Rv.fin_swap (L' := [(8, f 0), (9, f 1), (10, f 2), (11, f 3), (12, f 4), (13, f 5), (14, f 6), (1007, f 7), (1008, f 8)]) rfl ?_
  rw [f0, f2, f4]
  clear f0 f2 f4
  simp only [Rv.fin, List.foldl_cons, List.foldl_nil, Act.put, List.setIfInBounds_toArray, List.set_cons_succ, List.set_cons_zero, List.set_nil]
  obtain ⟨c, d, A5, c5, A6, c6, h1, h2, h3, h4, h5⟩ := HS7.out
  have q9 := Rv.cells1 HS8.out
  obtain ⟨q0, q1, q2, q3, q4⟩ := Rv.cells5 h5
  have HR := Lib.hid (HRR.out W _ c d h1 h2 h3 (h4.weak (q := fun x => w.heap.size ≤ x) (fun x _ hx => by have := HX.out.size; omega)) htr.1)
  clear h1 h2 h3 h4 h5 htr HS7 HS8
  go_wp2
  refine leaves_cons (f := 18) (args := #[.pointer (some ⟨w.heap.size + 1 + 1 + 1, 0, none⟩)]) (by simp) (by simp [go_sem]) ?_
  refine (caught_idleM ⟨w.heap.size + 1 + 1 + 1, 0, none⟩ _).mono ?_
  rintro e u' w'' ⟨rfl, rfl, rfl⟩
  simp [Leaves, settle, results, go_sem, q0, q1, q2, q3, q4, q9]
  exact HR.out
end Go.Proofs.Ytmelgankbegjaaa.Js

/- Whether points are small whole numbers: the walk of the test. Conditions: those written at each lemma. -/
import Derived.Test.YtfelbaibbanllaaGreatGee
import Derived.Test.YtfelbaibbanllaaGreatRv
set_option linter.unusedVariables false
set_option linter.unusedSimpArgs false
set_option maxRecDepth 100000
set_option maxHeartbeats 4000000
namespace Go.Proofs.YtfelbaibbanllaaGreat.Ge
open Go.RowKit Go.Proofs.YtfelbaibbanllaaGreat.B
attribute [local go_sem] run_store_float

/-- Above 1000, either way. -/
def gt (x : Nat) : Bool := FloatKind.f64.format.order (x % 9223372036854775808) 4652007308841189376 == some .gt
/-- A point is not one of small whole numbers. -/
def bad (p : Nat × Nat) : Bool := !tq p.1 || !tq p.2 || gt p.1 || gt p.2
theorem neq_of {x z : Nat} {b : Bool} (h : (FloatKind.f64.format.order x z == some .eq) = b) : (FloatKind.f64.format.order x z != some .eq) = !b := by rw [← h]; rfl
theorem gt_raw {x : Nat} {b : Bool} (h : gt x = b) : (FloatKind.f64.format.order (x % 9223372036854775808) 4652007308841189376 == some .gt) = b := h
theorem test_any (p : Nat × Nat) (w : World) (hx : p.1 < 18446744073709551616) (hy : p.2 < 18446744073709551616) : Calls Tryz.prog 14 #[ptV p] w fun e w' => e = .returned (.bool (bad p)) ∧ Below w.heap.size w w' := by
  obtain ⟨x, y⟩ := p
  have TX := Lib.hid (fun W => trunc_any x W)
  have TY := Lib.hid (fun W => trunc_any y W)
  have AX := Lib.hid (fun W => abs_any x W hx)
  have AY := Lib.hid (fun W => abs_any y W hy)
  have HN := Lib.hid (heap_alloc_new w (.cells #[.float .f64 x, .float .f64 y] 24))
  have HX := Lib.hid ((Below.refl w.heap.size w).alloc (Nat.le_refl _) (.cells #[.float .f64 x, .float .f64 y] 24))
  have hs : w.heap.size < (w.alloc (.cells #[.float .f64 x, .float .f64 y] 24)).heap.size := by simp
  unfold bad
  simp only
  cases h1 : tq x
  · have H1 := Lib.hid h1
    clear h1
    simp only [Bool.not_false, Bool.true_or]
    go_enter Tryz.func14, Tryz.ntmps14
    go_upto_region 1 with fail
    generalize (w.alloc (.cells #[.float .f64 x, .float .f64 y] 24)) = X at *
    refine Rv.region_goods (n := 29) (by kernel_rfl) #[3, 4, 5, 6, 7, 8, 9, 10, 11, 12, 13, 14, 15, 16, 17, 18, 19, 20, 21, 22, 23, 24, 25, 26, 27, 28, 2] #[none, none, none, none, none, none, some true, none, none, none, none, none, none, none, some true, none, none, none, none, none, some true] (fun i v W => if i = 4 then (fun v _ => ∃ z, v = .float .f64 z ∧ (FloatKind.f64.format.order x z == some .eq) = false) v W else v = (#[.pointer (some ⟨w.heap.size, 0, none⟩), .float .f64 x, .pointer (some ⟨w.heap.size, 0, none⟩), .float .f64 x, undef, .bool true, .bool true, undef, undef, undef, undef, undef, undef, Go.Value.bool true, Go.Value.bool true, undef, undef, undef, undef, Go.Value.bool true, Go.Value.bool true, undef, undef, undef, undef, Go.Value.bool true, Go.Value.bool true] : Array Value).getD i undef) (fun i v w w' h hb => ?_) (fun i h g b hg => ?_) rfl (by kernel_rfl) (by kernel_rfl) (fun i h hr w => ?_) ?_ ?_
    · by_cases hi7 : i = 4
      · subst hi7
        rw [if_pos rfl] at h ⊢
        exact (fun _ _ _ h _ => h) v w w' h hb
      rw [if_neg hi7] at h ⊢
      exact h
    · match i, h, hg with
      | 0, _, hg => cases hg
      | 1, _, hg => cases hg
      | 2, _, hg => cases hg
      | 3, _, hg => cases hg
      | 4, _, hg => cases hg
      | 5, _, hg => cases hg
      | 6, _, hg => cases hg
      | 7, _, hg => (cases hg; exact fun v w e => e)
      | 8, _, hg => (cases hg; exact fun v w e => e)
      | 9, _, hg => (cases hg; exact fun v w e => e)
      | 10, _, hg => (cases hg; exact fun v w e => e)
      | 11, _, hg => (cases hg; exact fun v w e => e)
      | 12, _, hg => (cases hg; exact fun v w e => e)
      | 13, _, hg => cases hg
      | 14, _, hg => cases hg
      | 15, _, hg => (cases hg; exact fun v w e => e)
      | 16, _, hg => (cases hg; exact fun v w e => e)
      | 17, _, hg => (cases hg; exact fun v w e => e)
      | 18, _, hg => (cases hg; exact fun v w e => e)
      | 19, _, hg => cases hg
      | 20, _, hg => cases hg
      | 21, _, hg => (cases hg; exact fun v w e => e)
      | 22, _, hg => (cases hg; exact fun v w e => e)
      | 23, _, hg => (cases hg; exact fun v w e => e)
      | 24, _, hg => (cases hg; exact fun v w e => e)
      | 25, _, hg => cases hg
      | 26, _, hg => cases hg
      | m + 27, h, _ => exact absurd h (by show ¬ m + 27 < 27; omega)
    · match i, h, hr with
      | 0, _, hr => exact Bool.noConfusion (show true = false from hr)
      | 1, _, hr => exact Bool.noConfusion (show true = false from hr)
      | 2, _, hr => exact Bool.noConfusion (show true = false from hr)
      | 3, _, hr => exact Bool.noConfusion (show true = false from hr)
      | 4, _, hr => exact Bool.noConfusion (show true = false from hr)
      | 5, _, hr => exact Bool.noConfusion (show true = false from hr)
      | 6, _, hr => exact Bool.noConfusion (show true = false from hr)
      | 7, _, hr => rfl
      | 8, _, hr => rfl
      | 9, _, hr => rfl
      | 10, _, hr => rfl
      | 11, _, hr => rfl
      | 12, _, hr => rfl
      | 13, _, hr => exact Bool.noConfusion (show true = false from hr)
      | 14, _, hr => exact Bool.noConfusion (show true = false from hr)
      | 15, _, hr => rfl
      | 16, _, hr => rfl
      | 17, _, hr => rfl
      | 18, _, hr => rfl
      | 19, _, hr => exact Bool.noConfusion (show true = false from hr)
      | 20, _, hr => exact Bool.noConfusion (show true = false from hr)
      | 21, _, hr => rfl
      | 22, _, hr => rfl
      | 23, _, hr => rfl
      | 24, _, hr => rfl
      | 25, _, hr => exact Bool.noConfusion (show true = false from hr)
      | 26, _, hr => exact Bool.noConfusion (show true = false from hr)
      | m + 27, h, _ => exact absurd h (by show ¬ m + 27 < 27; omega)
    · intro i h a W hrun hbase hpre hdep htr
      obtain ⟨c0, c1, _, _⟩ := cells_two ((htr.block _ hs).trans HN.out)
      match i, h with
      | 0, _ =>
        obtain ⟨e1, x1⟩ := Rv.ev (show a.tmps.getD 1 undef = .pointer (some ⟨w.heap.size, 0, none⟩) from hbase 1 rfl)
        exact Rv.step_op (op := Go.Op.indexAddr 24 (Go.Operand.tmp 1) (Go.Operand.const (Go.Value.int Go.IntKind.i64 0))) (v := .pointer (some ⟨w.heap.size, 0, none⟩)) (w1 := W) rfl rfl (fun d pos aft g => by unfold execOp; go_simp) ⟨_, rfl, rfl, Below.refl _ _⟩
      | 1, _ =>
        obtain ⟨e3, x3⟩ := Rv.ev (show a.tmps.getD 3 undef = .pointer (some ⟨w.heap.size, 0, none⟩) from hdep 0 rfl)
        exact Rv.step_op (op := Go.Op.load 22 (Go.Operand.tmp 3)) (v := .float .f64 x) (w1 := W) rfl rfl (fun d pos aft g => by unfold execOp; go_simp) ⟨_, rfl, rfl, Below.refl _ _⟩
      | 2, _ =>
        obtain ⟨e1, x1⟩ := Rv.ev (show a.tmps.getD 1 undef = .pointer (some ⟨w.heap.size, 0, none⟩) from hbase 1 rfl)
        exact Rv.step_op (op := Go.Op.indexAddr 24 (Go.Operand.tmp 1) (Go.Operand.const (Go.Value.int Go.IntKind.i64 0))) (v := .pointer (some ⟨w.heap.size, 0, none⟩)) (w1 := W) rfl rfl (fun d pos aft g => by unfold execOp; go_simp) ⟨_, rfl, rfl, Below.refl _ _⟩
      | 3, _ =>
        obtain ⟨e5, x5⟩ := Rv.ev (show a.tmps.getD 5 undef = .pointer (some ⟨w.heap.size, 0, none⟩) from hdep 2 rfl)
        exact Rv.step_op (op := Go.Op.load 22 (Go.Operand.tmp 5)) (v := .float .f64 x) (w1 := W) rfl rfl (fun d pos aft g => by unfold execOp; go_simp) ⟨_, rfl, rfl, Below.refl _ _⟩
      | 4, _ =>
        obtain ⟨e6, x6⟩ := Rv.ev (show a.tmps.getD 6 undef = .float .f64 x from hdep 3 rfl)
        have cf : ∀ x0 W, (callFunc 15 #[x0]).run Tryz.prog W = .ok (.enter 15 #[x0]) W := fun _ _ => by kernel_rfl
        refine Rv.step_fn (op := Go.Op.call { callee := Go.Callee.value (Go.Operand.func 15), args := #[Go.Operand.tmp 6], argTypes := #[22] }) (ty := 22) (f := 15) (args := #[.float .f64 x]) (R := fun v W' => (∃ z, v = .float .f64 z ∧ (FloatKind.f64.format.order x z == some .eq) = false) ∧ Below W.heap.size W W') rfl rfl (fun d pos aft g => by unfold execOp; go_simp) ((TX.out W).mono ?_) ?_
        · (rintro e W' ⟨z, rfl, hz, hb⟩; exact ⟨_, rfl, ⟨z, rfl, hz.trans H1.out⟩, hb⟩)
        · (rintro v W' ⟨hz, hb⟩; exact ⟨v, rfl, hz, hb⟩)
      | 5, _ =>
        obtain ⟨e4, x4⟩ := Rv.ev (show a.tmps.getD 4 undef = .float .f64 x from hdep 1 rfl)
        obtain ⟨z, ez, hz⟩ : ∃ z, a.tmps.getD 7 undef = .float .f64 z ∧ (FloatKind.f64.format.order x z == some .eq) = false := hdep 4 rfl
        obtain ⟨e7, x7⟩ := Rv.ev ez
        have hz2 := neq_of hz
        exact Rv.step_op (op := Go.Op.binOp Go.BinOp.neq 22 (Go.Operand.tmp 4) (Go.Operand.tmp 7) 22) (v := .bool true) (w1 := W) rfl rfl (fun d pos aft g => by unfold execOp; go_simp) ⟨_, rfl, rfl, Below.refl _ _⟩
      | 6, _ =>
        obtain ⟨e8, x8⟩ := Rv.ev (show a.tmps.getD 8 undef = .bool true from hdep 5 rfl)
        exact Rv.step_op (op := Go.Op.move (Go.Operand.tmp 8)) (v := .bool true) (w1 := W) rfl rfl (fun d pos aft g => by unfold execOp; go_simp) ⟨_, rfl, rfl, Below.refl _ _⟩
      | 7, _ => exact Bool.noConfusion (show false = true from hrun)
      | 8, _ => exact Bool.noConfusion (show false = true from hrun)
      | 9, _ => exact Bool.noConfusion (show false = true from hrun)
      | 10, _ => exact Bool.noConfusion (show false = true from hrun)
      | 11, _ => exact Bool.noConfusion (show false = true from hrun)
      | 12, _ => exact Bool.noConfusion (show false = true from hrun)
      | 13, _ =>
        obtain ⟨e9, x9⟩ := Rv.ev (show a.tmps.getD 9 undef = .bool true from hdep 6 rfl)
        obtain ⟨e15, x15⟩ := Rv.ev (show a.tmps.getD 15 undef = undef from hdep 12 rfl)
        exact Rv.step_op (op := Go.Op.pick (Go.Operand.tmp 9) (Go.Operand.const (Go.Value.bool true)) (Go.Operand.tmp 15)) (v := Go.Value.bool true) (w1 := W) rfl rfl (fun d pos aft g => by unfold execOp; go_simp) ⟨_, rfl, rfl, Below.refl _ _⟩
      | 14, _ =>
        obtain ⟨e16, x16⟩ := Rv.ev (show a.tmps.getD 16 undef = Go.Value.bool true from hdep 13 rfl)
        exact Rv.step_op (op := Go.Op.move (Go.Operand.tmp 16)) (v := Go.Value.bool true) (w1 := W) rfl rfl (fun d pos aft g => by unfold execOp; go_simp) ⟨_, rfl, rfl, Below.refl _ _⟩
      | 15, _ => exact Bool.noConfusion (show false = true from hrun)
      | 16, _ => exact Bool.noConfusion (show false = true from hrun)
      | 17, _ => exact Bool.noConfusion (show false = true from hrun)
      | 18, _ => exact Bool.noConfusion (show false = true from hrun)
      | 19, _ =>
        obtain ⟨e17, x17⟩ := Rv.ev (show a.tmps.getD 17 undef = Go.Value.bool true from hdep 14 rfl)
        obtain ⟨e21, x21⟩ := Rv.ev (show a.tmps.getD 21 undef = undef from hdep 18 rfl)
        exact Rv.step_op (op := Go.Op.pick (Go.Operand.tmp 17) (Go.Operand.const (Go.Value.bool true)) (Go.Operand.tmp 21)) (v := Go.Value.bool true) (w1 := W) rfl rfl (fun d pos aft g => by unfold execOp; go_simp) ⟨_, rfl, rfl, Below.refl _ _⟩
      | 20, _ =>
        obtain ⟨e22, x22⟩ := Rv.ev (show a.tmps.getD 22 undef = Go.Value.bool true from hdep 19 rfl)
        exact Rv.step_op (op := Go.Op.move (Go.Operand.tmp 22)) (v := Go.Value.bool true) (w1 := W) rfl rfl (fun d pos aft g => by unfold execOp; go_simp) ⟨_, rfl, rfl, Below.refl _ _⟩
      | 21, _ => exact Bool.noConfusion (show false = true from hrun)
      | 22, _ => exact Bool.noConfusion (show false = true from hrun)
      | 23, _ => exact Bool.noConfusion (show false = true from hrun)
      | 24, _ => exact Bool.noConfusion (show false = true from hrun)
      | 25, _ =>
        obtain ⟨e23, x23⟩ := Rv.ev (show a.tmps.getD 23 undef = Go.Value.bool true from hdep 20 rfl)
        obtain ⟨e27, x27⟩ := Rv.ev (show a.tmps.getD 27 undef = undef from hdep 24 rfl)
        exact Rv.step_op (op := Go.Op.pick (Go.Operand.tmp 23) (Go.Operand.const (Go.Value.bool true)) (Go.Operand.tmp 27)) (v := Go.Value.bool true) (w1 := W) rfl rfl (fun d pos aft g => by unfold execOp; go_simp) ⟨_, rfl, rfl, Below.refl _ _⟩
      | 26, _ =>
        obtain ⟨e28, x28⟩ := Rv.ev (show a.tmps.getD 28 undef = Go.Value.bool true from hdep 25 rfl)
        exact Rv.step_op (op := Go.Op.assign (Go.Operand.tmp 28)) (v := Go.Value.bool true) (w1 := W) rfl rfl (fun d pos aft g => by unfold execOp; go_simp) ⟨_, rfl, rfl, Below.refl _ _⟩
      | m + 27, h => exact absurd h (by show ¬ m + 27 < 27; omega)
    intro W f hf htr
    have f0 : f 0 = .pointer (some ⟨w.heap.size, 0, none⟩) := hf 0 (by show 0 < 27; omega)
    have f1 : f 1 = .float .f64 x := hf 1 (by show 1 < 27; omega)
    have f2 : f 2 = .pointer (some ⟨w.heap.size, 0, none⟩) := hf 2 (by show 2 < 27; omega)
    have f3 : f 3 = .float .f64 x := hf 3 (by show 3 < 27; omega)
    have f4 := hf 4 (by show 4 < 27; omega)
    have f5 : f 5 = .bool true := hf 5 (by show 5 < 27; omega)
    have f6 : f 6 = .bool true := hf 6 (by show 6 < 27; omega)
    have f7 : f 7 = undef := hf 7 (by show 7 < 27; omega)
    have f8 : f 8 = undef := hf 8 (by show 8 < 27; omega)
    have f9 : f 9 = undef := hf 9 (by show 9 < 27; omega)
    have f10 : f 10 = undef := hf 10 (by show 10 < 27; omega)
    have f11 : f 11 = undef := hf 11 (by show 11 < 27; omega)
    have f12 : f 12 = undef := hf 12 (by show 12 < 27; omega)
    have f13 : f 13 = Go.Value.bool true := hf 13 (by show 13 < 27; omega)
    have f14 : f 14 = Go.Value.bool true := hf 14 (by show 14 < 27; omega)
    have f15 : f 15 = undef := hf 15 (by show 15 < 27; omega)
    have f16 : f 16 = undef := hf 16 (by show 16 < 27; omega)
    have f17 : f 17 = undef := hf 17 (by show 17 < 27; omega)
    have f18 : f 18 = undef := hf 18 (by show 18 < 27; omega)
    have f19 : f 19 = Go.Value.bool true := hf 19 (by show 19 < 27; omega)
    have f20 : f 20 = Go.Value.bool true := hf 20 (by show 20 < 27; omega)
    have f21 : f 21 = undef := hf 21 (by show 21 < 27; omega)
    have f22 : f 22 = undef := hf 22 (by show 22 < 27; omega)
    have f23 : f 23 = undef := hf 23 (by show 23 < 27; omega)
    have f24 : f 24 = undef := hf 24 (by show 24 < 27; omega)
    have f25 : f 25 = Go.Value.bool true := hf 25 (by show 25 < 27; omega)
    have f26 : f 26 = Go.Value.bool true := hf 26 (by show 26 < 27; omega)
    refine (show ∀ (a : Act) (w : World), Code.wp _ _ _ a w → _ from by assumption) _ _ ?_
    refine Rv.fin_swap (L' := [(3, f 0), (4, f 1), (5, f 2), (6, f 3), (7, f 4), (8, f 5), (9, f 6), (10, f 7), (11, f 8), (12, f 9), (13, f 10), (14, f 11), (15, f 12), (16, f 13), (17, f 14), (18, f 15), (19, f 16), (20, f 17), (21, f 18), (22, f 19), (23, f 20), (24, f 21), (25, f 22), (26, f 23), (27, f 24), (28, f 25), (2, f 26)]) rfl ?_
    rw [f0, f1, f2, f3, f5, f6, f7, f8, f9, f10, f11, f12, f13, f14, f15, f16, f17, f18, f19, f20, f21, f22, f23, f24, f25, f26]
    clear f0 f1 f2 f3 f5 f6 f7 f8 f9 f10 f11 f12 f13 f14 f15 f16 f17 f18 f19 f20 f21 f22 f23 f24 f25 f26
    simp only [Rv.fin, List.foldl_cons, List.foldl_nil, Act.put, List.setIfInBounds_toArray, List.set_cons_succ, List.set_cons_zero]
    go_wp2
    go_ret
    exact ⟨rfl, HX.out.trans (htr.mono HX.out.size)⟩
  · have H1 := Lib.hid h1
    clear h1
    cases h2 : tq y
    · have H2 := Lib.hid h2
      clear h2
      simp only [Bool.not_false, Bool.not_true, Bool.true_or, Bool.false_or, Bool.or_true]
      go_enter Tryz.func14, Tryz.ntmps14
      go_upto_region 1 with fail
      generalize (w.alloc (.cells #[.float .f64 x, .float .f64 y] 24)) = X at *
      refine Rv.region_goods (n := 29) (by kernel_rfl) #[3, 4, 5, 6, 7, 8, 9, 10, 11, 12, 13, 14, 15, 16, 17, 18, 19, 20, 21, 22, 23, 24, 25, 26, 27, 28, 2] #[none, none, none, none, none, none, some false, none, none, none, none, none, none, none, some true, none, none, none, none, none, some true] (fun i v W => if i = 11 then (fun v _ => ∃ z, v = .float .f64 z ∧ (FloatKind.f64.format.order y z == some .eq) = false) v W else if i = 4 then (fun v _ => ∃ z, v = .float .f64 z ∧ (FloatKind.f64.format.order x z == some .eq) = true) v W else v = (#[.pointer (some ⟨w.heap.size, 0, none⟩), .float .f64 x, .pointer (some ⟨w.heap.size, 0, none⟩), .float .f64 x, undef, .bool false, .bool false, .pointer (some ⟨w.heap.size, 1, none⟩), .float .f64 y, .pointer (some ⟨w.heap.size, 1, none⟩), .float .f64 y, undef, .bool true, .bool true, .bool true, undef, undef, undef, undef, Go.Value.bool true, Go.Value.bool true, undef, undef, undef, undef, Go.Value.bool true, Go.Value.bool true] : Array Value).getD i undef) (fun i v w w' h hb => ?_) (fun i h g b hg => ?_) rfl (by kernel_rfl) (by kernel_rfl) (fun i h hr w => ?_) ?_ ?_
      · by_cases hi14 : i = 11
        · subst hi14
          rw [if_pos rfl] at h ⊢
          exact (fun _ _ _ h _ => h) v w w' h hb
        rw [if_neg hi14] at h ⊢
        by_cases hi7 : i = 4
        · subst hi7
          rw [if_pos rfl] at h ⊢
          exact (fun _ _ _ h _ => h) v w w' h hb
        rw [if_neg hi7] at h ⊢
        exact h
      · match i, h, hg with
        | 0, _, hg => cases hg
        | 1, _, hg => cases hg
        | 2, _, hg => cases hg
        | 3, _, hg => cases hg
        | 4, _, hg => cases hg
        | 5, _, hg => cases hg
        | 6, _, hg => cases hg
        | 7, _, hg => (cases hg; exact fun v w e => e)
        | 8, _, hg => (cases hg; exact fun v w e => e)
        | 9, _, hg => (cases hg; exact fun v w e => e)
        | 10, _, hg => (cases hg; exact fun v w e => e)
        | 11, _, hg => (cases hg; exact fun v w e => e)
        | 12, _, hg => (cases hg; exact fun v w e => e)
        | 13, _, hg => cases hg
        | 14, _, hg => cases hg
        | 15, _, hg => (cases hg; exact fun v w e => e)
        | 16, _, hg => (cases hg; exact fun v w e => e)
        | 17, _, hg => (cases hg; exact fun v w e => e)
        | 18, _, hg => (cases hg; exact fun v w e => e)
        | 19, _, hg => cases hg
        | 20, _, hg => cases hg
        | 21, _, hg => (cases hg; exact fun v w e => e)
        | 22, _, hg => (cases hg; exact fun v w e => e)
        | 23, _, hg => (cases hg; exact fun v w e => e)
        | 24, _, hg => (cases hg; exact fun v w e => e)
        | 25, _, hg => cases hg
        | 26, _, hg => cases hg
        | m + 27, h, _ => exact absurd h (by show ¬ m + 27 < 27; omega)
      · match i, h, hr with
        | 0, _, hr => exact Bool.noConfusion (show true = false from hr)
        | 1, _, hr => exact Bool.noConfusion (show true = false from hr)
        | 2, _, hr => exact Bool.noConfusion (show true = false from hr)
        | 3, _, hr => exact Bool.noConfusion (show true = false from hr)
        | 4, _, hr => exact Bool.noConfusion (show true = false from hr)
        | 5, _, hr => exact Bool.noConfusion (show true = false from hr)
        | 6, _, hr => exact Bool.noConfusion (show true = false from hr)
        | 7, _, hr => exact Bool.noConfusion (show true = false from hr)
        | 8, _, hr => exact Bool.noConfusion (show true = false from hr)
        | 9, _, hr => exact Bool.noConfusion (show true = false from hr)
        | 10, _, hr => exact Bool.noConfusion (show true = false from hr)
        | 11, _, hr => exact Bool.noConfusion (show true = false from hr)
        | 12, _, hr => exact Bool.noConfusion (show true = false from hr)
        | 13, _, hr => exact Bool.noConfusion (show true = false from hr)
        | 14, _, hr => exact Bool.noConfusion (show true = false from hr)
        | 15, _, hr => rfl
        | 16, _, hr => rfl
        | 17, _, hr => rfl
        | 18, _, hr => rfl
        | 19, _, hr => exact Bool.noConfusion (show true = false from hr)
        | 20, _, hr => exact Bool.noConfusion (show true = false from hr)
        | 21, _, hr => rfl
        | 22, _, hr => rfl
        | 23, _, hr => rfl
        | 24, _, hr => rfl
        | 25, _, hr => exact Bool.noConfusion (show true = false from hr)
        | 26, _, hr => exact Bool.noConfusion (show true = false from hr)
        | m + 27, h, _ => exact absurd h (by show ¬ m + 27 < 27; omega)
      · intro i h a W hrun hbase hpre hdep htr
        obtain ⟨c0, c1, _, _⟩ := cells_two ((htr.block _ hs).trans HN.out)
        match i, h with
        | 0, _ =>
          obtain ⟨e1, x1⟩ := Rv.ev (show a.tmps.getD 1 undef = .pointer (some ⟨w.heap.size, 0, none⟩) from hbase 1 rfl)
          exact Rv.step_op (op := Go.Op.indexAddr 24 (Go.Operand.tmp 1) (Go.Operand.const (Go.Value.int Go.IntKind.i64 0))) (v := .pointer (some ⟨w.heap.size, 0, none⟩)) (w1 := W) rfl rfl (fun d pos aft g => by unfold execOp; go_simp) ⟨_, rfl, rfl, Below.refl _ _⟩
        | 1, _ =>
          obtain ⟨e3, x3⟩ := Rv.ev (show a.tmps.getD 3 undef = .pointer (some ⟨w.heap.size, 0, none⟩) from hdep 0 rfl)
          exact Rv.step_op (op := Go.Op.load 22 (Go.Operand.tmp 3)) (v := .float .f64 x) (w1 := W) rfl rfl (fun d pos aft g => by unfold execOp; go_simp) ⟨_, rfl, rfl, Below.refl _ _⟩
        | 2, _ =>
          obtain ⟨e1, x1⟩ := Rv.ev (show a.tmps.getD 1 undef = .pointer (some ⟨w.heap.size, 0, none⟩) from hbase 1 rfl)
          exact Rv.step_op (op := Go.Op.indexAddr 24 (Go.Operand.tmp 1) (Go.Operand.const (Go.Value.int Go.IntKind.i64 0))) (v := .pointer (some ⟨w.heap.size, 0, none⟩)) (w1 := W) rfl rfl (fun d pos aft g => by unfold execOp; go_simp) ⟨_, rfl, rfl, Below.refl _ _⟩
        | 3, _ =>
          obtain ⟨e5, x5⟩ := Rv.ev (show a.tmps.getD 5 undef = .pointer (some ⟨w.heap.size, 0, none⟩) from hdep 2 rfl)
          exact Rv.step_op (op := Go.Op.load 22 (Go.Operand.tmp 5)) (v := .float .f64 x) (w1 := W) rfl rfl (fun d pos aft g => by unfold execOp; go_simp) ⟨_, rfl, rfl, Below.refl _ _⟩
        | 4, _ =>
          obtain ⟨e6, x6⟩ := Rv.ev (show a.tmps.getD 6 undef = .float .f64 x from hdep 3 rfl)
          have cf : ∀ x0 W, (callFunc 15 #[x0]).run Tryz.prog W = .ok (.enter 15 #[x0]) W := fun _ _ => by kernel_rfl
          refine Rv.step_fn (op := Go.Op.call { callee := Go.Callee.value (Go.Operand.func 15), args := #[Go.Operand.tmp 6], argTypes := #[22] }) (ty := 22) (f := 15) (args := #[.float .f64 x]) (R := fun v W' => (∃ z, v = .float .f64 z ∧ (FloatKind.f64.format.order x z == some .eq) = true) ∧ Below W.heap.size W W') rfl rfl (fun d pos aft g => by unfold execOp; go_simp) ((TX.out W).mono ?_) ?_
          · (rintro e W' ⟨z, rfl, hz, hb⟩; exact ⟨_, rfl, ⟨z, rfl, hz.trans H1.out⟩, hb⟩)
          · (rintro v W' ⟨hz, hb⟩; exact ⟨v, rfl, hz, hb⟩)
        | 5, _ =>
          obtain ⟨e4, x4⟩ := Rv.ev (show a.tmps.getD 4 undef = .float .f64 x from hdep 1 rfl)
          obtain ⟨z, ez, hz⟩ : ∃ z, a.tmps.getD 7 undef = .float .f64 z ∧ (FloatKind.f64.format.order x z == some .eq) = true := hdep 4 rfl
          obtain ⟨e7, x7⟩ := Rv.ev ez
          have hz2 := neq_of hz
          exact Rv.step_op (op := Go.Op.binOp Go.BinOp.neq 22 (Go.Operand.tmp 4) (Go.Operand.tmp 7) 22) (v := .bool false) (w1 := W) rfl rfl (fun d pos aft g => by unfold execOp; go_simp) ⟨_, rfl, rfl, Below.refl _ _⟩
        | 6, _ =>
          obtain ⟨e8, x8⟩ := Rv.ev (show a.tmps.getD 8 undef = .bool false from hdep 5 rfl)
          exact Rv.step_op (op := Go.Op.move (Go.Operand.tmp 8)) (v := .bool false) (w1 := W) rfl rfl (fun d pos aft g => by unfold execOp; go_simp) ⟨_, rfl, rfl, Below.refl _ _⟩
        | 7, _ =>
          obtain ⟨e1, x1⟩ := Rv.ev (show a.tmps.getD 1 undef = .pointer (some ⟨w.heap.size, 0, none⟩) from hbase 1 rfl)
          exact Rv.step_op (op := Go.Op.indexAddr 24 (Go.Operand.tmp 1) (Go.Operand.const (Go.Value.int Go.IntKind.i64 1))) (v := .pointer (some ⟨w.heap.size, 1, none⟩)) (w1 := W) rfl rfl (fun d pos aft g => by unfold execOp; go_simp) ⟨_, rfl, rfl, Below.refl _ _⟩
        | 8, _ =>
          obtain ⟨e10, x10⟩ := Rv.ev (show a.tmps.getD 10 undef = .pointer (some ⟨w.heap.size, 1, none⟩) from hdep 7 rfl)
          exact Rv.step_op (op := Go.Op.load 22 (Go.Operand.tmp 10)) (v := .float .f64 y) (w1 := W) rfl rfl (fun d pos aft g => by unfold execOp; go_simp) ⟨_, rfl, rfl, Below.refl _ _⟩
        | 9, _ =>
          obtain ⟨e1, x1⟩ := Rv.ev (show a.tmps.getD 1 undef = .pointer (some ⟨w.heap.size, 0, none⟩) from hbase 1 rfl)
          exact Rv.step_op (op := Go.Op.indexAddr 24 (Go.Operand.tmp 1) (Go.Operand.const (Go.Value.int Go.IntKind.i64 1))) (v := .pointer (some ⟨w.heap.size, 1, none⟩)) (w1 := W) rfl rfl (fun d pos aft g => by unfold execOp; go_simp) ⟨_, rfl, rfl, Below.refl _ _⟩
        | 10, _ =>
          obtain ⟨e12, x12⟩ := Rv.ev (show a.tmps.getD 12 undef = .pointer (some ⟨w.heap.size, 1, none⟩) from hdep 9 rfl)
          exact Rv.step_op (op := Go.Op.load 22 (Go.Operand.tmp 12)) (v := .float .f64 y) (w1 := W) rfl rfl (fun d pos aft g => by unfold execOp; go_simp) ⟨_, rfl, rfl, Below.refl _ _⟩
        | 11, _ =>
          obtain ⟨e13, x13⟩ := Rv.ev (show a.tmps.getD 13 undef = .float .f64 y from hdep 10 rfl)
          have cf : ∀ x0 W, (callFunc 15 #[x0]).run Tryz.prog W = .ok (.enter 15 #[x0]) W := fun _ _ => by kernel_rfl
          refine Rv.step_fn (op := Go.Op.call { callee := Go.Callee.value (Go.Operand.func 15), args := #[Go.Operand.tmp 13], argTypes := #[22] }) (ty := 22) (f := 15) (args := #[.float .f64 y]) (R := fun v W' => (∃ z, v = .float .f64 z ∧ (FloatKind.f64.format.order y z == some .eq) = false) ∧ Below W.heap.size W W') rfl rfl (fun d pos aft g => by unfold execOp; go_simp) ((TY.out W).mono ?_) ?_
          · (rintro e W' ⟨z, rfl, hz, hb⟩; exact ⟨_, rfl, ⟨z, rfl, hz.trans H2.out⟩, hb⟩)
          · (rintro v W' ⟨hz, hb⟩; exact ⟨v, rfl, hz, hb⟩)
        | 12, _ =>
          obtain ⟨e11, x11⟩ := Rv.ev (show a.tmps.getD 11 undef = .float .f64 y from hdep 8 rfl)
          obtain ⟨z, ez, hz⟩ : ∃ z, a.tmps.getD 14 undef = .float .f64 z ∧ (FloatKind.f64.format.order y z == some .eq) = false := hdep 11 rfl
          obtain ⟨e14, x14⟩ := Rv.ev ez
          have hz2 := neq_of hz
          exact Rv.step_op (op := Go.Op.binOp Go.BinOp.neq 22 (Go.Operand.tmp 11) (Go.Operand.tmp 14) 22) (v := .bool true) (w1 := W) rfl rfl (fun d pos aft g => by unfold execOp; go_simp) ⟨_, rfl, rfl, Below.refl _ _⟩
        | 13, _ =>
          obtain ⟨e9, x9⟩ := Rv.ev (show a.tmps.getD 9 undef = .bool false from hdep 6 rfl)
          obtain ⟨e15, x15⟩ := Rv.ev (show a.tmps.getD 15 undef = .bool true from hdep 12 rfl)
          exact Rv.step_op (op := Go.Op.pick (Go.Operand.tmp 9) (Go.Operand.const (Go.Value.bool true)) (Go.Operand.tmp 15)) (v := .bool true) (w1 := W) rfl rfl (fun d pos aft g => by unfold execOp; go_simp) ⟨_, rfl, rfl, Below.refl _ _⟩
        | 14, _ =>
          obtain ⟨e16, x16⟩ := Rv.ev (show a.tmps.getD 16 undef = .bool true from hdep 13 rfl)
          exact Rv.step_op (op := Go.Op.move (Go.Operand.tmp 16)) (v := .bool true) (w1 := W) rfl rfl (fun d pos aft g => by unfold execOp; go_simp) ⟨_, rfl, rfl, Below.refl _ _⟩
        | 15, _ => exact Bool.noConfusion (show false = true from hrun)
        | 16, _ => exact Bool.noConfusion (show false = true from hrun)
        | 17, _ => exact Bool.noConfusion (show false = true from hrun)
        | 18, _ => exact Bool.noConfusion (show false = true from hrun)
        | 19, _ =>
          obtain ⟨e17, x17⟩ := Rv.ev (show a.tmps.getD 17 undef = .bool true from hdep 14 rfl)
          obtain ⟨e21, x21⟩ := Rv.ev (show a.tmps.getD 21 undef = undef from hdep 18 rfl)
          exact Rv.step_op (op := Go.Op.pick (Go.Operand.tmp 17) (Go.Operand.const (Go.Value.bool true)) (Go.Operand.tmp 21)) (v := Go.Value.bool true) (w1 := W) rfl rfl (fun d pos aft g => by unfold execOp; go_simp) ⟨_, rfl, rfl, Below.refl _ _⟩
        | 20, _ =>
          obtain ⟨e22, x22⟩ := Rv.ev (show a.tmps.getD 22 undef = Go.Value.bool true from hdep 19 rfl)
          exact Rv.step_op (op := Go.Op.move (Go.Operand.tmp 22)) (v := Go.Value.bool true) (w1 := W) rfl rfl (fun d pos aft g => by unfold execOp; go_simp) ⟨_, rfl, rfl, Below.refl _ _⟩
        | 21, _ => exact Bool.noConfusion (show false = true from hrun)
        | 22, _ => exact Bool.noConfusion (show false = true from hrun)
        | 23, _ => exact Bool.noConfusion (show false = true from hrun)
        | 24, _ => exact Bool.noConfusion (show false = true from hrun)
        | 25, _ =>
          obtain ⟨e23, x23⟩ := Rv.ev (show a.tmps.getD 23 undef = Go.Value.bool true from hdep 20 rfl)
          obtain ⟨e27, x27⟩ := Rv.ev (show a.tmps.getD 27 undef = undef from hdep 24 rfl)
          exact Rv.step_op (op := Go.Op.pick (Go.Operand.tmp 23) (Go.Operand.const (Go.Value.bool true)) (Go.Operand.tmp 27)) (v := Go.Value.bool true) (w1 := W) rfl rfl (fun d pos aft g => by unfold execOp; go_simp) ⟨_, rfl, rfl, Below.refl _ _⟩
        | 26, _ =>
          obtain ⟨e28, x28⟩ := Rv.ev (show a.tmps.getD 28 undef = Go.Value.bool true from hdep 25 rfl)
          exact Rv.step_op (op := Go.Op.assign (Go.Operand.tmp 28)) (v := Go.Value.bool true) (w1 := W) rfl rfl (fun d pos aft g => by unfold execOp; go_simp) ⟨_, rfl, rfl, Below.refl _ _⟩
        | m + 27, h => exact absurd h (by show ¬ m + 27 < 27; omega)
      intro W f hf htr
      have f0 : f 0 = .pointer (some ⟨w.heap.size, 0, none⟩) := hf 0 (by show 0 < 27; omega)
      have f1 : f 1 = .float .f64 x := hf 1 (by show 1 < 27; omega)
      have f2 : f 2 = .pointer (some ⟨w.heap.size, 0, none⟩) := hf 2 (by show 2 < 27; omega)
      have f3 : f 3 = .float .f64 x := hf 3 (by show 3 < 27; omega)
      have f4 := hf 4 (by show 4 < 27; omega)
      have f5 : f 5 = .bool false := hf 5 (by show 5 < 27; omega)
      have f6 : f 6 = .bool false := hf 6 (by show 6 < 27; omega)
      have f7 : f 7 = .pointer (some ⟨w.heap.size, 1, none⟩) := hf 7 (by show 7 < 27; omega)
      have f8 : f 8 = .float .f64 y := hf 8 (by show 8 < 27; omega)
      have f9 : f 9 = .pointer (some ⟨w.heap.size, 1, none⟩) := hf 9 (by show 9 < 27; omega)
      have f10 : f 10 = .float .f64 y := hf 10 (by show 10 < 27; omega)
      have f11 := hf 11 (by show 11 < 27; omega)
      have f12 : f 12 = .bool true := hf 12 (by show 12 < 27; omega)
      have f13 : f 13 = .bool true := hf 13 (by show 13 < 27; omega)
      have f14 : f 14 = .bool true := hf 14 (by show 14 < 27; omega)
      have f15 : f 15 = undef := hf 15 (by show 15 < 27; omega)
      have f16 : f 16 = undef := hf 16 (by show 16 < 27; omega)
      have f17 : f 17 = undef := hf 17 (by show 17 < 27; omega)
      have f18 : f 18 = undef := hf 18 (by show 18 < 27; omega)
      have f19 : f 19 = Go.Value.bool true := hf 19 (by show 19 < 27; omega)
      have f20 : f 20 = Go.Value.bool true := hf 20 (by show 20 < 27; omega)
      have f21 : f 21 = undef := hf 21 (by show 21 < 27; omega)
      have f22 : f 22 = undef := hf 22 (by show 22 < 27; omega)
      have f23 : f 23 = undef := hf 23 (by show 23 < 27; omega)
      have f24 : f 24 = undef := hf 24 (by show 24 < 27; omega)
      have f25 : f 25 = Go.Value.bool true := hf 25 (by show 25 < 27; omega)
      have f26 : f 26 = Go.Value.bool true := hf 26 (by show 26 < 27; omega)
      refine (show ∀ (a : Act) (w : World), Code.wp _ _ _ a w → _ from by assumption) _ _ ?_
      refine Rv.fin_swap (L' := [(3, f 0), (4, f 1), (5, f 2), (6, f 3), (7, f 4), (8, f 5), (9, f 6), (10, f 7), (11, f 8), (12, f 9), (13, f 10), (14, f 11), (15, f 12), (16, f 13), (17, f 14), (18, f 15), (19, f 16), (20, f 17), (21, f 18), (22, f 19), (23, f 20), (24, f 21), (25, f 22), (26, f 23), (27, f 24), (28, f 25), (2, f 26)]) rfl ?_
      rw [f0, f1, f2, f3, f5, f6, f7, f8, f9, f10, f12, f13, f14, f15, f16, f17, f18, f19, f20, f21, f22, f23, f24, f25, f26]
      clear f0 f1 f2 f3 f5 f6 f7 f8 f9 f10 f12 f13 f14 f15 f16 f17 f18 f19 f20 f21 f22 f23 f24 f25 f26
      simp only [Rv.fin, List.foldl_cons, List.foldl_nil, Act.put, List.setIfInBounds_toArray, List.set_cons_succ, List.set_cons_zero]
      go_wp2
      go_ret
      exact ⟨rfl, HX.out.trans (htr.mono HX.out.size)⟩
    · have H2 := Lib.hid h2
      clear h2
      cases h3 : gt x
      · have H3 := Lib.hid h3
        clear h3
        cases h4 : gt y
        · have H4 := Lib.hid h4
          clear h4
          simp only [Bool.not_true, Bool.or_false]
          go_enter Tryz.func14, Tryz.ntmps14
          go_upto_region 1 with fail
          generalize (w.alloc (.cells #[.float .f64 x, .float .f64 y] 24)) = X at *
          refine Rv.region_goods (n := 29) (by kernel_rfl) #[3, 4, 5, 6, 7, 8, 9, 10, 11, 12, 13, 14, 15, 16, 17, 18, 19, 20, 21, 22, 23, 24, 25, 26, 27, 28, 2] #[none, none, none, none, none, none, some false, none, none, none, none, none, none, none, some false, none, none, none, none, none, some false] (fun i v W => if i = 11 then (fun v _ => ∃ z, v = .float .f64 z ∧ (FloatKind.f64.format.order y z == some .eq) = true) v W else if i = 4 then (fun v _ => ∃ z, v = .float .f64 z ∧ (FloatKind.f64.format.order x z == some .eq) = true) v W else v = (#[.pointer (some ⟨w.heap.size, 0, none⟩), .float .f64 x, .pointer (some ⟨w.heap.size, 0, none⟩), .float .f64 x, undef, .bool false, .bool false, .pointer (some ⟨w.heap.size, 1, none⟩), .float .f64 y, .pointer (some ⟨w.heap.size, 1, none⟩), .float .f64 y, undef, .bool false, .bool false, .bool false, .pointer (some ⟨w.heap.size, 0, none⟩), .float .f64 x, .float .f64 (x % 9223372036854775808), .bool false, .bool false, .bool false, .pointer (some ⟨w.heap.size, 1, none⟩), .float .f64 y, .float .f64 (y % 9223372036854775808), .bool false, .bool false, .bool false] : Array Value).getD i undef) (fun i v w w' h hb => ?_) (fun i h g b hg => ?_) rfl (by kernel_rfl) (by kernel_rfl) (fun i h hr w => ?_) ?_ ?_
          · by_cases hi14 : i = 11
            · subst hi14
              rw [if_pos rfl] at h ⊢
              exact (fun _ _ _ h _ => h) v w w' h hb
            rw [if_neg hi14] at h ⊢
            by_cases hi7 : i = 4
            · subst hi7
              rw [if_pos rfl] at h ⊢
              exact (fun _ _ _ h _ => h) v w w' h hb
            rw [if_neg hi7] at h ⊢
            exact h
          · match i, h, hg with
            | 0, _, hg => cases hg
            | 1, _, hg => cases hg
            | 2, _, hg => cases hg
            | 3, _, hg => cases hg
            | 4, _, hg => cases hg
            | 5, _, hg => cases hg
            | 6, _, hg => cases hg
            | 7, _, hg => (cases hg; exact fun v w e => e)
            | 8, _, hg => (cases hg; exact fun v w e => e)
            | 9, _, hg => (cases hg; exact fun v w e => e)
            | 10, _, hg => (cases hg; exact fun v w e => e)
            | 11, _, hg => (cases hg; exact fun v w e => e)
            | 12, _, hg => (cases hg; exact fun v w e => e)
            | 13, _, hg => cases hg
            | 14, _, hg => cases hg
            | 15, _, hg => (cases hg; exact fun v w e => e)
            | 16, _, hg => (cases hg; exact fun v w e => e)
            | 17, _, hg => (cases hg; exact fun v w e => e)
            | 18, _, hg => (cases hg; exact fun v w e => e)
            | 19, _, hg => cases hg
            | 20, _, hg => cases hg
            | 21, _, hg => (cases hg; exact fun v w e => e)
            | 22, _, hg => (cases hg; exact fun v w e => e)
            | 23, _, hg => (cases hg; exact fun v w e => e)
            | 24, _, hg => (cases hg; exact fun v w e => e)
            | 25, _, hg => cases hg
            | 26, _, hg => cases hg
            | m + 27, h, _ => exact absurd h (by show ¬ m + 27 < 27; omega)
          · match i, h, hr with
            | 0, _, hr => exact Bool.noConfusion (show true = false from hr)
            | 1, _, hr => exact Bool.noConfusion (show true = false from hr)
            | 2, _, hr => exact Bool.noConfusion (show true = false from hr)
            | 3, _, hr => exact Bool.noConfusion (show true = false from hr)
            | 4, _, hr => exact Bool.noConfusion (show true = false from hr)
            | 5, _, hr => exact Bool.noConfusion (show true = false from hr)
            | 6, _, hr => exact Bool.noConfusion (show true = false from hr)
            | 7, _, hr => exact Bool.noConfusion (show true = false from hr)
            | 8, _, hr => exact Bool.noConfusion (show true = false from hr)
            | 9, _, hr => exact Bool.noConfusion (show true = false from hr)
            | 10, _, hr => exact Bool.noConfusion (show true = false from hr)
            | 11, _, hr => exact Bool.noConfusion (show true = false from hr)
            | 12, _, hr => exact Bool.noConfusion (show true = false from hr)
            | 13, _, hr => exact Bool.noConfusion (show true = false from hr)
            | 14, _, hr => exact Bool.noConfusion (show true = false from hr)
            | 15, _, hr => exact Bool.noConfusion (show true = false from hr)
            | 16, _, hr => exact Bool.noConfusion (show true = false from hr)
            | 17, _, hr => exact Bool.noConfusion (show true = false from hr)
            | 18, _, hr => exact Bool.noConfusion (show true = false from hr)
            | 19, _, hr => exact Bool.noConfusion (show true = false from hr)
            | 20, _, hr => exact Bool.noConfusion (show true = false from hr)
            | 21, _, hr => exact Bool.noConfusion (show true = false from hr)
            | 22, _, hr => exact Bool.noConfusion (show true = false from hr)
            | 23, _, hr => exact Bool.noConfusion (show true = false from hr)
            | 24, _, hr => exact Bool.noConfusion (show true = false from hr)
            | 25, _, hr => exact Bool.noConfusion (show true = false from hr)
            | 26, _, hr => exact Bool.noConfusion (show true = false from hr)
            | m + 27, h, _ => exact absurd h (by show ¬ m + 27 < 27; omega)
          · intro i h a W hrun hbase hpre hdep htr
            obtain ⟨c0, c1, _, _⟩ := cells_two ((htr.block _ hs).trans HN.out)
            match i, h with
            | 0, _ =>
              obtain ⟨e1, x1⟩ := Rv.ev (show a.tmps.getD 1 undef = .pointer (some ⟨w.heap.size, 0, none⟩) from hbase 1 rfl)
              exact Rv.step_op (op := Go.Op.indexAddr 24 (Go.Operand.tmp 1) (Go.Operand.const (Go.Value.int Go.IntKind.i64 0))) (v := .pointer (some ⟨w.heap.size, 0, none⟩)) (w1 := W) rfl rfl (fun d pos aft g => by unfold execOp; go_simp) ⟨_, rfl, rfl, Below.refl _ _⟩
            | 1, _ =>
              obtain ⟨e3, x3⟩ := Rv.ev (show a.tmps.getD 3 undef = .pointer (some ⟨w.heap.size, 0, none⟩) from hdep 0 rfl)
              exact Rv.step_op (op := Go.Op.load 22 (Go.Operand.tmp 3)) (v := .float .f64 x) (w1 := W) rfl rfl (fun d pos aft g => by unfold execOp; go_simp) ⟨_, rfl, rfl, Below.refl _ _⟩
            | 2, _ =>
              obtain ⟨e1, x1⟩ := Rv.ev (show a.tmps.getD 1 undef = .pointer (some ⟨w.heap.size, 0, none⟩) from hbase 1 rfl)
              exact Rv.step_op (op := Go.Op.indexAddr 24 (Go.Operand.tmp 1) (Go.Operand.const (Go.Value.int Go.IntKind.i64 0))) (v := .pointer (some ⟨w.heap.size, 0, none⟩)) (w1 := W) rfl rfl (fun d pos aft g => by unfold execOp; go_simp) ⟨_, rfl, rfl, Below.refl _ _⟩
            | 3, _ =>
              obtain ⟨e5, x5⟩ := Rv.ev (show a.tmps.getD 5 undef = .pointer (some ⟨w.heap.size, 0, none⟩) from hdep 2 rfl)
              exact Rv.step_op (op := Go.Op.load 22 (Go.Operand.tmp 5)) (v := .float .f64 x) (w1 := W) rfl rfl (fun d pos aft g => by unfold execOp; go_simp) ⟨_, rfl, rfl, Below.refl _ _⟩
            | 4, _ =>
              obtain ⟨e6, x6⟩ := Rv.ev (show a.tmps.getD 6 undef = .float .f64 x from hdep 3 rfl)
              have cf : ∀ x0 W, (callFunc 15 #[x0]).run Tryz.prog W = .ok (.enter 15 #[x0]) W := fun _ _ => by kernel_rfl
              refine Rv.step_fn (op := Go.Op.call { callee := Go.Callee.value (Go.Operand.func 15), args := #[Go.Operand.tmp 6], argTypes := #[22] }) (ty := 22) (f := 15) (args := #[.float .f64 x]) (R := fun v W' => (∃ z, v = .float .f64 z ∧ (FloatKind.f64.format.order x z == some .eq) = true) ∧ Below W.heap.size W W') rfl rfl (fun d pos aft g => by unfold execOp; go_simp) ((TX.out W).mono ?_) ?_
              · (rintro e W' ⟨z, rfl, hz, hb⟩; exact ⟨_, rfl, ⟨z, rfl, hz.trans H1.out⟩, hb⟩)
              · (rintro v W' ⟨hz, hb⟩; exact ⟨v, rfl, hz, hb⟩)
            | 5, _ =>
              obtain ⟨e4, x4⟩ := Rv.ev (show a.tmps.getD 4 undef = .float .f64 x from hdep 1 rfl)
              obtain ⟨z, ez, hz⟩ : ∃ z, a.tmps.getD 7 undef = .float .f64 z ∧ (FloatKind.f64.format.order x z == some .eq) = true := hdep 4 rfl
              obtain ⟨e7, x7⟩ := Rv.ev ez
              have hz2 := neq_of hz
              exact Rv.step_op (op := Go.Op.binOp Go.BinOp.neq 22 (Go.Operand.tmp 4) (Go.Operand.tmp 7) 22) (v := .bool false) (w1 := W) rfl rfl (fun d pos aft g => by unfold execOp; go_simp) ⟨_, rfl, rfl, Below.refl _ _⟩
            | 6, _ =>
              obtain ⟨e8, x8⟩ := Rv.ev (show a.tmps.getD 8 undef = .bool false from hdep 5 rfl)
              exact Rv.step_op (op := Go.Op.move (Go.Operand.tmp 8)) (v := .bool false) (w1 := W) rfl rfl (fun d pos aft g => by unfold execOp; go_simp) ⟨_, rfl, rfl, Below.refl _ _⟩
            | 7, _ =>
              obtain ⟨e1, x1⟩ := Rv.ev (show a.tmps.getD 1 undef = .pointer (some ⟨w.heap.size, 0, none⟩) from hbase 1 rfl)
              exact Rv.step_op (op := Go.Op.indexAddr 24 (Go.Operand.tmp 1) (Go.Operand.const (Go.Value.int Go.IntKind.i64 1))) (v := .pointer (some ⟨w.heap.size, 1, none⟩)) (w1 := W) rfl rfl (fun d pos aft g => by unfold execOp; go_simp) ⟨_, rfl, rfl, Below.refl _ _⟩
            | 8, _ =>
              obtain ⟨e10, x10⟩ := Rv.ev (show a.tmps.getD 10 undef = .pointer (some ⟨w.heap.size, 1, none⟩) from hdep 7 rfl)
              exact Rv.step_op (op := Go.Op.load 22 (Go.Operand.tmp 10)) (v := .float .f64 y) (w1 := W) rfl rfl (fun d pos aft g => by unfold execOp; go_simp) ⟨_, rfl, rfl, Below.refl _ _⟩
            | 9, _ =>
              obtain ⟨e1, x1⟩ := Rv.ev (show a.tmps.getD 1 undef = .pointer (some ⟨w.heap.size, 0, none⟩) from hbase 1 rfl)
              exact Rv.step_op (op := Go.Op.indexAddr 24 (Go.Operand.tmp 1) (Go.Operand.const (Go.Value.int Go.IntKind.i64 1))) (v := .pointer (some ⟨w.heap.size, 1, none⟩)) (w1 := W) rfl rfl (fun d pos aft g => by unfold execOp; go_simp) ⟨_, rfl, rfl, Below.refl _ _⟩
            | 10, _ =>
              obtain ⟨e12, x12⟩ := Rv.ev (show a.tmps.getD 12 undef = .pointer (some ⟨w.heap.size, 1, none⟩) from hdep 9 rfl)
              exact Rv.step_op (op := Go.Op.load 22 (Go.Operand.tmp 12)) (v := .float .f64 y) (w1 := W) rfl rfl (fun d pos aft g => by unfold execOp; go_simp) ⟨_, rfl, rfl, Below.refl _ _⟩
            | 11, _ =>
              obtain ⟨e13, x13⟩ := Rv.ev (show a.tmps.getD 13 undef = .float .f64 y from hdep 10 rfl)
              have cf : ∀ x0 W, (callFunc 15 #[x0]).run Tryz.prog W = .ok (.enter 15 #[x0]) W := fun _ _ => by kernel_rfl
              refine Rv.step_fn (op := Go.Op.call { callee := Go.Callee.value (Go.Operand.func 15), args := #[Go.Operand.tmp 13], argTypes := #[22] }) (ty := 22) (f := 15) (args := #[.float .f64 y]) (R := fun v W' => (∃ z, v = .float .f64 z ∧ (FloatKind.f64.format.order y z == some .eq) = true) ∧ Below W.heap.size W W') rfl rfl (fun d pos aft g => by unfold execOp; go_simp) ((TY.out W).mono ?_) ?_
              · (rintro e W' ⟨z, rfl, hz, hb⟩; exact ⟨_, rfl, ⟨z, rfl, hz.trans H2.out⟩, hb⟩)
              · (rintro v W' ⟨hz, hb⟩; exact ⟨v, rfl, hz, hb⟩)
            | 12, _ =>
              obtain ⟨e11, x11⟩ := Rv.ev (show a.tmps.getD 11 undef = .float .f64 y from hdep 8 rfl)
              obtain ⟨z, ez, hz⟩ : ∃ z, a.tmps.getD 14 undef = .float .f64 z ∧ (FloatKind.f64.format.order y z == some .eq) = true := hdep 11 rfl
              obtain ⟨e14, x14⟩ := Rv.ev ez
              have hz2 := neq_of hz
              exact Rv.step_op (op := Go.Op.binOp Go.BinOp.neq 22 (Go.Operand.tmp 11) (Go.Operand.tmp 14) 22) (v := .bool false) (w1 := W) rfl rfl (fun d pos aft g => by unfold execOp; go_simp) ⟨_, rfl, rfl, Below.refl _ _⟩
            | 13, _ =>
              obtain ⟨e9, x9⟩ := Rv.ev (show a.tmps.getD 9 undef = .bool false from hdep 6 rfl)
              obtain ⟨e15, x15⟩ := Rv.ev (show a.tmps.getD 15 undef = .bool false from hdep 12 rfl)
              exact Rv.step_op (op := Go.Op.pick (Go.Operand.tmp 9) (Go.Operand.const (Go.Value.bool true)) (Go.Operand.tmp 15)) (v := .bool false) (w1 := W) rfl rfl (fun d pos aft g => by unfold execOp; go_simp) ⟨_, rfl, rfl, Below.refl _ _⟩
            | 14, _ =>
              obtain ⟨e16, x16⟩ := Rv.ev (show a.tmps.getD 16 undef = .bool false from hdep 13 rfl)
              exact Rv.step_op (op := Go.Op.move (Go.Operand.tmp 16)) (v := .bool false) (w1 := W) rfl rfl (fun d pos aft g => by unfold execOp; go_simp) ⟨_, rfl, rfl, Below.refl _ _⟩
            | 15, _ =>
              obtain ⟨e1, x1⟩ := Rv.ev (show a.tmps.getD 1 undef = .pointer (some ⟨w.heap.size, 0, none⟩) from hbase 1 rfl)
              exact Rv.step_op (op := Go.Op.indexAddr 24 (Go.Operand.tmp 1) (Go.Operand.const (Go.Value.int Go.IntKind.i64 0))) (v := .pointer (some ⟨w.heap.size, 0, none⟩)) (w1 := W) rfl rfl (fun d pos aft g => by unfold execOp; go_simp) ⟨_, rfl, rfl, Below.refl _ _⟩
            | 16, _ =>
              obtain ⟨e18, x18⟩ := Rv.ev (show a.tmps.getD 18 undef = .pointer (some ⟨w.heap.size, 0, none⟩) from hdep 15 rfl)
              exact Rv.step_op (op := Go.Op.load 22 (Go.Operand.tmp 18)) (v := .float .f64 x) (w1 := W) rfl rfl (fun d pos aft g => by unfold execOp; go_simp) ⟨_, rfl, rfl, Below.refl _ _⟩
            | 17, _ =>
              obtain ⟨e19, x19⟩ := Rv.ev (show a.tmps.getD 19 undef = .float .f64 x from hdep 16 rfl)
              have cf : ∀ x0 W, (callFunc 16 #[x0]).run Tryz.prog W = .ok (.enter 16 #[x0]) W := fun _ _ => by kernel_rfl
              refine Rv.step_fn (op := Go.Op.call { callee := Go.Callee.value (Go.Operand.func 16), args := #[Go.Operand.tmp 19], argTypes := #[22] }) (f := 16) (args := #[.float .f64 x]) (R := fun v W' => v = .float .f64 (x % 9223372036854775808) ∧ Below W.heap.size W W') rfl rfl (fun d pos aft g => by unfold execOp; go_simp) ((AX.out W).mono ?_) ?_
              · (rintro e W' ⟨rfl, hb⟩; exact ⟨_, rfl, rfl, hb⟩)
              · (rintro v W' ⟨rfl, hb⟩; exact ⟨_, rfl, rfl, hb⟩)
            | 18, _ =>
              obtain ⟨e20, x20⟩ := Rv.ev (show a.tmps.getD 20 undef = .float .f64 (x % 9223372036854775808) from hdep 17 rfl)
              have hg := gt_raw H3.out
              exact Rv.step_op (op := Go.Op.binOp Go.BinOp.gtr 22 (Go.Operand.tmp 20) (Go.Operand.const (Go.Value.float Go.FloatKind.f64 4652007308841189376)) 22) (v := .bool false) (w1 := W) rfl rfl (fun d pos aft g => by unfold execOp; go_simp) ⟨_, rfl, rfl, Below.refl _ _⟩
            | 19, _ =>
              obtain ⟨e17, x17⟩ := Rv.ev (show a.tmps.getD 17 undef = .bool false from hdep 14 rfl)
              obtain ⟨e21, x21⟩ := Rv.ev (show a.tmps.getD 21 undef = .bool false from hdep 18 rfl)
              exact Rv.step_op (op := Go.Op.pick (Go.Operand.tmp 17) (Go.Operand.const (Go.Value.bool true)) (Go.Operand.tmp 21)) (v := .bool false) (w1 := W) rfl rfl (fun d pos aft g => by unfold execOp; go_simp) ⟨_, rfl, rfl, Below.refl _ _⟩
            | 20, _ =>
              obtain ⟨e22, x22⟩ := Rv.ev (show a.tmps.getD 22 undef = .bool false from hdep 19 rfl)
              exact Rv.step_op (op := Go.Op.move (Go.Operand.tmp 22)) (v := .bool false) (w1 := W) rfl rfl (fun d pos aft g => by unfold execOp; go_simp) ⟨_, rfl, rfl, Below.refl _ _⟩
            | 21, _ =>
              obtain ⟨e1, x1⟩ := Rv.ev (show a.tmps.getD 1 undef = .pointer (some ⟨w.heap.size, 0, none⟩) from hbase 1 rfl)
              exact Rv.step_op (op := Go.Op.indexAddr 24 (Go.Operand.tmp 1) (Go.Operand.const (Go.Value.int Go.IntKind.i64 1))) (v := .pointer (some ⟨w.heap.size, 1, none⟩)) (w1 := W) rfl rfl (fun d pos aft g => by unfold execOp; go_simp) ⟨_, rfl, rfl, Below.refl _ _⟩
            | 22, _ =>
              obtain ⟨e24, x24⟩ := Rv.ev (show a.tmps.getD 24 undef = .pointer (some ⟨w.heap.size, 1, none⟩) from hdep 21 rfl)
              exact Rv.step_op (op := Go.Op.load 22 (Go.Operand.tmp 24)) (v := .float .f64 y) (w1 := W) rfl rfl (fun d pos aft g => by unfold execOp; go_simp) ⟨_, rfl, rfl, Below.refl _ _⟩
            | 23, _ =>
              obtain ⟨e25, x25⟩ := Rv.ev (show a.tmps.getD 25 undef = .float .f64 y from hdep 22 rfl)
              have cf : ∀ x0 W, (callFunc 16 #[x0]).run Tryz.prog W = .ok (.enter 16 #[x0]) W := fun _ _ => by kernel_rfl
              refine Rv.step_fn (op := Go.Op.call { callee := Go.Callee.value (Go.Operand.func 16), args := #[Go.Operand.tmp 25], argTypes := #[22] }) (f := 16) (args := #[.float .f64 y]) (R := fun v W' => v = .float .f64 (y % 9223372036854775808) ∧ Below W.heap.size W W') rfl rfl (fun d pos aft g => by unfold execOp; go_simp) ((AY.out W).mono ?_) ?_
              · (rintro e W' ⟨rfl, hb⟩; exact ⟨_, rfl, rfl, hb⟩)
              · (rintro v W' ⟨rfl, hb⟩; exact ⟨_, rfl, rfl, hb⟩)
            | 24, _ =>
              obtain ⟨e26, x26⟩ := Rv.ev (show a.tmps.getD 26 undef = .float .f64 (y % 9223372036854775808) from hdep 23 rfl)
              have hg := gt_raw H4.out
              exact Rv.step_op (op := Go.Op.binOp Go.BinOp.gtr 22 (Go.Operand.tmp 26) (Go.Operand.const (Go.Value.float Go.FloatKind.f64 4652007308841189376)) 22) (v := .bool false) (w1 := W) rfl rfl (fun d pos aft g => by unfold execOp; go_simp) ⟨_, rfl, rfl, Below.refl _ _⟩
            | 25, _ =>
              obtain ⟨e23, x23⟩ := Rv.ev (show a.tmps.getD 23 undef = .bool false from hdep 20 rfl)
              obtain ⟨e27, x27⟩ := Rv.ev (show a.tmps.getD 27 undef = .bool false from hdep 24 rfl)
              exact Rv.step_op (op := Go.Op.pick (Go.Operand.tmp 23) (Go.Operand.const (Go.Value.bool true)) (Go.Operand.tmp 27)) (v := .bool false) (w1 := W) rfl rfl (fun d pos aft g => by unfold execOp; go_simp) ⟨_, rfl, rfl, Below.refl _ _⟩
            | 26, _ =>
              obtain ⟨e28, x28⟩ := Rv.ev (show a.tmps.getD 28 undef = .bool false from hdep 25 rfl)
              exact Rv.step_op (op := Go.Op.assign (Go.Operand.tmp 28)) (v := .bool false) (w1 := W) rfl rfl (fun d pos aft g => by unfold execOp; go_simp) ⟨_, rfl, rfl, Below.refl _ _⟩
            | m + 27, h => exact absurd h (by show ¬ m + 27 < 27; omega)
          intro W f hf htr
          have f0 : f 0 = .pointer (some ⟨w.heap.size, 0, none⟩) := hf 0 (by show 0 < 27; omega)
          have f1 : f 1 = .float .f64 x := hf 1 (by show 1 < 27; omega)
          have f2 : f 2 = .pointer (some ⟨w.heap.size, 0, none⟩) := hf 2 (by show 2 < 27; omega)
          have f3 : f 3 = .float .f64 x := hf 3 (by show 3 < 27; omega)
          have f4 := hf 4 (by show 4 < 27; omega)
          have f5 : f 5 = .bool false := hf 5 (by show 5 < 27; omega)
          have f6 : f 6 = .bool false := hf 6 (by show 6 < 27; omega)
          have f7 : f 7 = .pointer (some ⟨w.heap.size, 1, none⟩) := hf 7 (by show 7 < 27; omega)
          have f8 : f 8 = .float .f64 y := hf 8 (by show 8 < 27; omega)
          have f9 : f 9 = .pointer (some ⟨w.heap.size, 1, none⟩) := hf 9 (by show 9 < 27; omega)
          have f10 : f 10 = .float .f64 y := hf 10 (by show 10 < 27; omega)
          have f11 := hf 11 (by show 11 < 27; omega)
          have f12 : f 12 = .bool false := hf 12 (by show 12 < 27; omega)
          have f13 : f 13 = .bool false := hf 13 (by show 13 < 27; omega)
          have f14 : f 14 = .bool false := hf 14 (by show 14 < 27; omega)
          have f15 : f 15 = .pointer (some ⟨w.heap.size, 0, none⟩) := hf 15 (by show 15 < 27; omega)
          have f16 : f 16 = .float .f64 x := hf 16 (by show 16 < 27; omega)
          have f17 : f 17 = .float .f64 (x % 9223372036854775808) := hf 17 (by show 17 < 27; omega)
          have f18 : f 18 = .bool false := hf 18 (by show 18 < 27; omega)
          have f19 : f 19 = .bool false := hf 19 (by show 19 < 27; omega)
          have f20 : f 20 = .bool false := hf 20 (by show 20 < 27; omega)
          have f21 : f 21 = .pointer (some ⟨w.heap.size, 1, none⟩) := hf 21 (by show 21 < 27; omega)
          have f22 : f 22 = .float .f64 y := hf 22 (by show 22 < 27; omega)
          have f23 : f 23 = .float .f64 (y % 9223372036854775808) := hf 23 (by show 23 < 27; omega)
          have f24 : f 24 = .bool false := hf 24 (by show 24 < 27; omega)
          have f25 : f 25 = .bool false := hf 25 (by show 25 < 27; omega)
          have f26 : f 26 = .bool false := hf 26 (by show 26 < 27; omega)
          refine (show ∀ (a : Act) (w : World), Code.wp _ _ _ a w → _ from by assumption) _ _ ?_
          refine Rv.fin_swap (L' := [(3, f 0), (4, f 1), (5, f 2), (6, f 3), (7, f 4), (8, f 5), (9, f 6), (10, f 7), (11, f 8), (12, f 9), (13, f 10), (14, f 11), (15, f 12), (16, f 13), (17, f 14), (18, f 15), (19, f 16), (20, f 17), (21, f 18), (22, f 19), (23, f 20), (24, f 21), (25, f 22), (26, f 23), (27, f 24), (28, f 25), (2, f 26)]) rfl ?_
          rw [f0, f1, f2, f3, f5, f6, f7, f8, f9, f10, f12, f13, f14, f15, f16, f17, f18, f19, f20, f21, f22, f23, f24, f25, f26]
          clear f0 f1 f2 f3 f5 f6 f7 f8 f9 f10 f12 f13 f14 f15 f16 f17 f18 f19 f20 f21 f22 f23 f24 f25 f26
          simp only [Rv.fin, List.foldl_cons, List.foldl_nil, Act.put, List.setIfInBounds_toArray, List.set_cons_succ, List.set_cons_zero]
          go_wp2
          go_ret
          exact ⟨rfl, HX.out.trans (htr.mono HX.out.size)⟩
        · have H4 := Lib.hid h4
          clear h4
          simp only [Bool.not_true, Bool.or_true]
          go_enter Tryz.func14, Tryz.ntmps14
          go_upto_region 1 with fail
          generalize (w.alloc (.cells #[.float .f64 x, .float .f64 y] 24)) = X at *
          refine Rv.region_goods (n := 29) (by kernel_rfl) #[3, 4, 5, 6, 7, 8, 9, 10, 11, 12, 13, 14, 15, 16, 17, 18, 19, 20, 21, 22, 23, 24, 25, 26, 27, 28, 2] #[none, none, none, none, none, none, some false, none, none, none, none, none, none, none, some false, none, none, none, none, none, some false] (fun i v W => if i = 11 then (fun v _ => ∃ z, v = .float .f64 z ∧ (FloatKind.f64.format.order y z == some .eq) = true) v W else if i = 4 then (fun v _ => ∃ z, v = .float .f64 z ∧ (FloatKind.f64.format.order x z == some .eq) = true) v W else v = (#[.pointer (some ⟨w.heap.size, 0, none⟩), .float .f64 x, .pointer (some ⟨w.heap.size, 0, none⟩), .float .f64 x, undef, .bool false, .bool false, .pointer (some ⟨w.heap.size, 1, none⟩), .float .f64 y, .pointer (some ⟨w.heap.size, 1, none⟩), .float .f64 y, undef, .bool false, .bool false, .bool false, .pointer (some ⟨w.heap.size, 0, none⟩), .float .f64 x, .float .f64 (x % 9223372036854775808), .bool false, .bool false, .bool false, .pointer (some ⟨w.heap.size, 1, none⟩), .float .f64 y, .float .f64 (y % 9223372036854775808), .bool true, .bool true, .bool true] : Array Value).getD i undef) (fun i v w w' h hb => ?_) (fun i h g b hg => ?_) rfl (by kernel_rfl) (by kernel_rfl) (fun i h hr w => ?_) ?_ ?_
          · by_cases hi14 : i = 11
            · subst hi14
              rw [if_pos rfl] at h ⊢
              exact (fun _ _ _ h _ => h) v w w' h hb
            rw [if_neg hi14] at h ⊢
            by_cases hi7 : i = 4
            · subst hi7
              rw [if_pos rfl] at h ⊢
              exact (fun _ _ _ h _ => h) v w w' h hb
            rw [if_neg hi7] at h ⊢
            exact h
          · match i, h, hg with
            | 0, _, hg => cases hg
            | 1, _, hg => cases hg
            | 2, _, hg => cases hg
            | 3, _, hg => cases hg
            | 4, _, hg => cases hg
            | 5, _, hg => cases hg
            | 6, _, hg => cases hg
            | 7, _, hg => (cases hg; exact fun v w e => e)
            | 8, _, hg => (cases hg; exact fun v w e => e)
            | 9, _, hg => (cases hg; exact fun v w e => e)
            | 10, _, hg => (cases hg; exact fun v w e => e)
            | 11, _, hg => (cases hg; exact fun v w e => e)
            | 12, _, hg => (cases hg; exact fun v w e => e)
            | 13, _, hg => cases hg
            | 14, _, hg => cases hg
            | 15, _, hg => (cases hg; exact fun v w e => e)
            | 16, _, hg => (cases hg; exact fun v w e => e)
            | 17, _, hg => (cases hg; exact fun v w e => e)
            | 18, _, hg => (cases hg; exact fun v w e => e)
            | 19, _, hg => cases hg
            | 20, _, hg => cases hg
            | 21, _, hg => (cases hg; exact fun v w e => e)
            | 22, _, hg => (cases hg; exact fun v w e => e)
            | 23, _, hg => (cases hg; exact fun v w e => e)
            | 24, _, hg => (cases hg; exact fun v w e => e)
            | 25, _, hg => cases hg
            | 26, _, hg => cases hg
            | m + 27, h, _ => exact absurd h (by show ¬ m + 27 < 27; omega)
          · match i, h, hr with
            | 0, _, hr => exact Bool.noConfusion (show true = false from hr)
            | 1, _, hr => exact Bool.noConfusion (show true = false from hr)
            | 2, _, hr => exact Bool.noConfusion (show true = false from hr)
            | 3, _, hr => exact Bool.noConfusion (show true = false from hr)
            | 4, _, hr => exact Bool.noConfusion (show true = false from hr)
            | 5, _, hr => exact Bool.noConfusion (show true = false from hr)
            | 6, _, hr => exact Bool.noConfusion (show true = false from hr)
            | 7, _, hr => exact Bool.noConfusion (show true = false from hr)
            | 8, _, hr => exact Bool.noConfusion (show true = false from hr)
            | 9, _, hr => exact Bool.noConfusion (show true = false from hr)
            | 10, _, hr => exact Bool.noConfusion (show true = false from hr)
            | 11, _, hr => exact Bool.noConfusion (show true = false from hr)
            | 12, _, hr => exact Bool.noConfusion (show true = false from hr)
            | 13, _, hr => exact Bool.noConfusion (show true = false from hr)
            | 14, _, hr => exact Bool.noConfusion (show true = false from hr)
            | 15, _, hr => exact Bool.noConfusion (show true = false from hr)
            | 16, _, hr => exact Bool.noConfusion (show true = false from hr)
            | 17, _, hr => exact Bool.noConfusion (show true = false from hr)
            | 18, _, hr => exact Bool.noConfusion (show true = false from hr)
            | 19, _, hr => exact Bool.noConfusion (show true = false from hr)
            | 20, _, hr => exact Bool.noConfusion (show true = false from hr)
            | 21, _, hr => exact Bool.noConfusion (show true = false from hr)
            | 22, _, hr => exact Bool.noConfusion (show true = false from hr)
            | 23, _, hr => exact Bool.noConfusion (show true = false from hr)
            | 24, _, hr => exact Bool.noConfusion (show true = false from hr)
            | 25, _, hr => exact Bool.noConfusion (show true = false from hr)
            | 26, _, hr => exact Bool.noConfusion (show true = false from hr)
            | m + 27, h, _ => exact absurd h (by show ¬ m + 27 < 27; omega)
          · intro i h a W hrun hbase hpre hdep htr
            obtain ⟨c0, c1, _, _⟩ := cells_two ((htr.block _ hs).trans HN.out)
            match i, h with
            | 0, _ =>
              obtain ⟨e1, x1⟩ := Rv.ev (show a.tmps.getD 1 undef = .pointer (some ⟨w.heap.size, 0, none⟩) from hbase 1 rfl)
              exact Rv.step_op (op := Go.Op.indexAddr 24 (Go.Operand.tmp 1) (Go.Operand.const (Go.Value.int Go.IntKind.i64 0))) (v := .pointer (some ⟨w.heap.size, 0, none⟩)) (w1 := W) rfl rfl (fun d pos aft g => by unfold execOp; go_simp) ⟨_, rfl, rfl, Below.refl _ _⟩
            | 1, _ =>
              obtain ⟨e3, x3⟩ := Rv.ev (show a.tmps.getD 3 undef = .pointer (some ⟨w.heap.size, 0, none⟩) from hdep 0 rfl)
              exact Rv.step_op (op := Go.Op.load 22 (Go.Operand.tmp 3)) (v := .float .f64 x) (w1 := W) rfl rfl (fun d pos aft g => by unfold execOp; go_simp) ⟨_, rfl, rfl, Below.refl _ _⟩
            | 2, _ =>
              obtain ⟨e1, x1⟩ := Rv.ev (show a.tmps.getD 1 undef = .pointer (some ⟨w.heap.size, 0, none⟩) from hbase 1 rfl)
              exact Rv.step_op (op := Go.Op.indexAddr 24 (Go.Operand.tmp 1) (Go.Operand.const (Go.Value.int Go.IntKind.i64 0))) (v := .pointer (some ⟨w.heap.size, 0, none⟩)) (w1 := W) rfl rfl (fun d pos aft g => by unfold execOp; go_simp) ⟨_, rfl, rfl, Below.refl _ _⟩
            | 3, _ =>
              obtain ⟨e5, x5⟩ := Rv.ev (show a.tmps.getD 5 undef = .pointer (some ⟨w.heap.size, 0, none⟩) from hdep 2 rfl)
              exact Rv.step_op (op := Go.Op.load 22 (Go.Operand.tmp 5)) (v := .float .f64 x) (w1 := W) rfl rfl (fun d pos aft g => by unfold execOp; go_simp) ⟨_, rfl, rfl, Below.refl _ _⟩
            | 4, _ =>
              obtain ⟨e6, x6⟩ := Rv.ev (show a.tmps.getD 6 undef = .float .f64 x from hdep 3 rfl)
              have cf : ∀ x0 W, (callFunc 15 #[x0]).run Tryz.prog W = .ok (.enter 15 #[x0]) W := fun _ _ => by kernel_rfl
              refine Rv.step_fn (op := Go.Op.call { callee := Go.Callee.value (Go.Operand.func 15), args := #[Go.Operand.tmp 6], argTypes := #[22] }) (ty := 22) (f := 15) (args := #[.float .f64 x]) (R := fun v W' => (∃ z, v = .float .f64 z ∧ (FloatKind.f64.format.order x z == some .eq) = true) ∧ Below W.heap.size W W') rfl rfl (fun d pos aft g => by unfold execOp; go_simp) ((TX.out W).mono ?_) ?_
              · (rintro e W' ⟨z, rfl, hz, hb⟩; exact ⟨_, rfl, ⟨z, rfl, hz.trans H1.out⟩, hb⟩)
              · (rintro v W' ⟨hz, hb⟩; exact ⟨v, rfl, hz, hb⟩)
            | 5, _ =>
              obtain ⟨e4, x4⟩ := Rv.ev (show a.tmps.getD 4 undef = .float .f64 x from hdep 1 rfl)
              obtain ⟨z, ez, hz⟩ : ∃ z, a.tmps.getD 7 undef = .float .f64 z ∧ (FloatKind.f64.format.order x z == some .eq) = true := hdep 4 rfl
              obtain ⟨e7, x7⟩ := Rv.ev ez
              have hz2 := neq_of hz
              exact Rv.step_op (op := Go.Op.binOp Go.BinOp.neq 22 (Go.Operand.tmp 4) (Go.Operand.tmp 7) 22) (v := .bool false) (w1 := W) rfl rfl (fun d pos aft g => by unfold execOp; go_simp) ⟨_, rfl, rfl, Below.refl _ _⟩
            | 6, _ =>
              obtain ⟨e8, x8⟩ := Rv.ev (show a.tmps.getD 8 undef = .bool false from hdep 5 rfl)
              exact Rv.step_op (op := Go.Op.move (Go.Operand.tmp 8)) (v := .bool false) (w1 := W) rfl rfl (fun d pos aft g => by unfold execOp; go_simp) ⟨_, rfl, rfl, Below.refl _ _⟩
            | 7, _ =>
              obtain ⟨e1, x1⟩ := Rv.ev (show a.tmps.getD 1 undef = .pointer (some ⟨w.heap.size, 0, none⟩) from hbase 1 rfl)
              exact Rv.step_op (op := Go.Op.indexAddr 24 (Go.Operand.tmp 1) (Go.Operand.const (Go.Value.int Go.IntKind.i64 1))) (v := .pointer (some ⟨w.heap.size, 1, none⟩)) (w1 := W) rfl rfl (fun d pos aft g => by unfold execOp; go_simp) ⟨_, rfl, rfl, Below.refl _ _⟩
            | 8, _ =>
              obtain ⟨e10, x10⟩ := Rv.ev (show a.tmps.getD 10 undef = .pointer (some ⟨w.heap.size, 1, none⟩) from hdep 7 rfl)
              exact Rv.step_op (op := Go.Op.load 22 (Go.Operand.tmp 10)) (v := .float .f64 y) (w1 := W) rfl rfl (fun d pos aft g => by unfold execOp; go_simp) ⟨_, rfl, rfl, Below.refl _ _⟩
            | 9, _ =>
              obtain ⟨e1, x1⟩ := Rv.ev (show a.tmps.getD 1 undef = .pointer (some ⟨w.heap.size, 0, none⟩) from hbase 1 rfl)
              exact Rv.step_op (op := Go.Op.indexAddr 24 (Go.Operand.tmp 1) (Go.Operand.const (Go.Value.int Go.IntKind.i64 1))) (v := .pointer (some ⟨w.heap.size, 1, none⟩)) (w1 := W) rfl rfl (fun d pos aft g => by unfold execOp; go_simp) ⟨_, rfl, rfl, Below.refl _ _⟩
            | 10, _ =>
              obtain ⟨e12, x12⟩ := Rv.ev (show a.tmps.getD 12 undef = .pointer (some ⟨w.heap.size, 1, none⟩) from hdep 9 rfl)
              exact Rv.step_op (op := Go.Op.load 22 (Go.Operand.tmp 12)) (v := .float .f64 y) (w1 := W) rfl rfl (fun d pos aft g => by unfold execOp; go_simp) ⟨_, rfl, rfl, Below.refl _ _⟩
            | 11, _ =>
              obtain ⟨e13, x13⟩ := Rv.ev (show a.tmps.getD 13 undef = .float .f64 y from hdep 10 rfl)
              have cf : ∀ x0 W, (callFunc 15 #[x0]).run Tryz.prog W = .ok (.enter 15 #[x0]) W := fun _ _ => by kernel_rfl
              refine Rv.step_fn (op := Go.Op.call { callee := Go.Callee.value (Go.Operand.func 15), args := #[Go.Operand.tmp 13], argTypes := #[22] }) (ty := 22) (f := 15) (args := #[.float .f64 y]) (R := fun v W' => (∃ z, v = .float .f64 z ∧ (FloatKind.f64.format.order y z == some .eq) = true) ∧ Below W.heap.size W W') rfl rfl (fun d pos aft g => by unfold execOp; go_simp) ((TY.out W).mono ?_) ?_
              · (rintro e W' ⟨z, rfl, hz, hb⟩; exact ⟨_, rfl, ⟨z, rfl, hz.trans H2.out⟩, hb⟩)
              · (rintro v W' ⟨hz, hb⟩; exact ⟨v, rfl, hz, hb⟩)
            | 12, _ =>
              obtain ⟨e11, x11⟩ := Rv.ev (show a.tmps.getD 11 undef = .float .f64 y from hdep 8 rfl)
              obtain ⟨z, ez, hz⟩ : ∃ z, a.tmps.getD 14 undef = .float .f64 z ∧ (FloatKind.f64.format.order y z == some .eq) = true := hdep 11 rfl
              obtain ⟨e14, x14⟩ := Rv.ev ez
              have hz2 := neq_of hz
              exact Rv.step_op (op := Go.Op.binOp Go.BinOp.neq 22 (Go.Operand.tmp 11) (Go.Operand.tmp 14) 22) (v := .bool false) (w1 := W) rfl rfl (fun d pos aft g => by unfold execOp; go_simp) ⟨_, rfl, rfl, Below.refl _ _⟩
            | 13, _ =>
              obtain ⟨e9, x9⟩ := Rv.ev (show a.tmps.getD 9 undef = .bool false from hdep 6 rfl)
              obtain ⟨e15, x15⟩ := Rv.ev (show a.tmps.getD 15 undef = .bool false from hdep 12 rfl)
              exact Rv.step_op (op := Go.Op.pick (Go.Operand.tmp 9) (Go.Operand.const (Go.Value.bool true)) (Go.Operand.tmp 15)) (v := .bool false) (w1 := W) rfl rfl (fun d pos aft g => by unfold execOp; go_simp) ⟨_, rfl, rfl, Below.refl _ _⟩
            | 14, _ =>
              obtain ⟨e16, x16⟩ := Rv.ev (show a.tmps.getD 16 undef = .bool false from hdep 13 rfl)
              exact Rv.step_op (op := Go.Op.move (Go.Operand.tmp 16)) (v := .bool false) (w1 := W) rfl rfl (fun d pos aft g => by unfold execOp; go_simp) ⟨_, rfl, rfl, Below.refl _ _⟩
            | 15, _ =>
              obtain ⟨e1, x1⟩ := Rv.ev (show a.tmps.getD 1 undef = .pointer (some ⟨w.heap.size, 0, none⟩) from hbase 1 rfl)
              exact Rv.step_op (op := Go.Op.indexAddr 24 (Go.Operand.tmp 1) (Go.Operand.const (Go.Value.int Go.IntKind.i64 0))) (v := .pointer (some ⟨w.heap.size, 0, none⟩)) (w1 := W) rfl rfl (fun d pos aft g => by unfold execOp; go_simp) ⟨_, rfl, rfl, Below.refl _ _⟩
            | 16, _ =>
              obtain ⟨e18, x18⟩ := Rv.ev (show a.tmps.getD 18 undef = .pointer (some ⟨w.heap.size, 0, none⟩) from hdep 15 rfl)
              exact Rv.step_op (op := Go.Op.load 22 (Go.Operand.tmp 18)) (v := .float .f64 x) (w1 := W) rfl rfl (fun d pos aft g => by unfold execOp; go_simp) ⟨_, rfl, rfl, Below.refl _ _⟩
            | 17, _ =>
              obtain ⟨e19, x19⟩ := Rv.ev (show a.tmps.getD 19 undef = .float .f64 x from hdep 16 rfl)
              have cf : ∀ x0 W, (callFunc 16 #[x0]).run Tryz.prog W = .ok (.enter 16 #[x0]) W := fun _ _ => by kernel_rfl
              refine Rv.step_fn (op := Go.Op.call { callee := Go.Callee.value (Go.Operand.func 16), args := #[Go.Operand.tmp 19], argTypes := #[22] }) (f := 16) (args := #[.float .f64 x]) (R := fun v W' => v = .float .f64 (x % 9223372036854775808) ∧ Below W.heap.size W W') rfl rfl (fun d pos aft g => by unfold execOp; go_simp) ((AX.out W).mono ?_) ?_
              · (rintro e W' ⟨rfl, hb⟩; exact ⟨_, rfl, rfl, hb⟩)
              · (rintro v W' ⟨rfl, hb⟩; exact ⟨_, rfl, rfl, hb⟩)
            | 18, _ =>
              obtain ⟨e20, x20⟩ := Rv.ev (show a.tmps.getD 20 undef = .float .f64 (x % 9223372036854775808) from hdep 17 rfl)
              have hg := gt_raw H3.out
              exact Rv.step_op (op := Go.Op.binOp Go.BinOp.gtr 22 (Go.Operand.tmp 20) (Go.Operand.const (Go.Value.float Go.FloatKind.f64 4652007308841189376)) 22) (v := .bool false) (w1 := W) rfl rfl (fun d pos aft g => by unfold execOp; go_simp) ⟨_, rfl, rfl, Below.refl _ _⟩
            | 19, _ =>
              obtain ⟨e17, x17⟩ := Rv.ev (show a.tmps.getD 17 undef = .bool false from hdep 14 rfl)
              obtain ⟨e21, x21⟩ := Rv.ev (show a.tmps.getD 21 undef = .bool false from hdep 18 rfl)
              exact Rv.step_op (op := Go.Op.pick (Go.Operand.tmp 17) (Go.Operand.const (Go.Value.bool true)) (Go.Operand.tmp 21)) (v := .bool false) (w1 := W) rfl rfl (fun d pos aft g => by unfold execOp; go_simp) ⟨_, rfl, rfl, Below.refl _ _⟩
            | 20, _ =>
              obtain ⟨e22, x22⟩ := Rv.ev (show a.tmps.getD 22 undef = .bool false from hdep 19 rfl)
              exact Rv.step_op (op := Go.Op.move (Go.Operand.tmp 22)) (v := .bool false) (w1 := W) rfl rfl (fun d pos aft g => by unfold execOp; go_simp) ⟨_, rfl, rfl, Below.refl _ _⟩
            | 21, _ =>
              obtain ⟨e1, x1⟩ := Rv.ev (show a.tmps.getD 1 undef = .pointer (some ⟨w.heap.size, 0, none⟩) from hbase 1 rfl)
              exact Rv.step_op (op := Go.Op.indexAddr 24 (Go.Operand.tmp 1) (Go.Operand.const (Go.Value.int Go.IntKind.i64 1))) (v := .pointer (some ⟨w.heap.size, 1, none⟩)) (w1 := W) rfl rfl (fun d pos aft g => by unfold execOp; go_simp) ⟨_, rfl, rfl, Below.refl _ _⟩
            | 22, _ =>
              obtain ⟨e24, x24⟩ := Rv.ev (show a.tmps.getD 24 undef = .pointer (some ⟨w.heap.size, 1, none⟩) from hdep 21 rfl)
              exact Rv.step_op (op := Go.Op.load 22 (Go.Operand.tmp 24)) (v := .float .f64 y) (w1 := W) rfl rfl (fun d pos aft g => by unfold execOp; go_simp) ⟨_, rfl, rfl, Below.refl _ _⟩
            | 23, _ =>
              obtain ⟨e25, x25⟩ := Rv.ev (show a.tmps.getD 25 undef = .float .f64 y from hdep 22 rfl)
              have cf : ∀ x0 W, (callFunc 16 #[x0]).run Tryz.prog W = .ok (.enter 16 #[x0]) W := fun _ _ => by kernel_rfl
              refine Rv.step_fn (op := Go.Op.call { callee := Go.Callee.value (Go.Operand.func 16), args := #[Go.Operand.tmp 25], argTypes := #[22] }) (f := 16) (args := #[.float .f64 y]) (R := fun v W' => v = .float .f64 (y % 9223372036854775808) ∧ Below W.heap.size W W') rfl rfl (fun d pos aft g => by unfold execOp; go_simp) ((AY.out W).mono ?_) ?_
              · (rintro e W' ⟨rfl, hb⟩; exact ⟨_, rfl, rfl, hb⟩)
              · (rintro v W' ⟨rfl, hb⟩; exact ⟨_, rfl, rfl, hb⟩)
            | 24, _ =>
              obtain ⟨e26, x26⟩ := Rv.ev (show a.tmps.getD 26 undef = .float .f64 (y % 9223372036854775808) from hdep 23 rfl)
              have hg := gt_raw H4.out
              exact Rv.step_op (op := Go.Op.binOp Go.BinOp.gtr 22 (Go.Operand.tmp 26) (Go.Operand.const (Go.Value.float Go.FloatKind.f64 4652007308841189376)) 22) (v := .bool true) (w1 := W) rfl rfl (fun d pos aft g => by unfold execOp; go_simp) ⟨_, rfl, rfl, Below.refl _ _⟩
            | 25, _ =>
              obtain ⟨e23, x23⟩ := Rv.ev (show a.tmps.getD 23 undef = .bool false from hdep 20 rfl)
              obtain ⟨e27, x27⟩ := Rv.ev (show a.tmps.getD 27 undef = .bool true from hdep 24 rfl)
              exact Rv.step_op (op := Go.Op.pick (Go.Operand.tmp 23) (Go.Operand.const (Go.Value.bool true)) (Go.Operand.tmp 27)) (v := .bool true) (w1 := W) rfl rfl (fun d pos aft g => by unfold execOp; go_simp) ⟨_, rfl, rfl, Below.refl _ _⟩
            | 26, _ =>
              obtain ⟨e28, x28⟩ := Rv.ev (show a.tmps.getD 28 undef = .bool true from hdep 25 rfl)
              exact Rv.step_op (op := Go.Op.assign (Go.Operand.tmp 28)) (v := .bool true) (w1 := W) rfl rfl (fun d pos aft g => by unfold execOp; go_simp) ⟨_, rfl, rfl, Below.refl _ _⟩
            | m + 27, h => exact absurd h (by show ¬ m + 27 < 27; omega)
          intro W f hf htr
          have f0 : f 0 = .pointer (some ⟨w.heap.size, 0, none⟩) := hf 0 (by show 0 < 27; omega)
          have f1 : f 1 = .float .f64 x := hf 1 (by show 1 < 27; omega)
          have f2 : f 2 = .pointer (some ⟨w.heap.size, 0, none⟩) := hf 2 (by show 2 < 27; omega)
          have f3 : f 3 = .float .f64 x := hf 3 (by show 3 < 27; omega)
          have f4 := hf 4 (by show 4 < 27; omega)
          have f5 : f 5 = .bool false := hf 5 (by show 5 < 27; omega)
          have f6 : f 6 = .bool false := hf 6 (by show 6 < 27; omega)
          have f7 : f 7 = .pointer (some ⟨w.heap.size, 1, none⟩) := hf 7 (by show 7 < 27; omega)
          have f8 : f 8 = .float .f64 y := hf 8 (by show 8 < 27; omega)
          have f9 : f 9 = .pointer (some ⟨w.heap.size, 1, none⟩) := hf 9 (by show 9 < 27; omega)
          have f10 : f 10 = .float .f64 y := hf 10 (by show 10 < 27; omega)
          have f11 := hf 11 (by show 11 < 27; omega)
          have f12 : f 12 = .bool false := hf 12 (by show 12 < 27; omega)
          have f13 : f 13 = .bool false := hf 13 (by show 13 < 27; omega)
          have f14 : f 14 = .bool false := hf 14 (by show 14 < 27; omega)
          have f15 : f 15 = .pointer (some ⟨w.heap.size, 0, none⟩) := hf 15 (by show 15 < 27; omega)
          have f16 : f 16 = .float .f64 x := hf 16 (by show 16 < 27; omega)
          have f17 : f 17 = .float .f64 (x % 9223372036854775808) := hf 17 (by show 17 < 27; omega)
          have f18 : f 18 = .bool false := hf 18 (by show 18 < 27; omega)
          have f19 : f 19 = .bool false := hf 19 (by show 19 < 27; omega)
          have f20 : f 20 = .bool false := hf 20 (by show 20 < 27; omega)
          have f21 : f 21 = .pointer (some ⟨w.heap.size, 1, none⟩) := hf 21 (by show 21 < 27; omega)
          have f22 : f 22 = .float .f64 y := hf 22 (by show 22 < 27; omega)
          have f23 : f 23 = .float .f64 (y % 9223372036854775808) := hf 23 (by show 23 < 27; omega)
          have f24 : f 24 = .bool true := hf 24 (by show 24 < 27; omega)
          have f25 : f 25 = .bool true := hf 25 (by show 25 < 27; omega)
          have f26 : f 26 = .bool true := hf 26 (by show 26 < 27; omega)
          refine (show ∀ (a : Act) (w : World), Code.wp _ _ _ a w → _ from by assumption) _ _ ?_
          refine Rv.fin_swap (L' := [(3, f 0), (4, f 1), (5, f 2), (6, f 3), (7, f 4), (8, f 5), (9, f 6), (10, f 7), (11, f 8), (12, f 9), (13, f 10), (14, f 11), (15, f 12), (16, f 13), (17, f 14), (18, f 15), (19, f 16), (20, f 17), (21, f 18), (22, f 19), (23, f 20), (24, f 21), (25, f 22), (26, f 23), (27, f 24), (28, f 25), (2, f 26)]) rfl ?_
          rw [f0, f1, f2, f3, f5, f6, f7, f8, f9, f10, f12, f13, f14, f15, f16, f17, f18, f19, f20, f21, f22, f23, f24, f25, f26]
          clear f0 f1 f2 f3 f5 f6 f7 f8 f9 f10 f12 f13 f14 f15 f16 f17 f18 f19 f20 f21 f22 f23 f24 f25 f26
          simp only [Rv.fin, List.foldl_cons, List.foldl_nil, Act.put, List.setIfInBounds_toArray, List.set_cons_succ, List.set_cons_zero]
          go_wp2
          go_ret
          exact ⟨rfl, HX.out.trans (htr.mono HX.out.size)⟩
      · have H3 := Lib.hid h3
        clear h3
        simp only [Bool.not_true, Bool.or_true, Bool.true_or, Bool.false_or]
        go_enter Tryz.func14, Tryz.ntmps14
        go_upto_region 1 with fail
        generalize (w.alloc (.cells #[.float .f64 x, .float .f64 y] 24)) = X at *
        refine Rv.region_goods (n := 29) (by kernel_rfl) #[3, 4, 5, 6, 7, 8, 9, 10, 11, 12, 13, 14, 15, 16, 17, 18, 19, 20, 21, 22, 23, 24, 25, 26, 27, 28, 2] #[none, none, none, none, none, none, some false, none, none, none, none, none, none, none, some false, none, none, none, none, none, some true] (fun i v W => if i = 11 then (fun v _ => ∃ z, v = .float .f64 z ∧ (FloatKind.f64.format.order y z == some .eq) = true) v W else if i = 4 then (fun v _ => ∃ z, v = .float .f64 z ∧ (FloatKind.f64.format.order x z == some .eq) = true) v W else v = (#[.pointer (some ⟨w.heap.size, 0, none⟩), .float .f64 x, .pointer (some ⟨w.heap.size, 0, none⟩), .float .f64 x, undef, .bool false, .bool false, .pointer (some ⟨w.heap.size, 1, none⟩), .float .f64 y, .pointer (some ⟨w.heap.size, 1, none⟩), .float .f64 y, undef, .bool false, .bool false, .bool false, .pointer (some ⟨w.heap.size, 0, none⟩), .float .f64 x, .float .f64 (x % 9223372036854775808), .bool true, .bool true, .bool true, undef, undef, undef, undef, Go.Value.bool true, Go.Value.bool true] : Array Value).getD i undef) (fun i v w w' h hb => ?_) (fun i h g b hg => ?_) rfl (by kernel_rfl) (by kernel_rfl) (fun i h hr w => ?_) ?_ ?_
        · by_cases hi14 : i = 11
          · subst hi14
            rw [if_pos rfl] at h ⊢
            exact (fun _ _ _ h _ => h) v w w' h hb
          rw [if_neg hi14] at h ⊢
          by_cases hi7 : i = 4
          · subst hi7
            rw [if_pos rfl] at h ⊢
            exact (fun _ _ _ h _ => h) v w w' h hb
          rw [if_neg hi7] at h ⊢
          exact h
        · match i, h, hg with
          | 0, _, hg => cases hg
          | 1, _, hg => cases hg
          | 2, _, hg => cases hg
          | 3, _, hg => cases hg
          | 4, _, hg => cases hg
          | 5, _, hg => cases hg
          | 6, _, hg => cases hg
          | 7, _, hg => (cases hg; exact fun v w e => e)
          | 8, _, hg => (cases hg; exact fun v w e => e)
          | 9, _, hg => (cases hg; exact fun v w e => e)
          | 10, _, hg => (cases hg; exact fun v w e => e)
          | 11, _, hg => (cases hg; exact fun v w e => e)
          | 12, _, hg => (cases hg; exact fun v w e => e)
          | 13, _, hg => cases hg
          | 14, _, hg => cases hg
          | 15, _, hg => (cases hg; exact fun v w e => e)
          | 16, _, hg => (cases hg; exact fun v w e => e)
          | 17, _, hg => (cases hg; exact fun v w e => e)
          | 18, _, hg => (cases hg; exact fun v w e => e)
          | 19, _, hg => cases hg
          | 20, _, hg => cases hg
          | 21, _, hg => (cases hg; exact fun v w e => e)
          | 22, _, hg => (cases hg; exact fun v w e => e)
          | 23, _, hg => (cases hg; exact fun v w e => e)
          | 24, _, hg => (cases hg; exact fun v w e => e)
          | 25, _, hg => cases hg
          | 26, _, hg => cases hg
          | m + 27, h, _ => exact absurd h (by show ¬ m + 27 < 27; omega)
        · match i, h, hr with
          | 0, _, hr => exact Bool.noConfusion (show true = false from hr)
          | 1, _, hr => exact Bool.noConfusion (show true = false from hr)
          | 2, _, hr => exact Bool.noConfusion (show true = false from hr)
          | 3, _, hr => exact Bool.noConfusion (show true = false from hr)
          | 4, _, hr => exact Bool.noConfusion (show true = false from hr)
          | 5, _, hr => exact Bool.noConfusion (show true = false from hr)
          | 6, _, hr => exact Bool.noConfusion (show true = false from hr)
          | 7, _, hr => exact Bool.noConfusion (show true = false from hr)
          | 8, _, hr => exact Bool.noConfusion (show true = false from hr)
          | 9, _, hr => exact Bool.noConfusion (show true = false from hr)
          | 10, _, hr => exact Bool.noConfusion (show true = false from hr)
          | 11, _, hr => exact Bool.noConfusion (show true = false from hr)
          | 12, _, hr => exact Bool.noConfusion (show true = false from hr)
          | 13, _, hr => exact Bool.noConfusion (show true = false from hr)
          | 14, _, hr => exact Bool.noConfusion (show true = false from hr)
          | 15, _, hr => exact Bool.noConfusion (show true = false from hr)
          | 16, _, hr => exact Bool.noConfusion (show true = false from hr)
          | 17, _, hr => exact Bool.noConfusion (show true = false from hr)
          | 18, _, hr => exact Bool.noConfusion (show true = false from hr)
          | 19, _, hr => exact Bool.noConfusion (show true = false from hr)
          | 20, _, hr => exact Bool.noConfusion (show true = false from hr)
          | 21, _, hr => rfl
          | 22, _, hr => rfl
          | 23, _, hr => rfl
          | 24, _, hr => rfl
          | 25, _, hr => exact Bool.noConfusion (show true = false from hr)
          | 26, _, hr => exact Bool.noConfusion (show true = false from hr)
          | m + 27, h, _ => exact absurd h (by show ¬ m + 27 < 27; omega)
        · intro i h a W hrun hbase hpre hdep htr
          obtain ⟨c0, c1, _, _⟩ := cells_two ((htr.block _ hs).trans HN.out)
          match i, h with
          | 0, _ =>
            obtain ⟨e1, x1⟩ := Rv.ev (show a.tmps.getD 1 undef = .pointer (some ⟨w.heap.size, 0, none⟩) from hbase 1 rfl)
            exact Rv.step_op (op := Go.Op.indexAddr 24 (Go.Operand.tmp 1) (Go.Operand.const (Go.Value.int Go.IntKind.i64 0))) (v := .pointer (some ⟨w.heap.size, 0, none⟩)) (w1 := W) rfl rfl (fun d pos aft g => by unfold execOp; go_simp) ⟨_, rfl, rfl, Below.refl _ _⟩
          | 1, _ =>
            obtain ⟨e3, x3⟩ := Rv.ev (show a.tmps.getD 3 undef = .pointer (some ⟨w.heap.size, 0, none⟩) from hdep 0 rfl)
            exact Rv.step_op (op := Go.Op.load 22 (Go.Operand.tmp 3)) (v := .float .f64 x) (w1 := W) rfl rfl (fun d pos aft g => by unfold execOp; go_simp) ⟨_, rfl, rfl, Below.refl _ _⟩
          | 2, _ =>
            obtain ⟨e1, x1⟩ := Rv.ev (show a.tmps.getD 1 undef = .pointer (some ⟨w.heap.size, 0, none⟩) from hbase 1 rfl)
            exact Rv.step_op (op := Go.Op.indexAddr 24 (Go.Operand.tmp 1) (Go.Operand.const (Go.Value.int Go.IntKind.i64 0))) (v := .pointer (some ⟨w.heap.size, 0, none⟩)) (w1 := W) rfl rfl (fun d pos aft g => by unfold execOp; go_simp) ⟨_, rfl, rfl, Below.refl _ _⟩
          | 3, _ =>
            obtain ⟨e5, x5⟩ := Rv.ev (show a.tmps.getD 5 undef = .pointer (some ⟨w.heap.size, 0, none⟩) from hdep 2 rfl)
            exact Rv.step_op (op := Go.Op.load 22 (Go.Operand.tmp 5)) (v := .float .f64 x) (w1 := W) rfl rfl (fun d pos aft g => by unfold execOp; go_simp) ⟨_, rfl, rfl, Below.refl _ _⟩
          | 4, _ =>
            obtain ⟨e6, x6⟩ := Rv.ev (show a.tmps.getD 6 undef = .float .f64 x from hdep 3 rfl)
            have cf : ∀ x0 W, (callFunc 15 #[x0]).run Tryz.prog W = .ok (.enter 15 #[x0]) W := fun _ _ => by kernel_rfl
            refine Rv.step_fn (op := Go.Op.call { callee := Go.Callee.value (Go.Operand.func 15), args := #[Go.Operand.tmp 6], argTypes := #[22] }) (ty := 22) (f := 15) (args := #[.float .f64 x]) (R := fun v W' => (∃ z, v = .float .f64 z ∧ (FloatKind.f64.format.order x z == some .eq) = true) ∧ Below W.heap.size W W') rfl rfl (fun d pos aft g => by unfold execOp; go_simp) ((TX.out W).mono ?_) ?_
            · (rintro e W' ⟨z, rfl, hz, hb⟩; exact ⟨_, rfl, ⟨z, rfl, hz.trans H1.out⟩, hb⟩)
            · (rintro v W' ⟨hz, hb⟩; exact ⟨v, rfl, hz, hb⟩)
          | 5, _ =>
            obtain ⟨e4, x4⟩ := Rv.ev (show a.tmps.getD 4 undef = .float .f64 x from hdep 1 rfl)
            obtain ⟨z, ez, hz⟩ : ∃ z, a.tmps.getD 7 undef = .float .f64 z ∧ (FloatKind.f64.format.order x z == some .eq) = true := hdep 4 rfl
            obtain ⟨e7, x7⟩ := Rv.ev ez
            have hz2 := neq_of hz
            exact Rv.step_op (op := Go.Op.binOp Go.BinOp.neq 22 (Go.Operand.tmp 4) (Go.Operand.tmp 7) 22) (v := .bool false) (w1 := W) rfl rfl (fun d pos aft g => by unfold execOp; go_simp) ⟨_, rfl, rfl, Below.refl _ _⟩
          | 6, _ =>
            obtain ⟨e8, x8⟩ := Rv.ev (show a.tmps.getD 8 undef = .bool false from hdep 5 rfl)
            exact Rv.step_op (op := Go.Op.move (Go.Operand.tmp 8)) (v := .bool false) (w1 := W) rfl rfl (fun d pos aft g => by unfold execOp; go_simp) ⟨_, rfl, rfl, Below.refl _ _⟩
          | 7, _ =>
            obtain ⟨e1, x1⟩ := Rv.ev (show a.tmps.getD 1 undef = .pointer (some ⟨w.heap.size, 0, none⟩) from hbase 1 rfl)
            exact Rv.step_op (op := Go.Op.indexAddr 24 (Go.Operand.tmp 1) (Go.Operand.const (Go.Value.int Go.IntKind.i64 1))) (v := .pointer (some ⟨w.heap.size, 1, none⟩)) (w1 := W) rfl rfl (fun d pos aft g => by unfold execOp; go_simp) ⟨_, rfl, rfl, Below.refl _ _⟩
          | 8, _ =>
            obtain ⟨e10, x10⟩ := Rv.ev (show a.tmps.getD 10 undef = .pointer (some ⟨w.heap.size, 1, none⟩) from hdep 7 rfl)
            exact Rv.step_op (op := Go.Op.load 22 (Go.Operand.tmp 10)) (v := .float .f64 y) (w1 := W) rfl rfl (fun d pos aft g => by unfold execOp; go_simp) ⟨_, rfl, rfl, Below.refl _ _⟩
          | 9, _ =>
            obtain ⟨e1, x1⟩ := Rv.ev (show a.tmps.getD 1 undef = .pointer (some ⟨w.heap.size, 0, none⟩) from hbase 1 rfl)
            exact Rv.step_op (op := Go.Op.indexAddr 24 (Go.Operand.tmp 1) (Go.Operand.const (Go.Value.int Go.IntKind.i64 1))) (v := .pointer (some ⟨w.heap.size, 1, none⟩)) (w1 := W) rfl rfl (fun d pos aft g => by unfold execOp; go_simp) ⟨_, rfl, rfl, Below.refl _ _⟩
          | 10, _ =>
            obtain ⟨e12, x12⟩ := Rv.ev (show a.tmps.getD 12 undef = .pointer (some ⟨w.heap.size, 1, none⟩) from hdep 9 rfl)
            exact Rv.step_op (op := Go.Op.load 22 (Go.Operand.tmp 12)) (v := .float .f64 y) (w1 := W) rfl rfl (fun d pos aft g => by unfold execOp; go_simp) ⟨_, rfl, rfl, Below.refl _ _⟩
          | 11, _ =>
            obtain ⟨e13, x13⟩ := Rv.ev (show a.tmps.getD 13 undef = .float .f64 y from hdep 10 rfl)
            have cf : ∀ x0 W, (callFunc 15 #[x0]).run Tryz.prog W = .ok (.enter 15 #[x0]) W := fun _ _ => by kernel_rfl
            refine Rv.step_fn (op := Go.Op.call { callee := Go.Callee.value (Go.Operand.func 15), args := #[Go.Operand.tmp 13], argTypes := #[22] }) (ty := 22) (f := 15) (args := #[.float .f64 y]) (R := fun v W' => (∃ z, v = .float .f64 z ∧ (FloatKind.f64.format.order y z == some .eq) = true) ∧ Below W.heap.size W W') rfl rfl (fun d pos aft g => by unfold execOp; go_simp) ((TY.out W).mono ?_) ?_
            · (rintro e W' ⟨z, rfl, hz, hb⟩; exact ⟨_, rfl, ⟨z, rfl, hz.trans H2.out⟩, hb⟩)
            · (rintro v W' ⟨hz, hb⟩; exact ⟨v, rfl, hz, hb⟩)
          | 12, _ =>
            obtain ⟨e11, x11⟩ := Rv.ev (show a.tmps.getD 11 undef = .float .f64 y from hdep 8 rfl)
            obtain ⟨z, ez, hz⟩ : ∃ z, a.tmps.getD 14 undef = .float .f64 z ∧ (FloatKind.f64.format.order y z == some .eq) = true := hdep 11 rfl
            obtain ⟨e14, x14⟩ := Rv.ev ez
            have hz2 := neq_of hz
            exact Rv.step_op (op := Go.Op.binOp Go.BinOp.neq 22 (Go.Operand.tmp 11) (Go.Operand.tmp 14) 22) (v := .bool false) (w1 := W) rfl rfl (fun d pos aft g => by unfold execOp; go_simp) ⟨_, rfl, rfl, Below.refl _ _⟩
          | 13, _ =>
            obtain ⟨e9, x9⟩ := Rv.ev (show a.tmps.getD 9 undef = .bool false from hdep 6 rfl)
            obtain ⟨e15, x15⟩ := Rv.ev (show a.tmps.getD 15 undef = .bool false from hdep 12 rfl)
            exact Rv.step_op (op := Go.Op.pick (Go.Operand.tmp 9) (Go.Operand.const (Go.Value.bool true)) (Go.Operand.tmp 15)) (v := .bool false) (w1 := W) rfl rfl (fun d pos aft g => by unfold execOp; go_simp) ⟨_, rfl, rfl, Below.refl _ _⟩
          | 14, _ =>
            obtain ⟨e16, x16⟩ := Rv.ev (show a.tmps.getD 16 undef = .bool false from hdep 13 rfl)
            exact Rv.step_op (op := Go.Op.move (Go.Operand.tmp 16)) (v := .bool false) (w1 := W) rfl rfl (fun d pos aft g => by unfold execOp; go_simp) ⟨_, rfl, rfl, Below.refl _ _⟩
          | 15, _ =>
            obtain ⟨e1, x1⟩ := Rv.ev (show a.tmps.getD 1 undef = .pointer (some ⟨w.heap.size, 0, none⟩) from hbase 1 rfl)
            exact Rv.step_op (op := Go.Op.indexAddr 24 (Go.Operand.tmp 1) (Go.Operand.const (Go.Value.int Go.IntKind.i64 0))) (v := .pointer (some ⟨w.heap.size, 0, none⟩)) (w1 := W) rfl rfl (fun d pos aft g => by unfold execOp; go_simp) ⟨_, rfl, rfl, Below.refl _ _⟩
          | 16, _ =>
            obtain ⟨e18, x18⟩ := Rv.ev (show a.tmps.getD 18 undef = .pointer (some ⟨w.heap.size, 0, none⟩) from hdep 15 rfl)
            exact Rv.step_op (op := Go.Op.load 22 (Go.Operand.tmp 18)) (v := .float .f64 x) (w1 := W) rfl rfl (fun d pos aft g => by unfold execOp; go_simp) ⟨_, rfl, rfl, Below.refl _ _⟩
          | 17, _ =>
            obtain ⟨e19, x19⟩ := Rv.ev (show a.tmps.getD 19 undef = .float .f64 x from hdep 16 rfl)
            have cf : ∀ x0 W, (callFunc 16 #[x0]).run Tryz.prog W = .ok (.enter 16 #[x0]) W := fun _ _ => by kernel_rfl
            refine Rv.step_fn (op := Go.Op.call { callee := Go.Callee.value (Go.Operand.func 16), args := #[Go.Operand.tmp 19], argTypes := #[22] }) (f := 16) (args := #[.float .f64 x]) (R := fun v W' => v = .float .f64 (x % 9223372036854775808) ∧ Below W.heap.size W W') rfl rfl (fun d pos aft g => by unfold execOp; go_simp) ((AX.out W).mono ?_) ?_
            · (rintro e W' ⟨rfl, hb⟩; exact ⟨_, rfl, rfl, hb⟩)
            · (rintro v W' ⟨rfl, hb⟩; exact ⟨_, rfl, rfl, hb⟩)
          | 18, _ =>
            obtain ⟨e20, x20⟩ := Rv.ev (show a.tmps.getD 20 undef = .float .f64 (x % 9223372036854775808) from hdep 17 rfl)
            have hg := gt_raw H3.out
            exact Rv.step_op (op := Go.Op.binOp Go.BinOp.gtr 22 (Go.Operand.tmp 20) (Go.Operand.const (Go.Value.float Go.FloatKind.f64 4652007308841189376)) 22) (v := .bool true) (w1 := W) rfl rfl (fun d pos aft g => by unfold execOp; go_simp) ⟨_, rfl, rfl, Below.refl _ _⟩
          | 19, _ =>
            obtain ⟨e17, x17⟩ := Rv.ev (show a.tmps.getD 17 undef = .bool false from hdep 14 rfl)
            obtain ⟨e21, x21⟩ := Rv.ev (show a.tmps.getD 21 undef = .bool true from hdep 18 rfl)
            exact Rv.step_op (op := Go.Op.pick (Go.Operand.tmp 17) (Go.Operand.const (Go.Value.bool true)) (Go.Operand.tmp 21)) (v := .bool true) (w1 := W) rfl rfl (fun d pos aft g => by unfold execOp; go_simp) ⟨_, rfl, rfl, Below.refl _ _⟩
          | 20, _ =>
            obtain ⟨e22, x22⟩ := Rv.ev (show a.tmps.getD 22 undef = .bool true from hdep 19 rfl)
            exact Rv.step_op (op := Go.Op.move (Go.Operand.tmp 22)) (v := .bool true) (w1 := W) rfl rfl (fun d pos aft g => by unfold execOp; go_simp) ⟨_, rfl, rfl, Below.refl _ _⟩
          | 21, _ => exact Bool.noConfusion (show false = true from hrun)
          | 22, _ => exact Bool.noConfusion (show false = true from hrun)
          | 23, _ => exact Bool.noConfusion (show false = true from hrun)
          | 24, _ => exact Bool.noConfusion (show false = true from hrun)
          | 25, _ =>
            obtain ⟨e23, x23⟩ := Rv.ev (show a.tmps.getD 23 undef = .bool true from hdep 20 rfl)
            obtain ⟨e27, x27⟩ := Rv.ev (show a.tmps.getD 27 undef = undef from hdep 24 rfl)
            exact Rv.step_op (op := Go.Op.pick (Go.Operand.tmp 23) (Go.Operand.const (Go.Value.bool true)) (Go.Operand.tmp 27)) (v := Go.Value.bool true) (w1 := W) rfl rfl (fun d pos aft g => by unfold execOp; go_simp) ⟨_, rfl, rfl, Below.refl _ _⟩
          | 26, _ =>
            obtain ⟨e28, x28⟩ := Rv.ev (show a.tmps.getD 28 undef = Go.Value.bool true from hdep 25 rfl)
            exact Rv.step_op (op := Go.Op.assign (Go.Operand.tmp 28)) (v := Go.Value.bool true) (w1 := W) rfl rfl (fun d pos aft g => by unfold execOp; go_simp) ⟨_, rfl, rfl, Below.refl _ _⟩
          | m + 27, h => exact absurd h (by show ¬ m + 27 < 27; omega)
        intro W f hf htr
        have f0 : f 0 = .pointer (some ⟨w.heap.size, 0, none⟩) := hf 0 (by show 0 < 27; omega)
        have f1 : f 1 = .float .f64 x := hf 1 (by show 1 < 27; omega)
        have f2 : f 2 = .pointer (some ⟨w.heap.size, 0, none⟩) := hf 2 (by show 2 < 27; omega)
        have f3 : f 3 = .float .f64 x := hf 3 (by show 3 < 27; omega)
        have f4 := hf 4 (by show 4 < 27; omega)
        have f5 : f 5 = .bool false := hf 5 (by show 5 < 27; omega)
        have f6 : f 6 = .bool false := hf 6 (by show 6 < 27; omega)
        have f7 : f 7 = .pointer (some ⟨w.heap.size, 1, none⟩) := hf 7 (by show 7 < 27; omega)
        have f8 : f 8 = .float .f64 y := hf 8 (by show 8 < 27; omega)
        have f9 : f 9 = .pointer (some ⟨w.heap.size, 1, none⟩) := hf 9 (by show 9 < 27; omega)
        have f10 : f 10 = .float .f64 y := hf 10 (by show 10 < 27; omega)
        have f11 := hf 11 (by show 11 < 27; omega)
        have f12 : f 12 = .bool false := hf 12 (by show 12 < 27; omega)
        have f13 : f 13 = .bool false := hf 13 (by show 13 < 27; omega)
        have f14 : f 14 = .bool false := hf 14 (by show 14 < 27; omega)
        have f15 : f 15 = .pointer (some ⟨w.heap.size, 0, none⟩) := hf 15 (by show 15 < 27; omega)
        have f16 : f 16 = .float .f64 x := hf 16 (by show 16 < 27; omega)
        have f17 : f 17 = .float .f64 (x % 9223372036854775808) := hf 17 (by show 17 < 27; omega)
        have f18 : f 18 = .bool true := hf 18 (by show 18 < 27; omega)
        have f19 : f 19 = .bool true := hf 19 (by show 19 < 27; omega)
        have f20 : f 20 = .bool true := hf 20 (by show 20 < 27; omega)
        have f21 : f 21 = undef := hf 21 (by show 21 < 27; omega)
        have f22 : f 22 = undef := hf 22 (by show 22 < 27; omega)
        have f23 : f 23 = undef := hf 23 (by show 23 < 27; omega)
        have f24 : f 24 = undef := hf 24 (by show 24 < 27; omega)
        have f25 : f 25 = Go.Value.bool true := hf 25 (by show 25 < 27; omega)
        have f26 : f 26 = Go.Value.bool true := hf 26 (by show 26 < 27; omega)
        refine (show ∀ (a : Act) (w : World), Code.wp _ _ _ a w → _ from by assumption) _ _ ?_
        refine Rv.fin_swap (L' := [(3, f 0), (4, f 1), (5, f 2), (6, f 3), (7, f 4), (8, f 5), (9, f 6), (10, f 7), (11, f 8), (12, f 9), (13, f 10), (14, f 11), (15, f 12), (16, f 13), (17, f 14), (18, f 15), (19, f 16), (20, f 17), (21, f 18), (22, f 19), (23, f 20), (24, f 21), (25, f 22), (26, f 23), (27, f 24), (28, f 25), (2, f 26)]) rfl ?_
        rw [f0, f1, f2, f3, f5, f6, f7, f8, f9, f10, f12, f13, f14, f15, f16, f17, f18, f19, f20, f21, f22, f23, f24, f25, f26]
        clear f0 f1 f2 f3 f5 f6 f7 f8 f9 f10 f12 f13 f14 f15 f16 f17 f18 f19 f20 f21 f22 f23 f24 f25 f26
        simp only [Rv.fin, List.foldl_cons, List.foldl_nil, Act.put, List.setIfInBounds_toArray, List.set_cons_succ, List.set_cons_zero]
        go_wp2
        go_ret
        exact ⟨rfl, HX.out.trans (htr.mono HX.out.size)⟩
end Go.Proofs.YtfelbaibbanllaaGreat.Ge

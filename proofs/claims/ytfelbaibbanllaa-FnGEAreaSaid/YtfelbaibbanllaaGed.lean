/- Lines of points: whether they are closed, whether they are rings; regions that draw their order. Conditions: those written at each lemma. -/
import Derived.Test.YtfelbaibbanllaaGec
import Derived.Test.YtfelbaibbanllaaRv
set_option linter.unusedVariables false
set_option linter.unusedSimpArgs false
set_option maxRecDepth 100000
set_option maxHeartbeats 4000000
namespace Go.Proofs.Ytfelbaibbanllaa.Ge
open Go.RowKit Go.Proofs.Ytfelbaibbanllaa.B
attribute [local go_sem] run_store_float
theorem closed_gen (A : Option Addr) (n c : Nat) (p q : Nat × Nat) (w : World) (h : ∀ W, Below w.heap.size w W → Calls Try.prog 63 #[lineV A n c] W fun e w' => e = .returned (gpV p) ∧ Below W.heap.size W w') (h2 : ∀ W, Below w.heap.size w W → Calls Try.prog 64 #[lineV A n c] W fun e w' => e = .returned (gpV q) ∧ Below W.heap.size W w') :
    Calls Try.prog 65 #[lineV A n c] w fun e w' => e = .returned (.bool (peq p q)) ∧ Below w.heap.size w w' := by
  have H1 := Lib.hid h
  have H2 := Lib.hid h2
  have HN := Lib.hid (heap_alloc_new w (.cells #[.int .u32 0, .slice A n c] 57))
  have HX := Lib.hid ((Below.refl w.heap.size w).alloc (Nat.le_refl _) (.cells #[.int .u32 0, .slice A n c] 57))
  have hs : w.heap.size < (w.alloc (.cells #[.int .u32 0, .slice A n c] 57)).heap.size := by simp
  clear h h2
  go_enter Try.func65, Try.ntmps65
  go_upto_region 1 with fail
  generalize (w.alloc (.cells #[.int .u32 0, .slice A n c] 57)) = X at *
  refine Rv.region_goods (n := 8) (by kernel_rfl) #[3, 4, 5, 6, 7, 2] #[] (fun i v W => v = (#[lineV A n c, gpV p, lineV A n c, gpV q, .bool (peq p q), .bool (peq p q)] : Array Value).getD i undef) (fun i v w w' h hb => ?_) (fun i h g b hg => ?_) rfl (by kernel_rfl) (by kernel_rfl) (fun i h hr w => ?_) ?_ ?_
  · exact h
  · match i, h, hg with
    | 0, _, hg => cases hg
    | 1, _, hg => cases hg
    | 2, _, hg => cases hg
    | 3, _, hg => cases hg
    | 4, _, hg => cases hg
    | 5, _, hg => cases hg
    | m + 6, h, _ => exact absurd h (by show ¬ m + 6 < 6; omega)
  · match i, h, hr with
    | 0, _, hr => exact Bool.noConfusion (show true = false from hr)
    | 1, _, hr => exact Bool.noConfusion (show true = false from hr)
    | 2, _, hr => exact Bool.noConfusion (show true = false from hr)
    | 3, _, hr => exact Bool.noConfusion (show true = false from hr)
    | 4, _, hr => exact Bool.noConfusion (show true = false from hr)
    | 5, _, hr => exact Bool.noConfusion (show true = false from hr)
    | m + 6, h, _ => exact absurd h (by show ¬ m + 6 < 6; omega)
  · intro i h a W hrun hbase hpre hdep htr
    obtain ⟨c0, c1, _, _⟩ := cells_two ((htr.block _ hs).trans HN.out)
    have hw := HX.out.trans (htr.mono HX.out.size)
    match i, h with
    | 0, _ =>
      obtain ⟨e1, x1⟩ := Rv.ev (show a.tmps.getD 1 undef = .pointer (some ⟨w.heap.size, 0, none⟩) from hbase 1 rfl)
      exact Rv.step_op (op := Go.Op.load 57 (Go.Operand.tmp 1)) (v := lineV A n c) (w1 := W) rfl rfl (fun d pos aft g => by unfold execOp; go_simp) ⟨_, rfl, rfl, Below.refl _ _⟩
    | 1, _ =>
      obtain ⟨e3, x3⟩ := Rv.ev (show a.tmps.getD 3 undef = lineV A n c from hdep 0 rfl)
      have cf : ∀ x0 W, (callFunc 63 #[x0]).run Try.prog W = .ok (.enter 63 #[x0]) W := fun _ _ => by kernel_rfl
      refine Rv.step_fn (op := Go.Op.call { callee := Go.Callee.value (Go.Operand.func 63), args := #[Go.Operand.tmp 3], argTypes := #[57] }) (f := 63) (args := #[lineV A n c]) (R := fun v W' => v = gpV p ∧ Below W.heap.size W W') rfl rfl (fun d pos aft g => by unfold execOp; go_simp) ((H1.out W hw).mono ?_) ?_
      · (rintro e W' ⟨rfl, hb⟩; exact ⟨_, rfl, rfl, hb⟩)
      · (rintro v W' ⟨rfl, hb⟩; exact ⟨_, rfl, rfl, hb⟩)
    | 2, _ =>
      obtain ⟨e1, x1⟩ := Rv.ev (show a.tmps.getD 1 undef = .pointer (some ⟨w.heap.size, 0, none⟩) from hbase 1 rfl)
      exact Rv.step_op (op := Go.Op.load 57 (Go.Operand.tmp 1)) (v := lineV A n c) (w1 := W) rfl rfl (fun d pos aft g => by unfold execOp; go_simp) ⟨_, rfl, rfl, Below.refl _ _⟩
    | 3, _ =>
      obtain ⟨e5, x5⟩ := Rv.ev (show a.tmps.getD 5 undef = lineV A n c from hdep 2 rfl)
      have cf : ∀ x0 W, (callFunc 64 #[x0]).run Try.prog W = .ok (.enter 64 #[x0]) W := fun _ _ => by kernel_rfl
      refine Rv.step_fn (op := Go.Op.call { callee := Go.Callee.value (Go.Operand.func 64), args := #[Go.Operand.tmp 5], argTypes := #[57] }) (f := 64) (args := #[lineV A n c]) (R := fun v W' => v = gpV q ∧ Below W.heap.size W W') rfl rfl (fun d pos aft g => by unfold execOp; go_simp) ((H2.out W hw).mono ?_) ?_
      · (rintro e W' ⟨rfl, hb⟩; exact ⟨_, rfl, rfl, hb⟩)
      · (rintro v W' ⟨rfl, hb⟩; exact ⟨_, rfl, rfl, hb⟩)
    | 4, _ =>
      obtain ⟨e4, x4⟩ := Rv.ev (show a.tmps.getD 4 undef = gpV p from hdep 1 rfl)
      obtain ⟨e6, x6⟩ := Rv.ev (show a.tmps.getD 6 undef = gpV q from hdep 3 rfl)
      have cf : ∀ x0 x1 W, (callFunc 88 #[x0, x1]).run Try.prog W = .ok (.enter 88 #[x0, x1]) W := fun _ _ _ => by kernel_rfl
      refine Rv.step_fn (op := Go.Op.call { callee := Go.Callee.value (Go.Operand.func 88), args := #[Go.Operand.tmp 4, Go.Operand.tmp 6], argTypes := #[61, 61] }) (f := 88) (args := #[gpV p, gpV q]) (R := fun v W' => v = .bool (peq p q) ∧ Below W.heap.size W W') rfl rfl (fun d pos aft g => by unfold execOp; go_simp) ((ptEq_any p q W).mono ?_) ?_
      · (rintro e W' ⟨rfl, hb⟩; exact ⟨_, rfl, rfl, hb⟩)
      · (rintro v W' ⟨rfl, hb⟩; exact ⟨_, rfl, rfl, hb⟩)
    | 5, _ =>
      obtain ⟨e7, x7⟩ := Rv.ev (show a.tmps.getD 7 undef = .bool (peq p q) from hdep 4 rfl)
      exact Rv.step_op (op := Go.Op.assign (Go.Operand.tmp 7)) (v := .bool (peq p q)) (w1 := W) rfl rfl (fun d pos aft g => by unfold execOp; go_simp) ⟨_, rfl, rfl, Below.refl _ _⟩
    | m + 6, h => exact absurd h (by show ¬ m + 6 < 6; omega)
  intro W f hf htr
  have f0 : f 0 = lineV A n c := hf 0 (by show 0 < 6; omega)
  have f1 : f 1 = gpV p := hf 1 (by show 1 < 6; omega)
  have f2 : f 2 = lineV A n c := hf 2 (by show 2 < 6; omega)
  have f3 : f 3 = gpV q := hf 3 (by show 3 < 6; omega)
  have f4 : f 4 = .bool (peq p q) := hf 4 (by show 4 < 6; omega)
  have f5 : f 5 = .bool (peq p q) := hf 5 (by show 5 < 6; omega)
  refine (show ∀ (a : Act) (w : World), Code.wp _ _ _ a w → _ from by assumption) _ _ ?_
  refine Rv.fin_swap (L' := [(3, f 0), (4, f 1), (5, f 2), (6, f 3), (7, f 4), (2, f 5)]) rfl ?_
  rw [f0, f1, f2, f3, f4, f5]
  clear f0 f1 f2 f3 f4 f5
  simp only [Rv.fin, List.foldl_cons, List.foldl_nil, Act.put, List.setIfInBounds_toArray, List.set_cons_succ, List.set_cons_zero]
  go_wp2
  go_ret
  exact ⟨rfl, HX.out.trans (htr.mono HX.out.size)⟩
end Go.Proofs.Ytfelbaibbanllaa.Ge

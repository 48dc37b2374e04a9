/- RGOverlaps and RGIntersect, as the thin package has them. Conditions: those written at each lemma. -/
import Derived.Test.YtfnogpelaoofbaaDoorOvl
import Derived.Test.YtfnogpelaoofbaaDoorLaw
import Derived.Test.YtfnogpelaoofbaaDoorMix
import Derived.Test.YtfnogpelaoofbaaDoorRw
import Derived.Deep.Cut
import Derived.Deep.Onto
import Derived.Handy
import Derived.Laws.Rows
set_option linter.unusedVariables false
set_option linter.unusedSimpArgs false
set_option maxRecDepth 100000
set_option maxHeartbeats 4000000
namespace Go.Proofs.YtfnogpelaoofbaaDoor.Rg
open Go.RowKit Go.Proofs.YtfnogpelaoofbaaDoor.B Go.Proofs.YtfnogpelaoofbaaDoor.Sp

theorem heap_old {w : World} {o : Obj} {k : Nat} {x : Obj} (h : w.heap[k]? = some x) : (w.alloc o).heap[k]? = some x := (((Below.refl _ _).alloc (Nat.le_refl _) o : Below w.heap.size w (w.alloc o)).block k (Rv.lt_of_blk h)).trans h
theorem four_blocks (w : World) (x y z u : Obj) : ((((w.alloc x).alloc y).alloc z).alloc u).heap[w.heap.size]? = some x ∧ ((((w.alloc x).alloc y).alloc z).alloc u).heap[w.heap.size + 1]? = some y ∧ ((((w.alloc x).alloc y).alloc z).alloc u).heap[w.heap.size + 1 + 1]? = some z ∧ ((((w.alloc x).alloc y).alloc z).alloc u).heap[w.heap.size + 1 + 1 + 1]? = some u ∧ ((((w.alloc x).alloc y).alloc z).alloc u).heap.size = w.heap.size + 1 + 1 + 1 + 1 := by
  have e1 : (w.alloc x).heap.size = w.heap.size + 1 := by simp
  have e2 : ((w.alloc x).alloc y).heap.size = w.heap.size + 1 + 1 := by simp
  have e3 : (((w.alloc x).alloc y).alloc z).heap.size = w.heap.size + 1 + 1 + 1 := by simp
  refine ⟨heap_old (heap_old (heap_old (heap_alloc_new _ _))), heap_old (heap_old ?_), heap_old ?_, ?_, by simp⟩
  · rw [← e1]; exact heap_alloc_new _ _
  · rw [← e2]; exact heap_alloc_new _ _
  · rw [← e3]; exact heap_alloc_new _ _

theorem rgov {ka xa kb xb ma ya mb yb z1 z2 z3 z4 : Int} {va vb : Value} {tl tu : TypeId} {li ui : Value} {yes : Bool} (w : World)
    (E1 : ∀ W, Calls Tryd.prog 34 #[coV ka xa kb xb] W fun e w' => e = .returned va ∧ Below W.heap.size W w')
    (E2 : ∀ W, Calls Tryd.prog 34 #[coV ma ya mb yb] W fun e w' => e = .returned vb ∧ Below W.heap.size W w')
    (O : ∀ W, Calls Tryd.prog 52 #[va, vb] W fun e w' => e = .returned (.tuple #[exI tl li tu ui, .bool yes, .nilIface]) ∧ Below W.heap.size W w')
    (Co : ∀ W, Calls Tryd.prog 36 #[exI tl li tu ui] W fun e w' => e = .returned (coV z1 z2 z3 z4) ∧ Below W.heap.size W w') :
    Calls Tryd.prog 19 #[coV ka xa kb xb, coV ma ya mb yb] w fun e w' => e = .returned (.tuple #[coV z1 z2 z3 z4, .bool yes, .bool true]) ∧ Below w.heap.size w w' := by
  have HB4 := Lib.hid (four_blocks w (Sp.coC ka xa kb xb) (Sp.coC ma ya mb yb) zeC fbC)
  have HX : Hid (Below w.heap.size w ((((w.alloc (Sp.coC ka xa kb xb)).alloc (Sp.coC ma ya mb yb)).alloc zeC).alloc fbC)) := Lib.hid (by go_grown)
  have E1 := Lib.hid E1
  have E2 := Lib.hid E2
  have O := Lib.hid O
  have Co := Lib.hid Co
  go_enter_defers Tryd.func19, Tryd.ntmps19
  go_upto_region 2 with fail
  generalize ((((w.alloc (Sp.coC ka xa kb xb)).alloc (Sp.coC ma ya mb yb)).alloc zeC).alloc fbC) = X at *
  have hsz := HB4.out.2.2.2.2
  refine wp_region_noPanic ?_
  refine Rv.region_fin (n := 24) (by kernel_rfl) #[10, 11, 12, 13, 14, 9, 15, 16, 17, 7, 1010, 5, 8] #[] (fun i f W => if i = 10 then (fun f W => ∃ g, f 9 = .pointer (some ⟨g, 0, none⟩) ∧ W.heap[g]? = some (.cells #[.iface tl li, .iface tu ui, tv] 64 (0, 0))) f W else if i = 9 then (fun f W => ∃ g, f 9 = .pointer (some ⟨g, 0, none⟩) ∧ W.heap[g]? = some (.cells #[.nilIface, .nilIface, .nilIface] 64 (0, 0))) f W else f i = (#[coV ka xa kb xb, va, coV ma ya mb yb, vb, .tuple #[exI tl li tu ui, .bool yes, .nilIface], .tuple #[exI tl li tu ui, .bool yes, .nilIface], exI tl li tu ui, .bool yes, .nilIface, undef, undef, .bool yes, .nilIface] : Array Value).getD i undef) (fun i j => (i == 10 && (j == 9))) (fun i => i == 10) (fun i f W W' => if i = 10 then (fun f W W' => ∃ g, f 9 = .pointer (some ⟨g, 0, none⟩) ∧ Rv.But g W W') f W W' else True) (fun W => Below X.heap.size X W) (fun _ => True) (Rv.One 9 X.heap.size) (Rv.One.loc (by show 9 < 13; omega)) (fun i f f' w hi h hd hg => ?_) (fun i j f w w' hi hj hij hK hdp h hr => ?_) (fun i h g b hg => ?_) rfl (by kernel_rfl) (fun i h g b hg => ?_) ((Below.refl _ _).drew) (trivial) (fun f => Rv.One.start) (fun i h hr f w hf => ?_) (fun i h hr => absurd hr (Rv.allrun (by kernel_rfl) i h)) ?_ ?_
  · by_cases hi1010 : i = 10
    · subst hi1010
      rw [if_pos rfl] at hg ⊢
      obtain ⟨g, q1, q2⟩ := hg
      exact ⟨g, (hd 9 rfl).symm.trans q1, q2⟩
    rw [if_neg hi1010] at hg ⊢
    by_cases hi7 : i = 9
    · subst hi7
      rw [if_pos rfl] at hg ⊢
      obtain ⟨g, q1, q2⟩ := hg
      exact ⟨g, h.symm.trans q1, q2⟩
    rw [if_neg hi7] at hg ⊢
    rw [← h]; exact hg
  · by_cases hj1010 : j = 10
    · subst hj1010
      rw [if_pos rfl] at h ⊢
      rcases hr with ⟨hK1, hr⟩ | hr
      · exfalso
        exact hij (by simpa using hK1)
      · obtain ⟨g, e, hb⟩ := h
        exact ⟨g, e, (hr.block _ (Rv.lt_of_blk hb)).trans hb⟩
    rw [if_neg hj1010] at h ⊢
    by_cases hj7 : j = 9
    · subst hj7
      rw [if_pos rfl] at h ⊢
      rcases hr with ⟨hK1, hr⟩ | hr
      · exfalso
        have e : i = 10 := by simpa using hK1
        subst e
        revert hK
        decide
      · obtain ⟨g, e, hb⟩ := h
        exact ⟨g, e, (hr.block _ (Rv.lt_of_blk hb)).trans hb⟩
    rw [if_neg hj7] at h ⊢
    exact h
  · match i, h, hg with
    | 0, _, hg => cases hg
    | 1, _, hg => cases hg
    | 2, _, hg => cases hg
    | 3, _, hg => cases hg
    | 4, _, hg => cases hg
    | 5, _, hg => cases hg
    | 6, _, hg => cases hg
    | 7, _, hg => cases hg
    | 8, _, hg => cases hg
    | 9, _, hg => cases hg
    | 10, _, hg => cases hg
    | 11, _, hg => cases hg
    | 12, _, hg => cases hg
    | m + 13, h, _ => exact absurd h (by show ¬ m + 13 < 13; omega)
  · match i, h, hg with
    | 0, _, hg => cases hg
    | 1, _, hg => cases hg
    | 2, _, hg => cases hg
    | 3, _, hg => cases hg
    | 4, _, hg => cases hg
    | 5, _, hg => cases hg
    | 6, _, hg => cases hg
    | 7, _, hg => cases hg
    | 8, _, hg => cases hg
    | 9, _, hg => cases hg
    | 10, _, hg => cases hg
    | 11, _, hg => cases hg
    | 12, _, hg => cases hg
    | m + 13, h, _ => exact absurd h (by show ¬ m + 13 < 13; omega)
  · match i, h, hr, hf with
    | 0, _, hr, _ => exact Bool.noConfusion (show true = false from hr)
    | 1, _, hr, _ => exact Bool.noConfusion (show true = false from hr)
    | 2, _, hr, _ => exact Bool.noConfusion (show true = false from hr)
    | 3, _, hr, _ => exact Bool.noConfusion (show true = false from hr)
    | 4, _, hr, _ => exact Bool.noConfusion (show true = false from hr)
    | 5, _, hr, _ => exact Bool.noConfusion (show true = false from hr)
    | 6, _, hr, _ => exact Bool.noConfusion (show true = false from hr)
    | 7, _, hr, _ => exact Bool.noConfusion (show true = false from hr)
    | 8, _, hr, _ => exact Bool.noConfusion (show true = false from hr)
    | 9, _, hr, _ => exact Bool.noConfusion (show true = false from hr)
    | 10, _, hr, _ => exact Bool.noConfusion (show true = false from hr)
    | 11, _, hr, _ => exact Bool.noConfusion (show true = false from hr)
    | 12, _, hr, _ => exact Bool.noConfusion (show true = false from hr)
    | m + 13, h, _, _ => exact absurd h (by show ¬ m + 13 < 13; omega)
  · intro i h a W hrun hbase hpre hdep htr hta hJ
    obtain ⟨n0, n1, n2, n3⟩ := Rv.cells4 ((htr.block _ (by omega)).trans HB4.out.1)
    obtain ⟨r0, r1, r2, r3⟩ := Rv.cells4 ((htr.block _ (by omega)).trans HB4.out.2.1)
    match i, h with
    | 0, _ =>
      obtain ⟨e2, x2⟩ := Rv.ev (show a.tmps.getD 2 undef = .pointer (some ⟨w.heap.size, 0, none⟩) from hbase 2 rfl)
      exact Rv.step_op (op := Go.Op.load 27 (Go.Operand.tmp 2)) (v := coV ka xa kb xb) (w1 := W) rfl rfl (fun d pos aft g => by unfold execOp; go_simp) ⟨_, rfl, rfl, .inr (Below.refl _ _), htr, fun _ ht => ht, fun L _ hJ => Rv.One.keep (by decide) _ (Nat.le_refl _) hJ⟩
    | 1, _ =>
      obtain ⟨e10, x10⟩ := Rv.ev (show a.tmps.getD 10 undef = coV ka xa kb xb from hdep 0 rfl rfl)
      have cf : ∀ x0 W, (callFunc 34 #[x0]).run Tryd.prog W = .ok (.enter 34 #[x0]) W := fun _ _ => by kernel_rfl
      refine Rv.step_fn (op := Go.Op.call { callee := Go.Callee.value (Go.Operand.func 34), args := #[Go.Operand.tmp 10], argTypes := #[27] }) (f := 34) (args := #[coV ka xa kb xb]) (R := fun v W' => v = va ∧ Below W.heap.size W W') rfl rfl (fun d pos aft g => by unfold execOp; go_simp) ((E1.out W).mono ?_) ?_
      · (rintro e W' ⟨rfl, hb⟩; exact ⟨_, rfl, rfl, hb⟩)
      · (rintro v W' ⟨rfl, hb⟩; exact ⟨_, rfl, rfl, .inr hb, (fun W W' ht hb => ht.trans (hb.mono ht.size)) W W' htr hb, fun _ ht => (fun _ _ _ _ => trivial) W W' ht hb, fun L _ hJ => Rv.One.keep (by decide) _ (hb.size) hJ⟩)
    | 2, _ =>
      obtain ⟨e3, x3⟩ := Rv.ev (show a.tmps.getD 3 undef = .pointer (some ⟨w.heap.size + 1, 0, none⟩) from hbase 3 rfl)
      exact Rv.step_op (op := Go.Op.load 27 (Go.Operand.tmp 3)) (v := coV ma ya mb yb) (w1 := W) rfl rfl (fun d pos aft g => by unfold execOp; go_simp) ⟨_, rfl, rfl, .inr (Below.refl _ _), htr, fun _ ht => ht, fun L _ hJ => Rv.One.keep (by decide) _ (Nat.le_refl _) hJ⟩
    | 3, _ =>
      obtain ⟨e12, x12⟩ := Rv.ev (show a.tmps.getD 12 undef = coV ma ya mb yb from hdep 2 rfl rfl)
      have cf : ∀ x0 W, (callFunc 34 #[x0]).run Tryd.prog W = .ok (.enter 34 #[x0]) W := fun _ _ => by kernel_rfl
      refine Rv.step_fn (op := Go.Op.call { callee := Go.Callee.value (Go.Operand.func 34), args := #[Go.Operand.tmp 12], argTypes := #[27] }) (f := 34) (args := #[coV ma ya mb yb]) (R := fun v W' => v = vb ∧ Below W.heap.size W W') rfl rfl (fun d pos aft g => by unfold execOp; go_simp) ((E2.out W).mono ?_) ?_
      · (rintro e W' ⟨rfl, hb⟩; exact ⟨_, rfl, rfl, hb⟩)
      · (rintro v W' ⟨rfl, hb⟩; exact ⟨_, rfl, rfl, .inr hb, (fun W W' ht hb => ht.trans (hb.mono ht.size)) W W' htr hb, fun _ ht => (fun _ _ _ _ => trivial) W W' ht hb, fun L _ hJ => Rv.One.keep (by decide) _ (hb.size) hJ⟩)
    | 4, _ =>
      obtain ⟨e11, x11⟩ := Rv.ev (show a.tmps.getD 11 undef = va from hdep 1 rfl rfl)
      obtain ⟨e13, x13⟩ := Rv.ev (show a.tmps.getD 13 undef = vb from hdep 3 rfl rfl)
      have cf : ∀ x0 x1 W, (callFunc 52 #[x0, x1]).run Tryd.prog W = .ok (.enter 52 #[x0, x1]) W := fun _ _ _ => by kernel_rfl
      refine Rv.step_fn (op := Go.Op.call { callee := Go.Callee.value (Go.Operand.func 52), args := #[Go.Operand.tmp 11, Go.Operand.tmp 13], argTypes := #[64, 64] }) (f := 52) (args := #[va, vb]) (R := fun v W' => v = .tuple #[exI tl li tu ui, .bool yes, .nilIface] ∧ Below W.heap.size W W') rfl rfl (fun d pos aft g => by unfold execOp; go_simp) ((O.out W).mono ?_) ?_
      · (rintro e W' ⟨rfl, hb⟩; exact ⟨_, rfl, rfl, hb⟩)
      · (rintro v W' ⟨rfl, hb⟩; exact ⟨_, rfl, rfl, .inr hb, (fun W W' ht hb => ht.trans (hb.mono ht.size)) W W' htr hb, fun _ ht => (fun _ _ _ _ => trivial) W W' ht hb, fun L _ hJ => Rv.One.keep (by decide) _ (hb.size) hJ⟩)
    | 5, _ =>
      obtain ⟨e14, x14⟩ := Rv.ev (show a.tmps.getD 14 undef = .tuple #[exI tl li tu ui, .bool yes, .nilIface] from hdep 4 rfl rfl)
      exact Rv.step_op (op := Go.Op.move (Go.Operand.tmp 14)) (v := .tuple #[exI tl li tu ui, .bool yes, .nilIface]) (w1 := W) rfl rfl (fun d pos aft g => by unfold execOp; go_simp) ⟨_, rfl, rfl, .inr (Below.refl _ _), htr, fun _ ht => ht, fun L _ hJ => Rv.One.keep (by decide) _ (Nat.le_refl _) hJ⟩
    | 6, _ =>
      obtain ⟨e9, x9⟩ := Rv.ev (show a.tmps.getD 9 undef = .tuple #[exI tl li tu ui, .bool yes, .nilIface] from hdep 5 rfl rfl)
      exact Rv.step_op (op := Go.Op.extract (Go.Operand.tmp 9) 0) (v := exI tl li tu ui) (w1 := W) rfl rfl (fun d pos aft g => by unfold execOp; go_simp) ⟨_, rfl, rfl, .inr (Below.refl _ _), htr, fun _ ht => ht, fun L _ hJ => Rv.One.keep (by decide) _ (Nat.le_refl _) hJ⟩
    | 7, _ =>
      obtain ⟨e9, x9⟩ := Rv.ev (show a.tmps.getD 9 undef = .tuple #[exI tl li tu ui, .bool yes, .nilIface] from hdep 5 rfl rfl)
      exact Rv.step_op (op := Go.Op.extract (Go.Operand.tmp 9) 1) (v := .bool yes) (w1 := W) rfl rfl (fun d pos aft g => by unfold execOp; go_simp) ⟨_, rfl, rfl, .inr (Below.refl _ _), htr, fun _ ht => ht, fun L _ hJ => Rv.One.keep (by decide) _ (Nat.le_refl _) hJ⟩
    | 8, _ =>
      obtain ⟨e9, x9⟩ := Rv.ev (show a.tmps.getD 9 undef = .tuple #[exI tl li tu ui, .bool yes, .nilIface] from hdep 5 rfl rfl)
      exact Rv.step_op (op := Go.Op.extract (Go.Operand.tmp 9) 2) (v := .nilIface) (w1 := W) rfl rfl (fun d pos aft g => by unfold execOp; go_simp) ⟨_, rfl, rfl, .inr (Below.refl _ _), htr, fun _ ht => ht, fun L _ hJ => Rv.One.keep (by decide) _ (Nat.le_refl _) hJ⟩
    | 9, _ =>
      have hal : Below W.heap.size W (W.alloc (.cells #[.nilIface, .nilIface, .nilIface] 64)) := (Below.refl _ _).alloc (Nat.le_refl _) _
      exact Rv.step_op (op := Go.Op.alloc 64) (ty := 0) (v := .pointer (some ⟨W.heap.size, 0, none⟩)) (w1 := W.alloc (.cells #[.nilIface, .nilIface, .nilIface] 64)) rfl rfl (fun d pos aft g => by unfold execOp; go_simp) ⟨_, rfl, ⟨W.heap.size, rfl, heap_alloc_new W _⟩, .inr hal, htr.trans (hal.mono htr.size), fun _ ht => ht, fun L _ hJ => Rv.One.new htr.size (by simp) hJ⟩
    | 10, _ =>
      obtain ⟨g7, e7', h7⟩ : ∃ g, a.tmps.getD 7 undef = .pointer (some ⟨g, 0, none⟩) ∧ W.heap[g]? = some (.cells #[.nilIface, .nilIface, .nilIface] 64 (0, 0)) := hdep 9 rfl rfl
      obtain ⟨e7, x7⟩ := Rv.ev e7'
      obtain ⟨e15, x15⟩ := Rv.ev (show a.tmps.getD 15 undef = exI tl li tu ui from hdep 6 rfl rfl)
      obtain ⟨L, _, hL, hJ2⟩ := hJ
      have hge : X.heap.size ≤ g7 := by
        obtain ⟨g, eg, hge, _⟩ := hJ2 (hL 9 rfl)
        have eg2 : Value.pointer (some ⟨g, 0, none⟩) = .pointer (some ⟨g7, 0, none⟩) := eg.symm.trans e7'
        injection eg2 with eg2
        injection eg2 with eg2
        injection eg2 with eg2
        omega
      obtain ⟨k0, k1, k2⟩ := Rv.cells3 h7
      obtain ⟨m0, m1, m2⟩ := Rv.frozen3 h7
      exact Rv.step_skip (op := Go.Op.store 64 (Go.Operand.tmp 7) (Go.Operand.tmp 15)) (ty := 0) (w1 := (((W.setCell ⟨g7, 0, none⟩ (.iface tl li)).setCell ⟨g7, 1, none⟩ (.iface tu ui)).setCell ⟨g7, 2, none⟩ (tv))) rfl rfl (fun d pos aft g => by unfold execOp; go_simp) ⟨undef, rfl, ⟨g7, e7', Rv.sets3 h7 _ _ _⟩, .inl ⟨rfl, g7, e7', Rv.buts3 g7 W _ _ _⟩, Rv.belows3 htr hge _ _ _, (fun h _ => by cases h), fun L _ hJ => Rv.One.keep (by decide) _ ((Rv.buts3 g7 W _ _ _).1) hJ⟩
    | 11, _ =>
      obtain ⟨e16, x16⟩ := Rv.ev (show a.tmps.getD 16 undef = .bool yes from hdep 7 rfl rfl)
      exact Rv.step_op (op := Go.Op.assign (Go.Operand.tmp 16)) (v := .bool yes) (w1 := W) rfl rfl (fun d pos aft g => by unfold execOp; go_simp) ⟨_, rfl, rfl, .inr (Below.refl _ _), htr, fun _ ht => ht, fun L _ hJ => Rv.One.keep (by decide) _ (Nat.le_refl _) hJ⟩
    | 12, _ =>
      obtain ⟨e17, x17⟩ := Rv.ev (show a.tmps.getD 17 undef = .nilIface from hdep 8 rfl rfl)
      exact Rv.step_op (op := Go.Op.assign (Go.Operand.tmp 17)) (v := .nilIface) (w1 := W) rfl rfl (fun d pos aft g => by unfold execOp; go_simp) ⟨_, rfl, rfl, .inr (Below.refl _ _), htr, fun _ ht => ht, fun L _ hJ => Rv.One.keep (by decide) _ (Nat.le_refl _) hJ⟩
    | m + 13, h => exact absurd h (by show ¬ m + 13 < 13; omega)
  intro W f hf htr hJ
  have f0 : f 0 = coV ka xa kb xb := hf 0 (by show 0 < 13; omega) rfl
  have f1 : f 1 = va := hf 1 (by show 1 < 13; omega) rfl
  have f2 : f 2 = coV ma ya mb yb := hf 2 (by show 2 < 13; omega) rfl
  have f3 : f 3 = vb := hf 3 (by show 3 < 13; omega) rfl
  have f4 : f 4 = .tuple #[exI tl li tu ui, .bool yes, .nilIface] := hf 4 (by show 4 < 13; omega) rfl
  have f5 : f 5 = .tuple #[exI tl li tu ui, .bool yes, .nilIface] := hf 5 (by show 5 < 13; omega) rfl
  have f6 : f 6 = exI tl li tu ui := hf 6 (by show 6 < 13; omega) rfl
  have f7 : f 7 = .bool yes := hf 7 (by show 7 < 13; omega) rfl
  have f8 : f 8 = .nilIface := hf 8 (by show 8 < 13; omega) rfl
  have HS10 := Lib.hid (show (fun f W => ∃ g, f 9 = .pointer (some ⟨g, 0, none⟩) ∧ W.heap[g]? = some (.cells #[.iface tl li, .iface tu ui, tv] 64 (0, 0))) f W from hf 10 (by show 10 < 13; omega) rfl)
  have f11 : f 11 = .bool yes := hf 11 (by show 11 < 13; omega) rfl
  have f12 : f 12 = .nilIface := hf 12 (by show 12 < 13; omega) rfl
  clear hf
  refine (show ∀ (a : Act) (w : World), Code.wp _ _ _ a w → _ from by assumption) _ _ ?_
  refine Rv.fin_swap (L' := [(10, f 0), (11, f 1), (12, f 2), (13, f 3), (14, f 4), (9, f 5), (15, f 6), (16, f 7), (17, f 8), (7, f 9), (1010, f 10), (5, f 11), (8, f 12)]) rfl ?_
  rw [f0, f1, f2, f3, f4, f5, f6, f7, f8, f11, f12]
  clear f0 f1 f2 f3 f4 f5 f6 f7 f8 f11 f12
  simp only [Rv.fin, List.foldl_cons, List.foldl_nil, Act.put, List.setIfInBounds_toArray, List.set_cons_succ, List.set_cons_zero, List.set_nil]
  obtain ⟨g, e9, hg9⟩ := HS10.out
  rw [e9]
  clear e9 HS10 hJ
  have HXW := Lib.hid (HX.out.trans (htr.mono (by omega)))
  have HZ := Lib.hid ((htr.block _ (by omega)).trans HB4.out.2.2.1)
  have HK := Lib.hid ((htr.block _ (by omega)).trans HB4.out.2.2.2.1)
  obtain ⟨c0, c1, c2⟩ := Rv.cells3 hg9
  have hgs := Rv.lt_of_blk hg9
  go_wp2_with (go_at_call 36; (with_reducible refine (Co.out _).mono ?_); rintro e w3 ⟨rfl, hb⟩; have HXW3 := Lib.hid (HXW.out.trans (hb.mono HXW.out.size)); obtain ⟨s0, s1, s2, s3⟩ := Rv.cells4 ((hb.block _ (Rv.lt_of_blk HZ.out)).trans HZ.out); obtain ⟨t0, t1, t2, t3⟩ := Rv.frozen4 ((hb.block _ (Rv.lt_of_blk HZ.out)).trans HZ.out); have s4 := Rv.cells1 ((hb.block _ (Rv.lt_of_blk HK.out)).trans HK.out); have t4 := Rv.frozen1 ((hb.block _ (Rv.lt_of_blk HK.out)).trans HK.out); clear hb)
  refine leaves_cons (f := 48) (args := #[.pointer (some ⟨w.heap.size + 1 + 1 + 1, 0, none⟩)]) (by simp) (by simp [go_sem]) ?_
  refine (caught_idle ⟨w.heap.size + 1 + 1 + 1, 0, none⟩ _).mono ?_
  rintro e u' w'' ⟨rfl, rfl, rfl⟩
  have q0 : (((((w3.setCell ⟨w.heap.size + 1 + 1, 0, none⟩ (.int .i64 z1)).setCell ⟨w.heap.size + 1 + 1, 1, none⟩ (.int .i64 z2)).setCell ⟨w.heap.size + 1 + 1, 2, none⟩ (.int .i64 z3)).setCell ⟨w.heap.size + 1 + 1, 3, none⟩ (.int .i64 z4)).setCell ⟨w.heap.size + 1 + 1 + 1, 0, none⟩ (.bool true)).cell? ⟨w.heap.size + 1 + 1, 0, none⟩ = some (.int .i64 z1) := by go_simp
  have q1 : (((((w3.setCell ⟨w.heap.size + 1 + 1, 0, none⟩ (.int .i64 z1)).setCell ⟨w.heap.size + 1 + 1, 1, none⟩ (.int .i64 z2)).setCell ⟨w.heap.size + 1 + 1, 2, none⟩ (.int .i64 z3)).setCell ⟨w.heap.size + 1 + 1, 3, none⟩ (.int .i64 z4)).setCell ⟨w.heap.size + 1 + 1 + 1, 0, none⟩ (.bool true)).cell? ⟨w.heap.size + 1 + 1, 1, none⟩ = some (.int .i64 z2) := by go_simp
  have q2 : (((((w3.setCell ⟨w.heap.size + 1 + 1, 0, none⟩ (.int .i64 z1)).setCell ⟨w.heap.size + 1 + 1, 1, none⟩ (.int .i64 z2)).setCell ⟨w.heap.size + 1 + 1, 2, none⟩ (.int .i64 z3)).setCell ⟨w.heap.size + 1 + 1, 3, none⟩ (.int .i64 z4)).setCell ⟨w.heap.size + 1 + 1 + 1, 0, none⟩ (.bool true)).cell? ⟨w.heap.size + 1 + 1, 2, none⟩ = some (.int .i64 z3) := by go_simp
  have q3 : (((((w3.setCell ⟨w.heap.size + 1 + 1, 0, none⟩ (.int .i64 z1)).setCell ⟨w.heap.size + 1 + 1, 1, none⟩ (.int .i64 z2)).setCell ⟨w.heap.size + 1 + 1, 2, none⟩ (.int .i64 z3)).setCell ⟨w.heap.size + 1 + 1, 3, none⟩ (.int .i64 z4)).setCell ⟨w.heap.size + 1 + 1 + 1, 0, none⟩ (.bool true)).cell? ⟨w.heap.size + 1 + 1, 3, none⟩ = some (.int .i64 z4) := by go_simp
  have q4 : (((((w3.setCell ⟨w.heap.size + 1 + 1, 0, none⟩ (.int .i64 z1)).setCell ⟨w.heap.size + 1 + 1, 1, none⟩ (.int .i64 z2)).setCell ⟨w.heap.size + 1 + 1, 2, none⟩ (.int .i64 z3)).setCell ⟨w.heap.size + 1 + 1, 3, none⟩ (.int .i64 z4)).setCell ⟨w.heap.size + 1 + 1 + 1, 0, none⟩ (.bool true)).cell? ⟨w.heap.size + 1 + 1 + 1, 0, none⟩ = some (.bool true) := by go_simp
  have BF := Lib.hid (Rv.belows1 (Rv.belows4 HXW3.out (show w.heap.size ≤ w.heap.size + 1 + 1 by omega) (.int .i64 z1) (.int .i64 z2) (.int .i64 z3) (.int .i64 z4)) (show w.heap.size ≤ w.heap.size + 1 + 1 + 1 by omega) (.bool true))
  simp [Leaves, settle, results, go_sem, q0, q1, q2, q3, q4]
  exact BF.out
theorem rgis {ka xa kb xb ma ya mb yb z1 z2 z3 z4 : Int} {va vb : Value} {tl tu : TypeId} {li ui : Value} {yes : Bool} (w : World)
    (E1 : ∀ W, Calls Tryd.prog 34 #[coV ka xa kb xb] W fun e w' => e = .returned va ∧ Below W.heap.size W w')
    (E2 : ∀ W, Calls Tryd.prog 34 #[coV ma ya mb yb] W fun e w' => e = .returned vb ∧ Below W.heap.size W w')
    (O : ∀ W, Calls Tryd.prog 53 #[va, vb] W fun e w' => e = .returned (.tuple #[exI tl li tu ui, .bool yes, .nilIface]) ∧ Below W.heap.size W w')
    (Co : ∀ W, Calls Tryd.prog 36 #[exI tl li tu ui] W fun e w' => e = .returned (coV z1 z2 z3 z4) ∧ Below W.heap.size W w') :
    Calls Tryd.prog 20 #[coV ka xa kb xb, coV ma ya mb yb] w fun e w' => e = .returned (.tuple #[coV z1 z2 z3 z4, .bool yes, .bool true]) ∧ Below w.heap.size w w' := by
  have HB4 := Lib.hid (four_blocks w (Sp.coC ka xa kb xb) (Sp.coC ma ya mb yb) zeC fbC)
  have HX : Hid (Below w.heap.size w ((((w.alloc (Sp.coC ka xa kb xb)).alloc (Sp.coC ma ya mb yb)).alloc zeC).alloc fbC)) := Lib.hid (by go_grown)
  have E1 := Lib.hid E1
  have E2 := Lib.hid E2
  have O := Lib.hid O
  have Co := Lib.hid Co
  go_enter_defers Tryd.func20, Tryd.ntmps20
  go_upto_region 2 with fail
  generalize ((((w.alloc (Sp.coC ka xa kb xb)).alloc (Sp.coC ma ya mb yb)).alloc zeC).alloc fbC) = X at *
  have hsz := HB4.out.2.2.2.2
  refine wp_region_noPanic ?_
  refine Rv.region_fin (n := 24) (by kernel_rfl) #[10, 11, 12, 13, 14, 9, 15, 16, 17, 7, 1010, 5, 8] #[] (fun i f W => if i = 10 then (fun f W => ∃ g, f 9 = .pointer (some ⟨g, 0, none⟩) ∧ W.heap[g]? = some (.cells #[.iface tl li, .iface tu ui, tv] 64 (0, 0))) f W else if i = 9 then (fun f W => ∃ g, f 9 = .pointer (some ⟨g, 0, none⟩) ∧ W.heap[g]? = some (.cells #[.nilIface, .nilIface, .nilIface] 64 (0, 0))) f W else f i = (#[coV ka xa kb xb, va, coV ma ya mb yb, vb, .tuple #[exI tl li tu ui, .bool yes, .nilIface], .tuple #[exI tl li tu ui, .bool yes, .nilIface], exI tl li tu ui, .bool yes, .nilIface, undef, undef, .bool yes, .nilIface] : Array Value).getD i undef) (fun i j => (i == 10 && (j == 9))) (fun i => i == 10) (fun i f W W' => if i = 10 then (fun f W W' => ∃ g, f 9 = .pointer (some ⟨g, 0, none⟩) ∧ Rv.But g W W') f W W' else True) (fun W => Below X.heap.size X W) (fun _ => True) (Rv.One 9 X.heap.size) (Rv.One.loc (by show 9 < 13; omega)) (fun i f f' w hi h hd hg => ?_) (fun i j f w w' hi hj hij hK hdp h hr => ?_) (fun i h g b hg => ?_) rfl (by kernel_rfl) (fun i h g b hg => ?_) ((Below.refl _ _).drew) (trivial) (fun f => Rv.One.start) (fun i h hr f w hf => ?_) (fun i h hr => absurd hr (Rv.allrun (by kernel_rfl) i h)) ?_ ?_
  · by_cases hi1010 : i = 10
    · subst hi1010
      rw [if_pos rfl] at hg ⊢
      obtain ⟨g, q1, q2⟩ := hg
      exact ⟨g, (hd 9 rfl).symm.trans q1, q2⟩
    rw [if_neg hi1010] at hg ⊢
    by_cases hi7 : i = 9
    · subst hi7
      rw [if_pos rfl] at hg ⊢
      obtain ⟨g, q1, q2⟩ := hg
      exact ⟨g, h.symm.trans q1, q2⟩
    rw [if_neg hi7] at hg ⊢
    rw [← h]; exact hg
  · by_cases hj1010 : j = 10
    · subst hj1010
      rw [if_pos rfl] at h ⊢
      rcases hr with ⟨hK1, hr⟩ | hr
      · exfalso
        exact hij (by simpa using hK1)
      · obtain ⟨g, e, hb⟩ := h
        exact ⟨g, e, (hr.block _ (Rv.lt_of_blk hb)).trans hb⟩
    rw [if_neg hj1010] at h ⊢
    by_cases hj7 : j = 9
    · subst hj7
      rw [if_pos rfl] at h ⊢
      rcases hr with ⟨hK1, hr⟩ | hr
      · exfalso
        have e : i = 10 := by simpa using hK1
        subst e
        revert hK
        decide
      · obtain ⟨g, e, hb⟩ := h
        exact ⟨g, e, (hr.block _ (Rv.lt_of_blk hb)).trans hb⟩
    rw [if_neg hj7] at h ⊢
    exact h
  · match i, h, hg with
    | 0, _, hg => cases hg
    | 1, _, hg => cases hg
    | 2, _, hg => cases hg
    | 3, _, hg => cases hg
    | 4, _, hg => cases hg
    | 5, _, hg => cases hg
    | 6, _, hg => cases hg
    | 7, _, hg => cases hg
    | 8, _, hg => cases hg
    | 9, _, hg => cases hg
    | 10, _, hg => cases hg
    | 11, _, hg => cases hg
    | 12, _, hg => cases hg
    | m + 13, h, _ => exact absurd h (by show ¬ m + 13 < 13; omega)
  · match i, h, hg with
    | 0, _, hg => cases hg
    | 1, _, hg => cases hg
    | 2, _, hg => cases hg
    | 3, _, hg => cases hg
    | 4, _, hg => cases hg
    | 5, _, hg => cases hg
    | 6, _, hg => cases hg
    | 7, _, hg => cases hg
    | 8, _, hg => cases hg
    | 9, _, hg => cases hg
    | 10, _, hg => cases hg
    | 11, _, hg => cases hg
    | 12, _, hg => cases hg
    | m + 13, h, _ => exact absurd h (by show ¬ m + 13 < 13; omega)
  · match i, h, hr, hf with
    | 0, _, hr, _ => exact Bool.noConfusion (show true = false from hr)
    | 1, _, hr, _ => exact Bool.noConfusion (show true = false from hr)
    | 2, _, hr, _ => exact Bool.noConfusion (show true = false from hr)
    | 3, _, hr, _ => exact Bool.noConfusion (show true = false from hr)
    | 4, _, hr, _ => exact Bool.noConfusion (show true = false from hr)
    | 5, _, hr, _ => exact Bool.noConfusion (show true = false from hr)
    | 6, _, hr, _ => exact Bool.noConfusion (show true = false from hr)
    | 7, _, hr, _ => exact Bool.noConfusion (show true = false from hr)
    | 8, _, hr, _ => exact Bool.noConfusion (show true = false from hr)
    | 9, _, hr, _ => exact Bool.noConfusion (show true = false from hr)
    | 10, _, hr, _ => exact Bool.noConfusion (show true = false from hr)
    | 11, _, hr, _ => exact Bool.noConfusion (show true = false from hr)
    | 12, _, hr, _ => exact Bool.noConfusion (show true = false from hr)
    | m + 13, h, _, _ => exact absurd h (by show ¬ m + 13 < 13; omega)
  · intro i h a W hrun hbase hpre hdep htr hta hJ
    obtain ⟨n0, n1, n2, n3⟩ := Rv.cells4 ((htr.block _ (by omega)).trans HB4.out.1)
    obtain ⟨r0, r1, r2, r3⟩ := Rv.cells4 ((htr.block _ (by omega)).trans HB4.out.2.1)
    match i, h with
    | 0, _ =>
      obtain ⟨e2, x2⟩ := Rv.ev (show a.tmps.getD 2 undef = .pointer (some ⟨w.heap.size, 0, none⟩) from hbase 2 rfl)
      exact Rv.step_op (op := Go.Op.load 27 (Go.Operand.tmp 2)) (v := coV ka xa kb xb) (w1 := W) rfl rfl (fun d pos aft g => by unfold execOp; go_simp) ⟨_, rfl, rfl, .inr (Below.refl _ _), htr, fun _ ht => ht, fun L _ hJ => Rv.One.keep (by decide) _ (Nat.le_refl _) hJ⟩
    | 1, _ =>
      obtain ⟨e10, x10⟩ := Rv.ev (show a.tmps.getD 10 undef = coV ka xa kb xb from hdep 0 rfl rfl)
      have cf : ∀ x0 W, (callFunc 34 #[x0]).run Tryd.prog W = .ok (.enter 34 #[x0]) W := fun _ _ => by kernel_rfl
      refine Rv.step_fn (op := Go.Op.call { callee := Go.Callee.value (Go.Operand.func 34), args := #[Go.Operand.tmp 10], argTypes := #[27] }) (f := 34) (args := #[coV ka xa kb xb]) (R := fun v W' => v = va ∧ Below W.heap.size W W') rfl rfl (fun d pos aft g => by unfold execOp; go_simp) ((E1.out W).mono ?_) ?_
      · (rintro e W' ⟨rfl, hb⟩; exact ⟨_, rfl, rfl, hb⟩)
      · (rintro v W' ⟨rfl, hb⟩; exact ⟨_, rfl, rfl, .inr hb, (fun W W' ht hb => ht.trans (hb.mono ht.size)) W W' htr hb, fun _ ht => (fun _ _ _ _ => trivial) W W' ht hb, fun L _ hJ => Rv.One.keep (by decide) _ (hb.size) hJ⟩)
    | 2, _ =>
      obtain ⟨e3, x3⟩ := Rv.ev (show a.tmps.getD 3 undef = .pointer (some ⟨w.heap.size + 1, 0, none⟩) from hbase 3 rfl)
      exact Rv.step_op (op := Go.Op.load 27 (Go.Operand.tmp 3)) (v := coV ma ya mb yb) (w1 := W) rfl rfl (fun d pos aft g => by unfold execOp; go_simp) ⟨_, rfl, rfl, .inr (Below.refl _ _), htr, fun _ ht => ht, fun L _ hJ => Rv.One.keep (by decide) _ (Nat.le_refl _) hJ⟩
    | 3, _ =>
      obtain ⟨e12, x12⟩ := Rv.ev (show a.tmps.getD 12 undef = coV ma ya mb yb from hdep 2 rfl rfl)
      have cf : ∀ x0 W, (callFunc 34 #[x0]).run Tryd.prog W = .ok (.enter 34 #[x0]) W := fun _ _ => by kernel_rfl
      refine Rv.step_fn (op := Go.Op.call { callee := Go.Callee.value (Go.Operand.func 34), args := #[Go.Operand.tmp 12], argTypes := #[27] }) (f := 34) (args := #[coV ma ya mb yb]) (R := fun v W' => v = vb ∧ Below W.heap.size W W') rfl rfl (fun d pos aft g => by unfold execOp; go_simp) ((E2.out W).mono ?_) ?_
      · (rintro e W' ⟨rfl, hb⟩; exact ⟨_, rfl, rfl, hb⟩)
      · (rintro v W' ⟨rfl, hb⟩; exact ⟨_, rfl, rfl, .inr hb, (fun W W' ht hb => ht.trans (hb.mono ht.size)) W W' htr hb, fun _ ht => (fun _ _ _ _ => trivial) W W' ht hb, fun L _ hJ => Rv.One.keep (by decide) _ (hb.size) hJ⟩)
    | 4, _ =>
      obtain ⟨e11, x11⟩ := Rv.ev (show a.tmps.getD 11 undef = va from hdep 1 rfl rfl)
      obtain ⟨e13, x13⟩ := Rv.ev (show a.tmps.getD 13 undef = vb from hdep 3 rfl rfl)
      have cf : ∀ x0 x1 W, (callFunc 53 #[x0, x1]).run Tryd.prog W = .ok (.enter 53 #[x0, x1]) W := fun _ _ _ => by kernel_rfl
      refine Rv.step_fn (op := Go.Op.call { callee := Go.Callee.value (Go.Operand.func 53), args := #[Go.Operand.tmp 11, Go.Operand.tmp 13], argTypes := #[64, 64] }) (f := 53) (args := #[va, vb]) (R := fun v W' => v = .tuple #[exI tl li tu ui, .bool yes, .nilIface] ∧ Below W.heap.size W W') rfl rfl (fun d pos aft g => by unfold execOp; go_simp) ((O.out W).mono ?_) ?_
      · (rintro e W' ⟨rfl, hb⟩; exact ⟨_, rfl, rfl, hb⟩)
      · (rintro v W' ⟨rfl, hb⟩; exact ⟨_, rfl, rfl, .inr hb, (fun W W' ht hb => ht.trans (hb.mono ht.size)) W W' htr hb, fun _ ht => (fun _ _ _ _ => trivial) W W' ht hb, fun L _ hJ => Rv.One.keep (by decide) _ (hb.size) hJ⟩)
    | 5, _ =>
      obtain ⟨e14, x14⟩ := Rv.ev (show a.tmps.getD 14 undef = .tuple #[exI tl li tu ui, .bool yes, .nilIface] from hdep 4 rfl rfl)
      exact Rv.step_op (op := Go.Op.move (Go.Operand.tmp 14)) (v := .tuple #[exI tl li tu ui, .bool yes, .nilIface]) (w1 := W) rfl rfl (fun d pos aft g => by unfold execOp; go_simp) ⟨_, rfl, rfl, .inr (Below.refl _ _), htr, fun _ ht => ht, fun L _ hJ => Rv.One.keep (by decide) _ (Nat.le_refl _) hJ⟩
    | 6, _ =>
      obtain ⟨e9, x9⟩ := Rv.ev (show a.tmps.getD 9 undef = .tuple #[exI tl li tu ui, .bool yes, .nilIface] from hdep 5 rfl rfl)
      exact Rv.step_op (op := Go.Op.extract (Go.Operand.tmp 9) 0) (v := exI tl li tu ui) (w1 := W) rfl rfl (fun d pos aft g => by unfold execOp; go_simp) ⟨_, rfl, rfl, .inr (Below.refl _ _), htr, fun _ ht => ht, fun L _ hJ => Rv.One.keep (by decide) _ (Nat.le_refl _) hJ⟩
    | 7, _ =>
      obtain ⟨e9, x9⟩ := Rv.ev (show a.tmps.getD 9 undef = .tuple #[exI tl li tu ui, .bool yes, .nilIface] from hdep 5 rfl rfl)
      exact Rv.step_op (op := Go.Op.extract (Go.Operand.tmp 9) 1) (v := .bool yes) (w1 := W) rfl rfl (fun d pos aft g => by unfold execOp; go_simp) ⟨_, rfl, rfl, .inr (Below.refl _ _), htr, fun _ ht => ht, fun L _ hJ => Rv.One.keep (by decide) _ (Nat.le_refl _) hJ⟩
    | 8, _ =>
      obtain ⟨e9, x9⟩ := Rv.ev (show a.tmps.getD 9 undef = .tuple #[exI tl li tu ui, .bool yes, .nilIface] from hdep 5 rfl rfl)
      exact Rv.step_op (op := Go.Op.extract (Go.Operand.tmp 9) 2) (v := .nilIface) (w1 := W) rfl rfl (fun d pos aft g => by unfold execOp; go_simp) ⟨_, rfl, rfl, .inr (Below.refl _ _), htr, fun _ ht => ht, fun L _ hJ => Rv.One.keep (by decide) _ (Nat.le_refl _) hJ⟩
    | 9, _ =>
      have hal : Below W.heap.size W (W.alloc (.cells #[.nilIface, .nilIface, .nilIface] 64)) := (Below.refl _ _).alloc (Nat.le_refl _) _
      exact Rv.step_op (op := Go.Op.alloc 64) (ty := 0) (v := .pointer (some ⟨W.heap.size, 0, none⟩)) (w1 := W.alloc (.cells #[.nilIface, .nilIface, .nilIface] 64)) rfl rfl (fun d pos aft g => by unfold execOp; go_simp) ⟨_, rfl, ⟨W.heap.size, rfl, heap_alloc_new W _⟩, .inr hal, htr.trans (hal.mono htr.size), fun _ ht => ht, fun L _ hJ => Rv.One.new htr.size (by simp) hJ⟩
    | 10, _ =>
      obtain ⟨g7, e7', h7⟩ : ∃ g, a.tmps.getD 7 undef = .pointer (some ⟨g, 0, none⟩) ∧ W.heap[g]? = some (.cells #[.nilIface, .nilIface, .nilIface] 64 (0, 0)) := hdep 9 rfl rfl
      obtain ⟨e7, x7⟩ := Rv.ev e7'
      obtain ⟨e15, x15⟩ := Rv.ev (show a.tmps.getD 15 undef = exI tl li tu ui from hdep 6 rfl rfl)
      obtain ⟨L, _, hL, hJ2⟩ := hJ
      have hge : X.heap.size ≤ g7 := by
        obtain ⟨g, eg, hge, _⟩ := hJ2 (hL 9 rfl)
        have eg2 : Value.pointer (some ⟨g, 0, none⟩) = .pointer (some ⟨g7, 0, none⟩) := eg.symm.trans e7'
        injection eg2 with eg2
        injection eg2 with eg2
        injection eg2 with eg2
        omega
      obtain ⟨k0, k1, k2⟩ := Rv.cells3 h7
      obtain ⟨m0, m1, m2⟩ := Rv.frozen3 h7
      exact Rv.step_skip (op := Go.Op.store 64 (Go.Operand.tmp 7) (Go.Operand.tmp 15)) (ty := 0) (w1 := (((W.setCell ⟨g7, 0, none⟩ (.iface tl li)).setCell ⟨g7, 1, none⟩ (.iface tu ui)).setCell ⟨g7, 2, none⟩ (tv))) rfl rfl (fun d pos aft g => by unfold execOp; go_simp) ⟨undef, rfl, ⟨g7, e7', Rv.sets3 h7 _ _ _⟩, .inl ⟨rfl, g7, e7', Rv.buts3 g7 W _ _ _⟩, Rv.belows3 htr hge _ _ _, (fun h _ => by cases h), fun L _ hJ => Rv.One.keep (by decide) _ ((Rv.buts3 g7 W _ _ _).1) hJ⟩
    | 11, _ =>
      obtain ⟨e16, x16⟩ := Rv.ev (show a.tmps.getD 16 undef = .bool yes from hdep 7 rfl rfl)
      exact Rv.step_op (op := Go.Op.assign (Go.Operand.tmp 16)) (v := .bool yes) (w1 := W) rfl rfl (fun d pos aft g => by unfold execOp; go_simp) ⟨_, rfl, rfl, .inr (Below.refl _ _), htr, fun _ ht => ht, fun L _ hJ => Rv.One.keep (by decide) _ (Nat.le_refl _) hJ⟩
    | 12, _ =>
      obtain ⟨e17, x17⟩ := Rv.ev (show a.tmps.getD 17 undef = .nilIface from hdep 8 rfl rfl)
      exact Rv.step_op (op := Go.Op.assign (Go.Operand.tmp 17)) (v := .nilIface) (w1 := W) rfl rfl (fun d pos aft g => by unfold execOp; go_simp) ⟨_, rfl, rfl, .inr (Below.refl _ _), htr, fun _ ht => ht, fun L _ hJ => Rv.One.keep (by decide) _ (Nat.le_refl _) hJ⟩
    | m + 13, h => exact absurd h (by show ¬ m + 13 < 13; omega)
  intro W f hf htr hJ
  have f0 : f 0 = coV ka xa kb xb := hf 0 (by show 0 < 13; omega) rfl
  have f1 : f 1 = va := hf 1 (by show 1 < 13; omega) rfl
  have f2 : f 2 = coV ma ya mb yb := hf 2 (by show 2 < 13; omega) rfl
  have f3 : f 3 = vb := hf 3 (by show 3 < 13; omega) rfl
  have f4 : f 4 = .tuple #[exI tl li tu ui, .bool yes, .nilIface] := hf 4 (by show 4 < 13; omega) rfl
  have f5 : f 5 = .tuple #[exI tl li tu ui, .bool yes, .nilIface] := hf 5 (by show 5 < 13; omega) rfl
  have f6 : f 6 = exI tl li tu ui := hf 6 (by show 6 < 13; omega) rfl
  have f7 : f 7 = .bool yes := hf 7 (by show 7 < 13; omega) rfl
  have f8 : f 8 = .nilIface := hf 8 (by show 8 < 13; omega) rfl
  have HS10 := Lib.hid (show (fun f W => ∃ g, f 9 = .pointer (some ⟨g, 0, none⟩) ∧ W.heap[g]? = some (.cells #[.iface tl li, .iface tu ui, tv] 64 (0, 0))) f W from hf 10 (by show 10 < 13; omega) rfl)
  have f11 : f 11 = .bool yes := hf 11 (by show 11 < 13; omega) rfl
  have f12 : f 12 = .nilIface := hf 12 (by show 12 < 13; omega) rfl
  clear hf
  refine (show ∀ (a : Act) (w : World), Code.wp _ _ _ a w → _ from by assumption) _ _ ?_
  refine Rv.fin_swap (L' := [(10, f 0), (11, f 1), (12, f 2), (13, f 3), (14, f 4), (9, f 5), (15, f 6), (16, f 7), (17, f 8), (7, f 9), (1010, f 10), (5, f 11), (8, f 12)]) rfl ?_
  rw [f0, f1, f2, f3, f4, f5, f6, f7, f8, f11, f12]
  clear f0 f1 f2 f3 f4 f5 f6 f7 f8 f11 f12
  simp only [Rv.fin, List.foldl_cons, List.foldl_nil, Act.put, List.setIfInBounds_toArray, List.set_cons_succ, List.set_cons_zero, List.set_nil]
  obtain ⟨g, e9, hg9⟩ := HS10.out
  rw [e9]
  clear e9 HS10 hJ
  have HXW := Lib.hid (HX.out.trans (htr.mono (by omega)))
  have HZ := Lib.hid ((htr.block _ (by omega)).trans HB4.out.2.2.1)
  have HK := Lib.hid ((htr.block _ (by omega)).trans HB4.out.2.2.2.1)
  obtain ⟨c0, c1, c2⟩ := Rv.cells3 hg9
  have hgs := Rv.lt_of_blk hg9
  go_wp2_with (go_at_call 36; (with_reducible refine (Co.out _).mono ?_); rintro e w3 ⟨rfl, hb⟩; have HXW3 := Lib.hid (HXW.out.trans (hb.mono HXW.out.size)); obtain ⟨s0, s1, s2, s3⟩ := Rv.cells4 ((hb.block _ (Rv.lt_of_blk HZ.out)).trans HZ.out); obtain ⟨t0, t1, t2, t3⟩ := Rv.frozen4 ((hb.block _ (Rv.lt_of_blk HZ.out)).trans HZ.out); have s4 := Rv.cells1 ((hb.block _ (Rv.lt_of_blk HK.out)).trans HK.out); have t4 := Rv.frozen1 ((hb.block _ (Rv.lt_of_blk HK.out)).trans HK.out); clear hb)
  refine leaves_cons (f := 48) (args := #[.pointer (some ⟨w.heap.size + 1 + 1 + 1, 0, none⟩)]) (by simp) (by simp [go_sem]) ?_
  refine (caught_idle ⟨w.heap.size + 1 + 1 + 1, 0, none⟩ _).mono ?_
  rintro e u' w'' ⟨rfl, rfl, rfl⟩
  have q0 : (((((w3.setCell ⟨w.heap.size + 1 + 1, 0, none⟩ (.int .i64 z1)).setCell ⟨w.heap.size + 1 + 1, 1, none⟩ (.int .i64 z2)).setCell ⟨w.heap.size + 1 + 1, 2, none⟩ (.int .i64 z3)).setCell ⟨w.heap.size + 1 + 1, 3, none⟩ (.int .i64 z4)).setCell ⟨w.heap.size + 1 + 1 + 1, 0, none⟩ (.bool true)).cell? ⟨w.heap.size + 1 + 1, 0, none⟩ = some (.int .i64 z1) := by go_simp
  have q1 : (((((w3.setCell ⟨w.heap.size + 1 + 1, 0, none⟩ (.int .i64 z1)).setCell ⟨w.heap.size + 1 + 1, 1, none⟩ (.int .i64 z2)).setCell ⟨w.heap.size + 1 + 1, 2, none⟩ (.int .i64 z3)).setCell ⟨w.heap.size + 1 + 1, 3, none⟩ (.int .i64 z4)).setCell ⟨w.heap.size + 1 + 1 + 1, 0, none⟩ (.bool true)).cell? ⟨w.heap.size + 1 + 1, 1, none⟩ = some (.int .i64 z2) := by go_simp
  have q2 : (((((w3.setCell ⟨w.heap.size + 1 + 1, 0, none⟩ (.int .i64 z1)).setCell ⟨w.heap.size + 1 + 1, 1, none⟩ (.int .i64 z2)).setCell ⟨w.heap.size + 1 + 1, 2, none⟩ (.int .i64 z3)).setCell ⟨w.heap.size + 1 + 1, 3, none⟩ (.int .i64 z4)).setCell ⟨w.heap.size + 1 + 1 + 1, 0, none⟩ (.bool true)).cell? ⟨w.heap.size + 1 + 1, 2, none⟩ = some (.int .i64 z3) := by go_simp
  have q3 : (((((w3.setCell ⟨w.heap.size + 1 + 1, 0, none⟩ (.int .i64 z1)).setCell ⟨w.heap.size + 1 + 1, 1, none⟩ (.int .i64 z2)).setCell ⟨w.heap.size + 1 + 1, 2, none⟩ (.int .i64 z3)).setCell ⟨w.heap.size + 1 + 1, 3, none⟩ (.int .i64 z4)).setCell ⟨w.heap.size + 1 + 1 + 1, 0, none⟩ (.bool true)).cell? ⟨w.heap.size + 1 + 1, 3, none⟩ = some (.int .i64 z4) := by go_simp
  have q4 : (((((w3.setCell ⟨w.heap.size + 1 + 1, 0, none⟩ (.int .i64 z1)).setCell ⟨w.heap.size + 1 + 1, 1, none⟩ (.int .i64 z2)).setCell ⟨w.heap.size + 1 + 1, 2, none⟩ (.int .i64 z3)).setCell ⟨w.heap.size + 1 + 1, 3, none⟩ (.int .i64 z4)).setCell ⟨w.heap.size + 1 + 1 + 1, 0, none⟩ (.bool true)).cell? ⟨w.heap.size + 1 + 1 + 1, 0, none⟩ = some (.bool true) := by go_simp
  have BF := Lib.hid (Rv.belows1 (Rv.belows4 HXW3.out (show w.heap.size ≤ w.heap.size + 1 + 1 by omega) (.int .i64 z1) (.int .i64 z2) (.int .i64 z3) (.int .i64 z4)) (show w.heap.size ≤ w.heap.size + 1 + 1 + 1 by omega) (.bool true))
  simp [Leaves, settle, results, go_sem, q0, q1, q2, q3, q4]
  exact BF.out
end Go.Proofs.YtfnogpelaoofbaaDoor.Rg

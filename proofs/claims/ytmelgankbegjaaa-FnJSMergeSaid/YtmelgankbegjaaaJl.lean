/- The law of the types. Conditions: those written at each lemma. -/
import Derived.Test.YtmelgankbegjaaaJk
set_option linter.unusedVariables false
set_option linter.unusedSimpArgs false
set_option maxRecDepth 100000
set_option maxHeartbeats 8000000
namespace Go.Proofs.Ytmelgankbegjaaa.Js
open Go.RowKit Go.Proofs.Ytmelgankbegjaaa.B

theorem jstype_any (t : J) (p : Nat → Prop) (v : Value) (w : World) (hwf : Wf t) (hj : NN p w t v) : Calls Try.prog 7 #[v] w fun e w' => e = .returned (.string (tyS t.k)) ∧ Below w.heap.size w w' := by
  obtain ⟨A, c, A2, c2, rfl, _⟩ := hj.five
  have hal := (Below.refl w.heap.size w).alloc (Nat.le_refl _) (.cells #[.int .i64 t.k, .int .u64 (nb t.k t.n), .string t.s, .slice A t.ns.length c, .slice A2 t.is.length c2] 32)
  obtain ⟨y0, y1, y2, y3, y4⟩ := Rv.cells5 (heap_alloc_new w (.cells #[.int .i64 t.k, .int .u64 (nb t.k t.n), .string t.s, .slice A t.ns.length c, .slice A2 t.is.length c2] 32))
  have VL := Lib.hid (val_any t p _ _ hwf (hj.below hal))
  have HB := Lib.hid hal
  have HW := Lib.hid hwf
  clear hal hj
  go_enter Try.func7, Try.ntmps7
  go_upto_region 1 with fail
  generalize w.alloc (.cells #[.int .i64 t.k, .int .u64 (nb t.k t.n), .string t.s, .slice A t.ns.length c, .slice A2 t.is.length c2] 32) = w1 at *
  go_wp2_with (first
    | (go_at_call 16; (with_reducible refine VL.out.mono ?_); rintro e w2 ⟨u, rfl, hu, _, hb⟩; have TY := Lib.hid (typeof_any t _ u w2 HW.out hu); have HB2 := Lib.hid (HB.out.trans (hb.mono HB.out.size)); clear hu hb)
    | (go_at_call 15; (with_reducible refine TY.out.mono ?_); rintro e w3 ⟨rfl, rfl⟩))
  go_ret
  exact ⟨rfl, HB2.out⟩
theorem ty_apart : ∀ k l : Fin 6, ((tyS k.1).toList.isEmpty = false) ∧ ((tyS k.1).toList == (tyS l.1).toList) = decide (k = l) := by decide +kernel
theorem kind_range {t : J} (h : Wf t) : 0 ≤ t.k ∧ t.k ≤ 5 := by
  obtain ⟨k, n, s, ns, is⟩ := t
  show 0 ≤ k ∧ k ≤ 5
  rcases h with ⟨h, _⟩ | ⟨h, _⟩ | ⟨h, _⟩ | ⟨h, _⟩ | ⟨h, _⟩ | ⟨h, _⟩ <;> omega
theorem ty_eq (k l : Int) (h1 : 0 ≤ k ∧ k ≤ 5) (h2 : 0 ≤ l ∧ l ≤ 5) : (tyS k).toList.isEmpty = false ∧ (tyS l).toList.isEmpty = false ∧ ((tyS k).toList == (tyS l).toList) = (k == l) := by
  have a := ty_apart ⟨k.toNat, by omega⟩ ⟨l.toNat, by omega⟩
  have b := ty_apart ⟨l.toNat, by omega⟩ ⟨l.toNat, by omega⟩
  have e1 : ((k.toNat : Nat) : Int) = k := by omega
  have e2 : ((l.toNat : Nat) : Int) = l := by omega
  simp only [e1, e2] at a b
  refine ⟨a.1, b.1, a.2.trans ?_⟩
  rw [Bool.eq_iff_iff, decide_eq_true_iff, beq_iff_eq, Fin.mk.injEq]
  omega
theorem law_any (A : Option Addr) (la ca : Nat) (za : List Int) (B : Option Addr) (lb cb : Nat) (zb : List Int) (w : World) (ha : IsRow .u8 w A la ca za) (hb : IsRow .u8 w B lb cb zb) :
    Calls Try.prog 3 #[.slice A la ca, .slice B lb cb] w fun e w' => e = .returned (.bool true) ∧ Below w.heap.size w w' := by
  have ba := ha.rd.1.le
  have bb := hb.rd.1.le
  by_cases sa : la ≤ 2147483647
  case neg =>
    go_enter Try.func3, Try.ntmps3
    go_wp2
    go_ret
    exact ⟨rfl, Below.refl _ _⟩
  by_cases sb : lb ≤ 2147483647
  case neg =>
    go_enter Try.func3, Try.ntmps3
    go_wp2
    go_ret
    exact ⟨rfl, Below.refl _ _⟩
  have ra := ha.rd
  have rb := hb.rd
  have u8 : ∀ z : Int, (Lit.int .u8 z).wf = true → 0 ≤ z ∧ z ≤ 255 := fun z h => bounds_u8 h
  have OA := Lib.hid (of_any w A la ca (za.take la) ra.1 (fun z hz => u8 z (ra.2 z (List.mem_of_mem_take hz))))
  have OB := Lib.hid (fun (W : World) (h : Below w.heap.size w W) => of_any W B lb cb (zb.take lb) (rb.1.below h) (fun z hz => u8 z (rb.2 z (List.mem_of_mem_take hz))))
  clear ra rb u8 ha hb
  go_enter Try.func3, Try.ntmps3
  go_upto_region 4 with (first
    | (go_at_call 6; (with_reducible refine OA.out.mono ?_); rintro e w1 ⟨v1, t1, rfl, hw, hj, hb⟩; obtain ⟨A1, c1, B1, d1, rfl, _⟩ := hj.five; have HJ1 := Lib.hid hj; have HW1 := Lib.hid hw; have HB1 := Lib.hid hb; clear hw hj hb)
    | (go_at_call 6; (with_reducible refine (OB.out w1 HB1.out).mono ?_); rintro e w2 ⟨v2, t2, rfl, hw, hj, hb⟩; obtain ⟨A2, c2, B2, d2, rfl, _⟩ := hj.five; have HJ2 := Lib.hid hj; have HW2 := Lib.hid hw; have HB2 := Lib.hid (HB1.out.trans (hb.mono HB1.out.size)); have HJ12 := Lib.hid (HJ1.out.below hb); clear hw hj hb))
  have hba := (Below.refl w2.heap.size w2).alloc (Nat.le_refl _) (.cells #[.int .i64 t1.k, .int .i64 t1.n, .string t1.s, .slice A1 t1.ns.length c1, .slice B1 t1.is.length d1] 26)
  have hbb := (Below.refl (w2.alloc (.cells #[.int .i64 t1.k, .int .i64 t1.n, .string t1.s, .slice A1 t1.ns.length c1, .slice B1 t1.is.length d1] 26)).heap.size (w2.alloc (.cells #[.int .i64 t1.k, .int .i64 t1.n, .string t1.s, .slice A1 t1.ns.length c1, .slice B1 t1.is.length d1] 26))).alloc (Nat.le_refl _) (.cells #[.int .i64 t2.k, .int .i64 t2.n, .string t2.s, .slice A2 t2.ns.length c2, .slice B2 t2.is.length d2] 26)
  have hn1 := heap_alloc_new w2 (.cells #[.int .i64 t1.k, .int .i64 t1.n, .string t1.s, .slice A1 t1.ns.length c1, .slice B1 t1.is.length d1] 26)
  have hsz1 : (w2.alloc (.cells #[.int .i64 t1.k, .int .i64 t1.n, .string t1.s, .slice A1 t1.ns.length c1, .slice B1 t1.is.length d1] 26)).heap.size = w2.heap.size + 1 := by simp
  have hn2 := heap_alloc_new (w2.alloc (.cells #[.int .i64 t1.k, .int .i64 t1.n, .string t1.s, .slice A1 t1.ns.length c1, .slice B1 t1.is.length d1] 26)) (.cells #[.int .i64 t2.k, .int .i64 t2.n, .string t2.s, .slice A2 t2.ns.length c2, .slice B2 t2.is.length d2] 26)
  have hXB := hba.trans (hbb.mono hba.size)
  have HG1 := Lib.hid ((hbb.block _ (Rv.lt_of_blk hn1)).trans hn1)
  rw [hsz1] at hn2
  have HG2 := Lib.hid hn2
  have HJ1 := Lib.hid (HJ12.out.below hXB)
  have HJ2 := Lib.hid (HJ2.out.below hXB)
  have HXW := Lib.hid (HB2.out.trans (hXB.mono HB2.out.size))
  clear hba hbb hn1 hsz1 hn2 hXB HJ12 HB1 HB2 OA OB
  generalize (w2.alloc (.cells #[.int .i64 t1.k, .int .i64 t1.n, .string t1.s, .slice A1 t1.ns.length c1, .slice B1 t1.is.length d1] 26)).alloc (.cells #[.int .i64 t2.k, .int .i64 t2.n, .string t2.s, .slice A2 t2.ns.length c2, .slice B2 t2.is.length d2] 26) = X at *
  have hg1 := Rv.lt_of_blk HG1.out
  have hg2 := Rv.lt_of_blk HG2.out
  generalize w2.heap.size + 1 = g2 at *
  generalize w2.heap.size = g1 at *
  refine Rv.region_goods (n := 44) (by kernel_rfl) #[21, 22, 23, 24, 25, 26, 7, 8] #[] (fun i v W => if i = 4 then (fun v W => NN (fun x => X.heap.size ≤ x) W t2 v) v W else if i = 1 then (fun v W => NN (fun x => X.heap.size ≤ x) W t1 v) v W else v = (#[.agg #[.int .i64 t1.k, .int .i64 t1.n, .string t1.s, .slice A1 t1.ns.length c1, .slice B1 t1.is.length d1], undef, .string (tyS t1.k), .agg #[.int .i64 t2.k, .int .i64 t2.n, .string t2.s, .slice A2 t2.ns.length c2, .slice B2 t2.is.length d2], undef, .string (tyS t2.k), .string (tyS t1.k), .string (tyS t2.k)] : Array Value).getD i undef) (fun i v w w' h hb => ?_) (fun i h g b hg => ?_) rfl (by kernel_rfl) (by kernel_rfl) (fun i h hr w => ?_) ?_ ?_
  · by_cases hi25 : i = 4
    · subst hi25
      rw [if_pos rfl] at h ⊢
      exact (fun v w w' h hb => h.below hb) v w w' h hb
    rw [if_neg hi25] at h ⊢
    by_cases hi22 : i = 1
    · subst hi22
      rw [if_pos rfl] at h ⊢
      exact (fun v w w' h hb => h.below hb) v w w' h hb
    rw [if_neg hi22] at h ⊢
    exact h
  · match i, h, hg with
    | 0, _, hg => cases hg
    | 1, _, hg => cases hg
    | 2, _, hg => cases hg
    | 3, _, hg => cases hg
    | 4, _, hg => cases hg
    | 5, _, hg => cases hg
    | 6, _, hg => cases hg
    | 7, _, hg => cases hg
    | m + 8, h, _ => exact absurd h (by show ¬ m + 8 < 8; omega)
  · match i, h, hr with
    | 0, _, hr => exact Bool.noConfusion (show true = false from hr)
    | 1, _, hr => exact Bool.noConfusion (show true = false from hr)
    | 2, _, hr => exact Bool.noConfusion (show true = false from hr)
    | 3, _, hr => exact Bool.noConfusion (show true = false from hr)
    | 4, _, hr => exact Bool.noConfusion (show true = false from hr)
    | 5, _, hr => exact Bool.noConfusion (show true = false from hr)
    | 6, _, hr => exact Bool.noConfusion (show true = false from hr)
    | 7, _, hr => exact Bool.noConfusion (show true = false from hr)
    | m + 8, h, _ => exact absurd h (by show ¬ m + 8 < 8; omega)
  · intro i h a W hrun hbase hpre hdep htr
    match i, h with
    | 0, _ =>
      obtain ⟨e5, x5⟩ := Rv.ev (show a.tmps.getD 5 undef = .pointer (some ⟨g1, 0, none⟩) from hbase 5 rfl)
      obtain ⟨y0, y1, y2, y3, y4⟩ := Rv.cells5 ((htr.block _ hg1).trans HG1.out)
      exact Rv.step_op (op := Go.Op.load 26 (Go.Operand.tmp 5)) (v := .agg #[.int .i64 t1.k, .int .i64 t1.n, .string t1.s, .slice A1 t1.ns.length c1, .slice B1 t1.is.length d1]) (w1 := W) rfl rfl (fun d pos aft g => by unfold execOp; go_simp) ⟨_, rfl, rfl, Below.refl _ _⟩
    | 1, _ =>
      obtain ⟨e21, x21⟩ := Rv.ev (show a.tmps.getD 21 undef = .agg #[.int .i64 t1.k, .int .i64 t1.n, .string t1.s, .slice A1 t1.ns.length c1, .slice B1 t1.is.length d1] from hdep 0 rfl)
      have cf : ∀ x0 W, (callFunc 8 #[x0]).run Try.prog W = .ok (.enter 8 #[x0]) W := fun _ _ => by kernel_rfl
      refine Rv.step_fn (op := Go.Op.call { callee := Go.Callee.value (Go.Operand.func 8), args := #[Go.Operand.tmp 21], argTypes := #[26] }) (ty := 32) (f := 8) (args := #[.agg #[.int .i64 t1.k, .int .i64 t1.n, .string t1.s, .slice A1 t1.ns.length c1, .slice B1 t1.is.length d1]]) (R := fun v W' => NN (fun x => X.heap.size ≤ x) W' t1 v ∧ Below W.heap.size W W') rfl rfl (fun d pos aft g => by unfold execOp; go_simp) ((in_any t1 _ _ W HW1.out (HJ1.out.below htr)).mono ?_) ?_
      · (rintro e W' ⟨u, rfl, hu, hb⟩; exact ⟨_, rfl, hu.weak (fun x _ hx => Nat.le_trans htr.size hx), hb⟩)
      · (rintro v W' ⟨hu, hb⟩; exact ⟨_, rfl, hu, hb⟩)
    | 2, _ =>
      have n7 : NN (fun x => X.heap.size ≤ x) W t1 (a.tmps.getD 22 undef) := hdep 1 rfl
      obtain ⟨v7, q7⟩ : ∃ v, a.tmps.getD 22 undef = v := ⟨_, rfl⟩
      rw [q7] at n7
      obtain ⟨e22, x22⟩ := Rv.ev q7
      have cf : ∀ x0 W, (callFunc 7 #[x0]).run Try.prog W = .ok (.enter 7 #[x0]) W := fun _ _ => by kernel_rfl
      refine Rv.step_fn (op := Go.Op.call { callee := Go.Callee.value (Go.Operand.func 7), args := #[Go.Operand.tmp 22], argTypes := #[32] }) (ty := 9) (f := 7) (args := #[v7]) (R := fun v W' => v = .string (tyS t1.k) ∧ Below W.heap.size W W') rfl rfl (fun d pos aft g => by unfold execOp; go_simp) ((jstype_any t1 _ _ W HW1.out n7).mono ?_) ?_
      · (rintro e W' ⟨rfl, hb⟩; exact ⟨_, rfl, rfl, hb⟩)
      · (rintro v W' ⟨rfl, hb⟩; exact ⟨_, rfl, rfl, hb⟩)
    | 3, _ =>
      obtain ⟨e6, x6⟩ := Rv.ev (show a.tmps.getD 6 undef = .pointer (some ⟨g2, 0, none⟩) from hbase 6 rfl)
      obtain ⟨y0, y1, y2, y3, y4⟩ := Rv.cells5 ((htr.block _ hg2).trans HG2.out)
      exact Rv.step_op (op := Go.Op.load 26 (Go.Operand.tmp 6)) (v := .agg #[.int .i64 t2.k, .int .i64 t2.n, .string t2.s, .slice A2 t2.ns.length c2, .slice B2 t2.is.length d2]) (w1 := W) rfl rfl (fun d pos aft g => by unfold execOp; go_simp) ⟨_, rfl, rfl, Below.refl _ _⟩
    | 4, _ =>
      obtain ⟨e24, x24⟩ := Rv.ev (show a.tmps.getD 24 undef = .agg #[.int .i64 t2.k, .int .i64 t2.n, .string t2.s, .slice A2 t2.ns.length c2, .slice B2 t2.is.length d2] from hdep 3 rfl)
      have cf : ∀ x0 W, (callFunc 8 #[x0]).run Try.prog W = .ok (.enter 8 #[x0]) W := fun _ _ => by kernel_rfl
      refine Rv.step_fn (op := Go.Op.call { callee := Go.Callee.value (Go.Operand.func 8), args := #[Go.Operand.tmp 24], argTypes := #[26] }) (ty := 32) (f := 8) (args := #[.agg #[.int .i64 t2.k, .int .i64 t2.n, .string t2.s, .slice A2 t2.ns.length c2, .slice B2 t2.is.length d2]]) (R := fun v W' => NN (fun x => X.heap.size ≤ x) W' t2 v ∧ Below W.heap.size W W') rfl rfl (fun d pos aft g => by unfold execOp; go_simp) ((in_any t2 _ _ W HW2.out (HJ2.out.below htr)).mono ?_) ?_
      · (rintro e W' ⟨u, rfl, hu, hb⟩; exact ⟨_, rfl, hu.weak (fun x _ hx => Nat.le_trans htr.size hx), hb⟩)
      · (rintro v W' ⟨hu, hb⟩; exact ⟨_, rfl, hu, hb⟩)
    | 5, _ =>
      have n7 : NN (fun x => X.heap.size ≤ x) W t2 (a.tmps.getD 25 undef) := hdep 4 rfl
      obtain ⟨v7, q7⟩ : ∃ v, a.tmps.getD 25 undef = v := ⟨_, rfl⟩
      rw [q7] at n7
      obtain ⟨e25, x25⟩ := Rv.ev q7
      have cf : ∀ x0 W, (callFunc 7 #[x0]).run Try.prog W = .ok (.enter 7 #[x0]) W := fun _ _ => by kernel_rfl
      refine Rv.step_fn (op := Go.Op.call { callee := Go.Callee.value (Go.Operand.func 7), args := #[Go.Operand.tmp 25], argTypes := #[32] }) (ty := 9) (f := 7) (args := #[v7]) (R := fun v W' => v = .string (tyS t2.k) ∧ Below W.heap.size W W') rfl rfl (fun d pos aft g => by unfold execOp; go_simp) ((jstype_any t2 _ _ W HW2.out n7).mono ?_) ?_
      · (rintro e W' ⟨rfl, hb⟩; exact ⟨_, rfl, rfl, hb⟩)
      · (rintro v W' ⟨rfl, hb⟩; exact ⟨_, rfl, rfl, hb⟩)
    | 6, _ =>
      obtain ⟨e23, x23⟩ := Rv.ev (show a.tmps.getD 23 undef = .string (tyS t1.k) from hdep 2 rfl)
      exact Rv.step_op (op := Go.Op.assign (Go.Operand.tmp 23)) (v := .string (tyS t1.k)) (w1 := W) rfl rfl (fun d pos aft g => by unfold execOp; go_simp) ⟨_, rfl, rfl, Below.refl _ _⟩
    | 7, _ =>
      obtain ⟨e26, x26⟩ := Rv.ev (show a.tmps.getD 26 undef = .string (tyS t2.k) from hdep 5 rfl)
      exact Rv.step_op (op := Go.Op.assign (Go.Operand.tmp 26)) (v := .string (tyS t2.k)) (w1 := W) rfl rfl (fun d pos aft g => by unfold execOp; go_simp) ⟨_, rfl, rfl, Below.refl _ _⟩
    | m + 8, h => exact absurd h (by show ¬ m + 8 < 8; omega)
  intro W f hf htr
  have f0 : f 0 = .agg #[.int .i64 t1.k, .int .i64 t1.n, .string t1.s, .slice A1 t1.ns.length c1, .slice B1 t1.is.length d1] := hf 0 (by show 0 < 8; omega)
  have f1 := hf 1 (by show 1 < 8; omega)
  have f2 : f 2 = .string (tyS t1.k) := hf 2 (by show 2 < 8; omega)
  have f3 : f 3 = .agg #[.int .i64 t2.k, .int .i64 t2.n, .string t2.s, .slice A2 t2.ns.length c2, .slice B2 t2.is.length d2] := hf 3 (by show 3 < 8; omega)
  have f4 := hf 4 (by show 4 < 8; omega)
  have f5 : f 5 = .string (tyS t2.k) := hf 5 (by show 5 < 8; omega)
  have f6 : f 6 = .string (tyS t1.k) := hf 6 (by show 6 < 8; omega)
  have f7 : f 7 = .string (tyS t2.k) := hf 7 (by show 7 < 8; omega)
  refine (show ∀ (a : Act) (w : World), Code.wp _ _ _ a w → _ from by assumption) _ _ ?_
  refine Rv.fin_swap (L' := [(21, f 0), (22, f 1), (23, f 2), (24, f 3), (25, f 4), (26, f 5), (7, f 6), (8, f 7)]) rfl ?_
  rw [f0, f2, f3, f5, f6, f7]
  clear f0 f2 f3 f5 f6 f7
  simp only [Rv.fin, List.foldl_cons, List.foldl_nil, Act.put, List.setIfInBounds_toArray, List.set_cons_succ, List.set_cons_zero]
  have hb9 := htr
  obtain ⟨y0, y1, y2, y3, y4⟩ := Rv.cells5 ((htr.block _ hg1).trans HG1.out)
  obtain ⟨x0, x1, x2, x3, x4⟩ := Rv.cells5 ((htr.block _ hg2).trans HG2.out)
  have HB9 := Lib.hid (HXW.out.trans (htr.mono HXW.out.size))
  obtain ⟨e1, e2, e3⟩ := ty_eq t1.k t2.k (kind_range HW1.out) (kind_range HW2.out)
  clear hf hb9 htr
  generalize f 1 = u1
  generalize f 4 = u4
  generalize tyS t1.k = s1 at *
  generalize tyS t2.k = s2 at *
  cases hk : (t1.k == t2.k)
  all_goals
    rw [hk] at e3
    go_wp2
    go_ret
    exact ⟨rfl, HB9.out⟩
end Go.Proofs.Ytmelgankbegjaaa.Js

/- The law of what overlaps. Conditions: those written at each lemma. -/
import Derived.Test.YtmelgankbegjaaaKk
import Derived.Deep.Cut
import Derived.Deep.Onto
import Derived.Handy
import Derived.Laws.Rows
set_option linter.unusedVariables false
set_option linter.unusedSimpArgs false
set_option maxRecDepth 100000
set_option maxHeartbeats 8000000
namespace Go.Proofs.Ytmelgankbegjaaa.Js
open Go.RowKit Go.Proofs.Ytmelgankbegjaaa.B

theorem caught_idle (p : Addr) (w : World) :
    CallsD Try.prog 18 #[.pointer (some p)] .returning w fun e u' w' => e = .returned (.tuple #[]) ∧ u' = .returning ∧ w' = w := by
  refine callsD_of_wpS Try.func18 rfl fun c₀ cs hu => ?_
  apply wpS_seq
  apply wpS_region
  simp [wpOpsS, go_sem, recoverD, hu, Try.ntmps18, Exit.thenS]
  refine wpS_cond (t := false) (by simp [Act.eval, Array.replicate]) ?_
  simp only [Bool.false_eq_true, if_false]
  refine wpS_of_wp (wp_skip ?_)
  cases c₀
  simp_all [bodyPostS, results, Try.results18]
theorem heap_old {w : World} {o : Obj} {k : Nat} {x : Obj} (h : w.heap[k]? = some x) : (w.alloc o).heap[k]? = some x := (((Below.refl _ _).alloc (Nat.le_refl _) o : Below w.heap.size w (w.alloc o)).block k (Rv.lt_of_blk h)).trans h
theorem three_blocks (w : World) (x y z : Obj) : (((w.alloc x).alloc y).alloc z).heap[w.heap.size]? = some x ∧ (((w.alloc x).alloc y).alloc z).heap[w.heap.size + 1]? = some y ∧ (((w.alloc x).alloc y).alloc z).heap[w.heap.size + 1 + 1]? = some z ∧ (((w.alloc x).alloc y).alloc z).heap.size = w.heap.size + 1 + 1 + 1 := by
  have e1 : (w.alloc x).heap.size = w.heap.size + 1 := by simp
  have e2 : ((w.alloc x).alloc y).heap.size = w.heap.size + 1 + 1 := by simp
  refine ⟨heap_old (heap_old (heap_alloc_new _ _)), heap_old ?_, ?_, by simp⟩
  · rw [← e1]; exact heap_alloc_new _ _
  · rw [← e2]; exact heap_alloc_new _ _
theorem below3 (w : World) (x y z : Obj) : Below w.heap.size w (((w.alloc x).alloc y).alloc z) := (((Below.refl _ _).alloc (Nat.le_refl _) x).alloc (by simp) y).alloc (by simp; omega) z
theorem jsov_any (t1 t2 : J) (p q : Nat → Prop) (v1 v2 : Value) (w : World) (hw1 : Wf t1) (hw2 : Wf t2) (hj1 : NN p w t1 v1) (hj2 : NN q w t2 v2) : Calls Try.prog 9 #[v1, v2] w fun e w' => e = .returned (.tuple #[.bool (mtJ t1 t2), .bool true]) ∧ Below w.heap.size w w' := by
  have HM := Lib.hid (fun (W : World) (p q : Nat → Prop) (u1 u2 : Value) (h1 : IV p W t1 u1) (h2 : IV q W t2 u2) (c1 : u1.cells = #[u1] ∧ u1.oneCell' = true) (c2 : u2.cells = #[u2] ∧ u2.oneCell' = true) => door_any t1 t2 p q u1 u2 W hw1 hw2 h1 h2 c1 c2)
  generalize mtJ t1 t2 = m at *
  obtain ⟨A1, c1, B1, d1, rfl, _⟩ := hj1.five
  obtain ⟨A2, c2, B2, d2, rfl, _⟩ := hj2.five
  have HB3 := Lib.hid (three_blocks w (.cells #[.int .i64 t1.k, .int .u64 (nb t1.k t1.n), .string t1.s, .slice A1 t1.ns.length c1, .slice B1 t1.is.length d1] 32) (.cells #[.int .i64 t2.k, .int .u64 (nb t2.k t2.n), .string t2.s, .slice A2 t2.ns.length c2, .slice B2 t2.is.length d2] 32) (.cells #[.bool false] 4))
  have HX := Lib.hid (below3 w (.cells #[.int .i64 t1.k, .int .u64 (nb t1.k t1.n), .string t1.s, .slice A1 t1.ns.length c1, .slice B1 t1.is.length d1] 32) (.cells #[.int .i64 t2.k, .int .u64 (nb t2.k t2.n), .string t2.s, .slice A2 t2.ns.length c2, .slice B2 t2.is.length d2] 32) (.cells #[.bool false] 4))
  have HJ1 := Lib.hid (hj1.below HX.out)
  have HJ2 := Lib.hid (hj2.below HX.out)
  have HW1 := Lib.hid hw1
  have HW2 := Lib.hid hw2
  clear hj1 hj2 hw1 hw2
  go_enter_defers Try.func9, Try.ntmps9
  go_upto_region 2 with fail
  generalize (((w.alloc (.cells #[.int .i64 t1.k, .int .u64 (nb t1.k t1.n), .string t1.s, .slice A1 t1.ns.length c1, .slice B1 t1.is.length d1] 32)).alloc (.cells #[.int .i64 t2.k, .int .u64 (nb t2.k t2.n), .string t2.s, .slice A2 t2.ns.length c2, .slice B2 t2.is.length d2] 32)).alloc (.cells #[.bool false] 4)) = X at *
  have HG1 := Lib.hid HB3.out.1
  have HG2 := Lib.hid HB3.out.2.1
  have HG3 := Lib.hid HB3.out.2.2.1
  have hg1 := Rv.lt_of_blk HG1.out
  have hg2 := Rv.lt_of_blk HG2.out
  have hg3 := Rv.lt_of_blk HG3.out
  clear HB3
  refine wp_region_noPanic ?_
  refine Rv.region_fin2 (n := 11) (by kernel_rfl) #[6, 7, 8, 9, 10, 4, 1006] #[] (fun i f W => if i = 6 then (fun f W => W.heap[w.heap.size + 1 + 1]? = some (.cells #[.bool true] 4 (0, 0))) f W else if i = 3 then (fun f W => IV (fun x => w.heap.size ≤ x) W t2 (f 3) ∧ ((f 3).cells = #[(f 3)] ∧ (f 3).oneCell' = true)) f W else if i = 1 then (fun f W => IV (fun x => w.heap.size ≤ x) W t1 (f 1) ∧ ((f 1).cells = #[(f 1)] ∧ (f 1).oneCell' = true)) f W else f i = (#[.agg #[.int .i64 t1.k, .int .u64 (nb t1.k t1.n), .string t1.s, .slice A1 t1.ns.length c1, .slice B1 t1.is.length d1], undef, .agg #[.int .i64 t2.k, .int .u64 (nb t2.k t2.n), .string t2.s, .slice A2 t2.ns.length c2, .slice B2 t2.is.length d2], undef, .bool m, .bool m, undef] : Array Value).getD i undef) (fun i j => (i == 6 && (j == 1 || j == 3))) (fun i => i == 6) (fun i => i == 6) (fun i f W W' => True) (fun W => Below w.heap.size w W) (fun W => Below X.heap.size X W) (fun _ _ _ => True) (fun _ _ _ _ _ _ _ _ => trivial) (fun i f f' w hi h hd hg => ?_) (fun i j f w w' hi hj hij hK hdp h hr => ?_) (fun i h g b hg => ?_) rfl (by kernel_rfl) (fun i h g b hg => ?_) (HX.out.drew) ((Below.refl _ _).drew) (fun _ => trivial) (fun i h hr f w hf => ?_) (fun _ _ _ _ _ _ _ _ => trivial) ?_ ?_
  · by_cases hi1006 : i = 6
    · subst hi1006
      rw [if_pos rfl] at hg ⊢
      exact hg
    rw [if_neg hi1006] at hg ⊢
    by_cases hi9 : i = 3
    · subst hi9
      rw [if_pos rfl] at hg ⊢
      have hz := hg
      rw [h] at hz
      exact hz
    rw [if_neg hi9] at hg ⊢
    by_cases hi7 : i = 1
    · subst hi7
      rw [if_pos rfl] at hg ⊢
      have hz := hg
      rw [h] at hz
      exact hz
    rw [if_neg hi7] at hg ⊢
    rw [← h]; exact hg
  · by_cases hj1006 : j = 6
    · subst hj1006
      rw [if_pos rfl] at h ⊢
      rcases hr with ⟨hK1, hr⟩ | hr
      · have e : i = 6 := by simpa using hK1
        exact absurd e hij
      · exact (hr.block _ (Rv.lt_of_blk h)).trans h
    rw [if_neg hj1006] at h ⊢
    by_cases hj9 : j = 3
    · subst hj9
      rw [if_pos rfl] at h ⊢
      rcases hr with ⟨hK1, hr⟩ | hr
      · have e : i = 6 := by simpa using hK1
        subst e; exfalso; revert hK; decide
      · exact ⟨h.1.below hr, h.2⟩
    rw [if_neg hj9] at h ⊢
    by_cases hj7 : j = 1
    · subst hj7
      rw [if_pos rfl] at h ⊢
      rcases hr with ⟨hK1, hr⟩ | hr
      · have e : i = 6 := by simpa using hK1
        subst e; exfalso; revert hK; decide
      · exact ⟨h.1.below hr, h.2⟩
    rw [if_neg hj7] at h ⊢
    exact h
  · match i, h, hg with
    | 0, _, hg => cases hg
    | 1, _, hg => cases hg
    | 2, _, hg => cases hg
    | 3, _, hg => cases hg
    | 4, _, hg => cases hg
    | 5, _, hg => cases hg
    | 6, _, hg => cases hg
    | m + 7, h, _ => exact absurd h (by show ¬ m + 7 < 7; omega)
  · match i, h, hg with
    | 0, _, hg => cases hg
    | 1, _, hg => cases hg
    | 2, _, hg => cases hg
    | 3, _, hg => cases hg
    | 4, _, hg => cases hg
    | 5, _, hg => cases hg
    | 6, _, hg => cases hg
    | m + 7, h, _ => exact absurd h (by show ¬ m + 7 < 7; omega)
  · match i, h, hr, hf with
    | 0, _, hr, _ => exact Bool.noConfusion (show true = false from hr)
    | 1, _, hr, _ => exact Bool.noConfusion (show true = false from hr)
    | 2, _, hr, _ => exact Bool.noConfusion (show true = false from hr)
    | 3, _, hr, _ => exact Bool.noConfusion (show true = false from hr)
    | 4, _, hr, _ => exact Bool.noConfusion (show true = false from hr)
    | 5, _, hr, _ => exact Bool.noConfusion (show true = false from hr)
    | 6, _, hr, _ => exact Bool.noConfusion (show true = false from hr)
    | m + 7, h, _, _ => exact absurd h (by show ¬ m + 7 < 7; omega)
  · intro i h a W hrun hbase hpre hdep htr hta hJ
    match i, h with
    | 0, _ =>
      obtain ⟨e2, x2⟩ := Rv.ev (show a.tmps.getD 2 undef = .pointer (some ⟨w.heap.size, 0, none⟩) from hbase 2 rfl)
      obtain ⟨y0, y1, y2, y3, y4⟩ := Rv.cells5 (((hta (by decide)).block _ hg1).trans HG1.out)
      exact Rv.step_op (op := Go.Op.load 32 (Go.Operand.tmp 2)) (v := .agg #[.int .i64 t1.k, .int .u64 (nb t1.k t1.n), .string t1.s, .slice A1 t1.ns.length c1, .slice B1 t1.is.length d1]) (w1 := W) rfl rfl (fun d pos aft g => by unfold execOp; go_simp) ⟨_, rfl, rfl, .inr (Below.refl _ _), htr, fun _ ht => ht, fun _ _ _ => trivial⟩
    | 1, _ =>
      obtain ⟨e6, x6⟩ := Rv.ev (show a.tmps.getD 6 undef = .agg #[.int .i64 t1.k, .int .u64 (nb t1.k t1.n), .string t1.s, .slice A1 t1.ns.length c1, .slice B1 t1.is.length d1] from hdep 0 rfl rfl)
      have cf : ∀ x0 W, (callFunc 16 #[x0]).run Try.prog W = .ok (.enter 16 #[x0]) W := fun _ _ => by kernel_rfl
      refine Rv.step_fn (op := Go.Op.call { callee := Go.Callee.value (Go.Operand.func 16), args := #[Go.Operand.tmp 6], argTypes := #[32] }) (ty := 20) (f := 16) (args := #[.agg #[.int .i64 t1.k, .int .u64 (nb t1.k t1.n), .string t1.s, .slice A1 t1.ns.length c1, .slice B1 t1.is.length d1]]) (R := fun v W' => (IV (fun x => w.heap.size ≤ x) W' t1 v ∧ (v.cells = #[v] ∧ v.oneCell' = true)) ∧ Below W.heap.size W W') rfl rfl (fun d pos aft g => by unfold execOp; go_simp) ((val_any t1 _ _ W HW1.out (HJ1.out.below (hta (by decide)))).mono ?_) ?_
      · (rintro e W' ⟨u, rfl, hu, hc, hb⟩; exact ⟨_, rfl, ⟨hu.weak (fun x _ hx => Nat.le_trans htr.size hx), hc⟩, hb⟩)
      · (rintro v W' ⟨hv, hb⟩; exact ⟨_, rfl, hv, .inr hb, htr.trans (hb.mono htr.size), (fun _ ht => ht.trans (hb.mono ht.size)), fun _ _ _ => trivial⟩)
    | 2, _ =>
      obtain ⟨e3, x3⟩ := Rv.ev (show a.tmps.getD 3 undef = .pointer (some ⟨w.heap.size + 1, 0, none⟩) from hbase 3 rfl)
      obtain ⟨y0, y1, y2, y3, y4⟩ := Rv.cells5 (((hta (by decide)).block _ hg2).trans HG2.out)
      exact Rv.step_op (op := Go.Op.load 32 (Go.Operand.tmp 3)) (v := .agg #[.int .i64 t2.k, .int .u64 (nb t2.k t2.n), .string t2.s, .slice A2 t2.ns.length c2, .slice B2 t2.is.length d2]) (w1 := W) rfl rfl (fun d pos aft g => by unfold execOp; go_simp) ⟨_, rfl, rfl, .inr (Below.refl _ _), htr, fun _ ht => ht, fun _ _ _ => trivial⟩
    | 3, _ =>
      obtain ⟨e8, x8⟩ := Rv.ev (show a.tmps.getD 8 undef = .agg #[.int .i64 t2.k, .int .u64 (nb t2.k t2.n), .string t2.s, .slice A2 t2.ns.length c2, .slice B2 t2.is.length d2] from hdep 2 rfl rfl)
      have cf : ∀ x0 W, (callFunc 16 #[x0]).run Try.prog W = .ok (.enter 16 #[x0]) W := fun _ _ => by kernel_rfl
      refine Rv.step_fn (op := Go.Op.call { callee := Go.Callee.value (Go.Operand.func 16), args := #[Go.Operand.tmp 8], argTypes := #[32] }) (ty := 20) (f := 16) (args := #[.agg #[.int .i64 t2.k, .int .u64 (nb t2.k t2.n), .string t2.s, .slice A2 t2.ns.length c2, .slice B2 t2.is.length d2]]) (R := fun v W' => (IV (fun x => w.heap.size ≤ x) W' t2 v ∧ (v.cells = #[v] ∧ v.oneCell' = true)) ∧ Below W.heap.size W W') rfl rfl (fun d pos aft g => by unfold execOp; go_simp) ((val_any t2 _ _ W HW2.out (HJ2.out.below (hta (by decide)))).mono ?_) ?_
      · (rintro e W' ⟨u, rfl, hu, hc, hb⟩; exact ⟨_, rfl, ⟨hu.weak (fun x _ hx => Nat.le_trans htr.size hx), hc⟩, hb⟩)
      · (rintro v W' ⟨hv, hb⟩; exact ⟨_, rfl, hv, .inr hb, htr.trans (hb.mono htr.size), (fun _ ht => ht.trans (hb.mono ht.size)), fun _ _ _ => trivial⟩)
    | 4, _ =>
      obtain ⟨n7, k7⟩ : IV (fun x => w.heap.size ≤ x) W t1 (a.tmps.getD 7 undef) ∧ ((a.tmps.getD 7 undef).cells = #[(a.tmps.getD 7 undef)] ∧ (a.tmps.getD 7 undef).oneCell' = true) := hdep 1 rfl rfl
      obtain ⟨v7, q7⟩ : ∃ v, a.tmps.getD 7 undef = v := ⟨_, rfl⟩
      rw [q7] at n7 k7
      obtain ⟨e7, x7⟩ := Rv.ev q7
      obtain ⟨n9, k9⟩ : IV (fun x => w.heap.size ≤ x) W t2 (a.tmps.getD 9 undef) ∧ ((a.tmps.getD 9 undef).cells = #[(a.tmps.getD 9 undef)] ∧ (a.tmps.getD 9 undef).oneCell' = true) := hdep 3 rfl rfl
      obtain ⟨v9, q9⟩ : ∃ v, a.tmps.getD 9 undef = v := ⟨_, rfl⟩
      rw [q9] at n9 k9
      obtain ⟨e9, x9⟩ := Rv.ev q9
      have cf : ∀ x0 x1 W, (callFunc 19 #[x0, x1]).run Try.prog W = .ok (.enter 19 #[x0, x1]) W := fun _ _ _ => by kernel_rfl
      refine Rv.step_fn (op := Go.Op.call { callee := Go.Callee.value (Go.Operand.func 19), args := #[Go.Operand.tmp 7, Go.Operand.tmp 9], argTypes := #[20, 20] }) (ty := 4) (f := 19) (args := #[v7, v9]) (R := fun v W' => v = .bool m ∧ Below W.heap.size W W') rfl rfl (fun d pos aft g => by unfold execOp; go_simp) ((HM.out W _ _ _ _ n7 n9 k7 k9).mono ?_) ?_
      · (rintro e W' ⟨rfl, hb⟩; exact ⟨_, rfl, rfl, hb⟩)
      · (rintro v W' ⟨rfl, hb⟩; exact ⟨_, rfl, rfl, .inr hb, htr.trans (hb.mono htr.size), (fun _ ht => ht.trans (hb.mono ht.size)), fun _ _ _ => trivial⟩)
    | 5, _ =>
      obtain ⟨e10, x10⟩ := Rv.ev (show a.tmps.getD 10 undef = .bool m from hdep 4 rfl rfl)
      exact Rv.step_op (op := Go.Op.assign (Go.Operand.tmp 10)) (v := .bool m) (w1 := W) rfl rfl (fun d pos aft g => by unfold execOp; go_simp) ⟨_, rfl, rfl, .inr (Below.refl _ _), htr, fun _ ht => ht, fun _ _ _ => trivial⟩
    | 6, _ =>
      obtain ⟨e5, x5⟩ := Rv.ev (show a.tmps.getD 5 undef = .pointer (some ⟨w.heap.size + 1 + 1, 0, none⟩) from hbase 5 rfl)
      have hq := ((hta (by decide)).block _ hg3).trans HG3.out
      have s0 := Rv.cells1 hq
      have t0 := Rv.frozen1 hq
      exact Rv.step_skip (op := Go.Op.store 4 (Go.Operand.tmp 5) (Go.Operand.const (Go.Value.bool true))) (ty := 0) (w1 := W.setCell ⟨w.heap.size + 1 + 1, 0, none⟩ (.bool true)) rfl rfl (fun d pos aft g => by unfold execOp; go_simp) ⟨undef, rfl, Rv.sets1 hq _, .inl ⟨rfl, trivial⟩, Rv.belows1 htr (by omega) _, (fun h _ => by cases h), fun _ _ _ => trivial⟩
    | m + 7, h => exact absurd h (by show ¬ m + 7 < 7; omega)
  intro W f hf htr hJ
  have f0 : f 0 = .agg #[.int .i64 t1.k, .int .u64 (nb t1.k t1.n), .string t1.s, .slice A1 t1.ns.length c1, .slice B1 t1.is.length d1] := hf 0 (by show 0 < 7; omega) rfl
  have f2 : f 2 = .agg #[.int .i64 t2.k, .int .u64 (nb t2.k t2.n), .string t2.s, .slice A2 t2.ns.length c2, .slice B2 t2.is.length d2] := hf 2 (by show 2 < 7; omega) rfl
  have f4 : f 4 = .bool m := hf 4 (by show 4 < 7; omega) rfl
  have f5 : f 5 = .bool m := hf 5 (by show 5 < 7; omega) rfl
  have HS6 := Lib.hid (show (fun f W => W.heap[w.heap.size + 1 + 1]? = some (.cells #[.bool true] 4 (0, 0))) f W from hf 6 (by show 6 < 7; omega) rfl)
  clear hf
  refine (show ∀ (a : Act) (w : World), Code.wp _ _ _ a w → _ from by assumption) _ _ ?_
  refine Rv.fin_swap (L' := [(6, f 0), (7, f 1), (8, f 2), (9, f 3), (10, f 4), (4, f 5), (1006, f 6)]) rfl ?_
  rw [f0, f2, f4, f5]
  clear f0 f2 f4 f5
  simp only [Rv.fin, List.foldl_cons, List.foldl_nil, Act.put, List.setIfInBounds_toArray, List.set_cons_succ, List.set_cons_zero, List.set_nil]
  have q4 := Rv.cells1 HS6.out
  have HBW := Lib.hid htr
  go_wp2
  refine leaves_cons (f := 18) (args := #[.pointer (some ⟨w.heap.size + 1 + 1, 0, none⟩)]) (by simp) (by simp [go_sem]) ?_
  refine (caught_idle ⟨w.heap.size + 1 + 1, 0, none⟩ _).mono ?_
  rintro e u' w'' ⟨rfl, rfl, rfl⟩
  simp [Leaves, settle, results, go_sem, q4]
  exact HBW.out
theorem law4_any (A : Option Addr) (la ca : Nat) (za : List Int) (B : Option Addr) (lb cb : Nat) (zb : List Int) (w : World) (ha : IsRow .u8 w A la ca za) (hb : IsRow .u8 w B lb cb zb) :
    Calls Try.prog 4 #[.slice A la ca, .slice B lb cb] w fun e w' => e = .returned (.bool true) ∧ Below w.heap.size w w' := by
  have ba := ha.rd.1.le
  have bb := hb.rd.1.le
  by_cases sa : la ≤ 2147483647
  case neg =>
    go_enter Try.func4, Try.ntmps4
    go_wp2
    go_ret
    exact ⟨rfl, Below.refl _ _⟩
  by_cases sb : lb ≤ 2147483647
  case neg =>
    go_enter Try.func4, Try.ntmps4
    go_wp2
    go_ret
    exact ⟨rfl, Below.refl _ _⟩
  have ra := ha.rd
  have rb := hb.rd
  have u8 : ∀ z : Int, (Lit.int .u8 z).wf = true → 0 ≤ z ∧ z ≤ 255 := fun z h => bounds_u8 h
  have OA := Lib.hid (of_any w A la ca (za.take la) ra.1 (fun z hz => u8 z (ra.2 z (List.mem_of_mem_take hz))))
  have OB := Lib.hid (fun (W : World) (h : Below w.heap.size w W) => of_any W B lb cb (zb.take lb) (rb.1.below h) (fun z hz => u8 z (rb.2 z (List.mem_of_mem_take hz))))
  clear ra rb u8 ha hb
  go_enter Try.func4, Try.ntmps4
  go_upto_region 4 with (first
    | (go_at_call 6; (with_reducible refine OA.out.mono ?_); rintro e w1 ⟨v1, t1, rfl, hw, hj, hb⟩; obtain ⟨A1, c1, B1, d1, rfl, _⟩ := hj.five; have HJ1 := Lib.hid hj; have HW1 := Lib.hid hw; have HB1 := Lib.hid hb; clear hw hj hb)
    | (go_at_call 6; (with_reducible refine (OB.out w1 HB1.out).mono ?_); rintro e w2 ⟨v2, t2, rfl, hw, hj, hb⟩; obtain ⟨A2, c2, B2, d2, rfl, _⟩ := hj.five; have HJ2 := Lib.hid hj; have HW2 := Lib.hid hw; have HB2 := Lib.hid (HB1.out.trans (hb.mono HB1.out.size)); have HJ12 := Lib.hid (HJ1.out.below hb); clear hw hj hb))
  have hba := (Below.refl w2.heap.size w2).alloc (Nat.le_refl _) (.cells #[.int .i64 t1.k, .int .i64 t1.n, .string t1.s, .slice A1 t1.ns.length c1, .slice B1 t1.is.length d1] 26)
  have hbb := (Below.refl (w2.alloc (.cells #[.int .i64 t1.k, .int .i64 t1.n, .string t1.s, .slice A1 t1.ns.length c1, .slice B1 t1.is.length d1] 26)).heap.size (w2.alloc (.cells #[.int .i64 t1.k, .int .i64 t1.n, .string t1.s, .slice A1 t1.ns.length c1, .slice B1 t1.is.length d1] 26))).alloc (Nat.le_refl _) (.cells #[.int .i64 t2.k, .int .i64 t2.n, .string t2.s, .slice A2 t2.ns.length c2, .slice B2 t2.is.length d2] 26)
  have hn1 := heap_alloc_new w2 (.cells #[.int .i64 t1.k, .int .i64 t1.n, .string t1.s, .slice A1 t1.ns.length c1, .slice B1 t1.is.length d1] 26)
  have hsz1 : (w2.alloc (.cells #[.int .i64 t1.k, .int .i64 t1.n, .string t1.s, .slice A1 t1.ns.length c1, .slice B1 t1.is.length d1] 26)).heap.size = w2.heap.size + 1 := by simp
  have hn2 := heap_alloc_new (w2.alloc (.cells #[.int .i64 t1.k, .int .i64 t1.n, .string t1.s, .slice A1 t1.ns.length c1, .slice B1 t1.is.length d1] 26)) (.cells #[.int .i64 t2.k, .int .i64 t2.n, .string t2.s, .slice A2 t2.ns.length c2, .slice B2 t2.is.length d2] 26)
  have hXB := hba.trans (hbb.mono hba.size)
  have HG1 := Lib.hid ((hbb.block _ (Rv.lt_of_blk hn1)).trans hn1)
  rw [hsz1] at hn2
  have HG2 := Lib.hid hn2
  have HJ1 := Lib.hid (HJ12.out.below hXB)
  have HJ2 := Lib.hid (HJ2.out.below hXB)
  have HXW := Lib.hid (HB2.out.trans (hXB.mono HB2.out.size))
  clear hba hbb hn1 hsz1 hn2 hXB HJ12 HB1 HB2 OA OB
  have HM4 := Lib.hid (fun (W : World) (p q : Nat → Prop) (u1 u2 : Value) (h1 : NN p W t1 u1) (h2 : NN q W t2 u2) => jsov_any t1 t2 p q u1 u2 W HW1.out HW2.out h1 h2)
  have HM5 := Lib.hid (fun (W : World) (p q : Nat → Prop) (u2 u1 : Value) (h2 : NN p W t2 u2) (h1 : NN q W t1 u1) => jsov_any t2 t1 p q u2 u1 W HW2.out HW1.out h2 h1)
  rw [mt_comm t2 t1 HW2.out HW1.out] at HM5
  have HM6 := Lib.hid (fun (W : World) (p q : Nat → Prop) (u1 u2 : Value) (h1 : JN p W t1 u1) (h2 : JN q W t2 u2) => meets_any t1 t2 p q u1 u2 W HW1.out HW2.out h1 h2)
  generalize mtJ t1 t2 = m at *
  generalize (w2.alloc (.cells #[.int .i64 t1.k, .int .i64 t1.n, .string t1.s, .slice A1 t1.ns.length c1, .slice B1 t1.is.length d1] 26)).alloc (.cells #[.int .i64 t2.k, .int .i64 t2.n, .string t2.s, .slice A2 t2.ns.length c2, .slice B2 t2.is.length d2] 26) = X at *
  have hg1 := Rv.lt_of_blk HG1.out
  have hg2 := Rv.lt_of_blk HG2.out
  generalize w2.heap.size + 1 = g2 at *
  generalize w2.heap.size = g1 at *
  refine Rv.region_goods (n := 55) (by kernel_rfl) #[24, 25, 26, 27, 28, 23, 29, 30, 7, 8] #[] (fun i v W => if i = 3 then (fun v W => NN (fun x => X.heap.size ≤ x) W t2 v) v W else if i = 1 then (fun v W => NN (fun x => X.heap.size ≤ x) W t1 v) v W else v = (#[.agg #[.int .i64 t1.k, .int .i64 t1.n, .string t1.s, .slice A1 t1.ns.length c1, .slice B1 t1.is.length d1], undef, .agg #[.int .i64 t2.k, .int .i64 t2.n, .string t2.s, .slice A2 t2.ns.length c2, .slice B2 t2.is.length d2], undef, .tuple #[.bool m, .bool true], .tuple #[.bool m, .bool true], .bool m, .bool true, .bool m, .bool true] : Array Value).getD i undef) (fun i v w w' h hb => ?_) (fun i h g b hg => ?_) rfl (by kernel_rfl) (by kernel_rfl) (fun i h hr w => ?_) ?_ ?_
  · by_cases hi27 : i = 3
    · subst hi27
      rw [if_pos rfl] at h ⊢
      exact (fun v w w' h hb => h.below hb) v w w' h hb
    rw [if_neg hi27] at h ⊢
    by_cases hi25 : i = 1
    · subst hi25
      rw [if_pos rfl] at h ⊢
      exact (fun v w w' h hb => h.below hb) v w w' h hb
    rw [if_neg hi25] at h ⊢
    exact h
  · match i, h, hg with
    | 0, _, hg => cases hg
    | 1, _, hg => cases hg
    | 2, _, hg => cases hg
    | 3, _, hg => cases hg
    | 4, _, hg => cases hg
    | 5, _, hg => cases hg
    | 6, _, hg => cases hg
    | 7, _, hg => cases hg
    | 8, _, hg => cases hg
    | 9, _, hg => cases hg
    | m + 10, h, _ => exact absurd h (by show ¬ m + 10 < 10; omega)
  · match i, h, hr with
    | 0, _, hr => exact Bool.noConfusion (show true = false from hr)
    | 1, _, hr => exact Bool.noConfusion (show true = false from hr)
    | 2, _, hr => exact Bool.noConfusion (show true = false from hr)
    | 3, _, hr => exact Bool.noConfusion (show true = false from hr)
    | 4, _, hr => exact Bool.noConfusion (show true = false from hr)
    | 5, _, hr => exact Bool.noConfusion (show true = false from hr)
    | 6, _, hr => exact Bool.noConfusion (show true = false from hr)
    | 7, _, hr => exact Bool.noConfusion (show true = false from hr)
    | 8, _, hr => exact Bool.noConfusion (show true = false from hr)
    | 9, _, hr => exact Bool.noConfusion (show true = false from hr)
    | m + 10, h, _ => exact absurd h (by show ¬ m + 10 < 10; omega)
  · intro i h a W hrun hbase hpre hdep htr
    match i, h with
    | 0, _ =>
      obtain ⟨e5, x5⟩ := Rv.ev (show a.tmps.getD 5 undef = .pointer (some ⟨g1, 0, none⟩) from hbase 5 rfl)
      obtain ⟨y0, y1, y2, y3, y4⟩ := Rv.cells5 ((htr.block _ hg1).trans HG1.out)
      exact Rv.step_op (op := Go.Op.load 26 (Go.Operand.tmp 5)) (v := .agg #[.int .i64 t1.k, .int .i64 t1.n, .string t1.s, .slice A1 t1.ns.length c1, .slice B1 t1.is.length d1]) (w1 := W) rfl rfl (fun d pos aft g => by unfold execOp; go_simp) ⟨_, rfl, rfl, Below.refl _ _⟩
    | 1, _ =>
      obtain ⟨e24, x24⟩ := Rv.ev (show a.tmps.getD 24 undef = .agg #[.int .i64 t1.k, .int .i64 t1.n, .string t1.s, .slice A1 t1.ns.length c1, .slice B1 t1.is.length d1] from hdep 0 rfl)
      have cf : ∀ x0 W, (callFunc 8 #[x0]).run Try.prog W = .ok (.enter 8 #[x0]) W := fun _ _ => by kernel_rfl
      refine Rv.step_fn (op := Go.Op.call { callee := Go.Callee.value (Go.Operand.func 8), args := #[Go.Operand.tmp 24], argTypes := #[26] }) (ty := 32) (f := 8) (args := #[.agg #[.int .i64 t1.k, .int .i64 t1.n, .string t1.s, .slice A1 t1.ns.length c1, .slice B1 t1.is.length d1]]) (R := fun v W' => NN (fun x => X.heap.size ≤ x) W' t1 v ∧ Below W.heap.size W W') rfl rfl (fun d pos aft g => by unfold execOp; go_simp) ((in_any t1 _ _ W HW1.out (HJ1.out.below htr)).mono ?_) ?_
      · (rintro e W' ⟨u, rfl, hu, hb⟩; exact ⟨_, rfl, hu.weak (fun x _ hx => Nat.le_trans htr.size hx), hb⟩)
      · (rintro v W' ⟨hu, hb⟩; exact ⟨_, rfl, hu, hb⟩)
    | 2, _ =>
      obtain ⟨e6, x6⟩ := Rv.ev (show a.tmps.getD 6 undef = .pointer (some ⟨g2, 0, none⟩) from hbase 6 rfl)
      obtain ⟨y0, y1, y2, y3, y4⟩ := Rv.cells5 ((htr.block _ hg2).trans HG2.out)
      exact Rv.step_op (op := Go.Op.load 26 (Go.Operand.tmp 6)) (v := .agg #[.int .i64 t2.k, .int .i64 t2.n, .string t2.s, .slice A2 t2.ns.length c2, .slice B2 t2.is.length d2]) (w1 := W) rfl rfl (fun d pos aft g => by unfold execOp; go_simp) ⟨_, rfl, rfl, Below.refl _ _⟩
    | 3, _ =>
      obtain ⟨e26, x26⟩ := Rv.ev (show a.tmps.getD 26 undef = .agg #[.int .i64 t2.k, .int .i64 t2.n, .string t2.s, .slice A2 t2.ns.length c2, .slice B2 t2.is.length d2] from hdep 2 rfl)
      have cf : ∀ x0 W, (callFunc 8 #[x0]).run Try.prog W = .ok (.enter 8 #[x0]) W := fun _ _ => by kernel_rfl
      refine Rv.step_fn (op := Go.Op.call { callee := Go.Callee.value (Go.Operand.func 8), args := #[Go.Operand.tmp 26], argTypes := #[26] }) (ty := 32) (f := 8) (args := #[.agg #[.int .i64 t2.k, .int .i64 t2.n, .string t2.s, .slice A2 t2.ns.length c2, .slice B2 t2.is.length d2]]) (R := fun v W' => NN (fun x => X.heap.size ≤ x) W' t2 v ∧ Below W.heap.size W W') rfl rfl (fun d pos aft g => by unfold execOp; go_simp) ((in_any t2 _ _ W HW2.out (HJ2.out.below htr)).mono ?_) ?_
      · (rintro e W' ⟨u, rfl, hu, hb⟩; exact ⟨_, rfl, hu.weak (fun x _ hx => Nat.le_trans htr.size hx), hb⟩)
      · (rintro v W' ⟨hu, hb⟩; exact ⟨_, rfl, hu, hb⟩)
    | 4, _ =>
      have n25 : NN (fun x => X.heap.size ≤ x) W t1 (a.tmps.getD 25 undef) := hdep 1 rfl
      obtain ⟨v25, q25⟩ : ∃ v, a.tmps.getD 25 undef = v := ⟨_, rfl⟩
      rw [q25] at n25
      obtain ⟨e25, x25⟩ := Rv.ev q25
      have n27 : NN (fun x => X.heap.size ≤ x) W t2 (a.tmps.getD 27 undef) := hdep 3 rfl
      obtain ⟨v27, q27⟩ : ∃ v, a.tmps.getD 27 undef = v := ⟨_, rfl⟩
      rw [q27] at n27
      obtain ⟨e27, x27⟩ := Rv.ev q27
      have cf : ∀ x0 x1 W, (callFunc 9 #[x0, x1]).run Try.prog W = .ok (.enter 9 #[x0, x1]) W := fun _ _ _ => by kernel_rfl
      refine Rv.step_fn (op := Go.Op.call { callee := Go.Callee.value (Go.Operand.func 9), args := #[Go.Operand.tmp 25, Go.Operand.tmp 27], argTypes := #[32, 32] }) (ty := 35) (f := 9) (args := #[v25, v27]) (R := fun v W' => v = .tuple #[.bool m, .bool true] ∧ Below W.heap.size W W') rfl rfl (fun d pos aft g => by unfold execOp; go_simp) ((HM4.out W _ _ _ _ n25 n27).mono ?_) ?_
      · (rintro e W' ⟨rfl, hb⟩; exact ⟨_, rfl, rfl, hb⟩)
      · (rintro v W' ⟨rfl, hb⟩; exact ⟨_, rfl, rfl, hb⟩)
    | 5, _ =>
      obtain ⟨e28, x28⟩ := Rv.ev (show a.tmps.getD 28 undef = .tuple #[.bool m, .bool true] from hdep 4 rfl)
      exact Rv.step_op (op := Go.Op.move (Go.Operand.tmp 28)) (v := .tuple #[.bool m, .bool true]) (w1 := W) rfl rfl (fun d pos aft g => by unfold execOp; go_simp) ⟨_, rfl, rfl, Below.refl _ _⟩
    | 6, _ =>
      obtain ⟨e23, x23⟩ := Rv.ev (show a.tmps.getD 23 undef = .tuple #[.bool m, .bool true] from hdep 5 rfl)
      exact Rv.step_op (op := Go.Op.extract (Go.Operand.tmp 23) 0) (v := .bool m) (w1 := W) rfl rfl (fun d pos aft g => by unfold execOp; go_simp) ⟨_, rfl, rfl, Below.refl _ _⟩
    | 7, _ =>
      obtain ⟨e23, x23⟩ := Rv.ev (show a.tmps.getD 23 undef = .tuple #[.bool m, .bool true] from hdep 5 rfl)
      exact Rv.step_op (op := Go.Op.extract (Go.Operand.tmp 23) 1) (v := .bool true) (w1 := W) rfl rfl (fun d pos aft g => by unfold execOp; go_simp) ⟨_, rfl, rfl, Below.refl _ _⟩
    | 8, _ =>
      obtain ⟨e29, x29⟩ := Rv.ev (show a.tmps.getD 29 undef = .bool m from hdep 6 rfl)
      exact Rv.step_op (op := Go.Op.assign (Go.Operand.tmp 29)) (v := .bool m) (w1 := W) rfl rfl (fun d pos aft g => by unfold execOp; go_simp) ⟨_, rfl, rfl, Below.refl _ _⟩
    | 9, _ =>
      obtain ⟨e30, x30⟩ := Rv.ev (show a.tmps.getD 30 undef = .bool true from hdep 7 rfl)
      exact Rv.step_op (op := Go.Op.assign (Go.Operand.tmp 30)) (v := .bool true) (w1 := W) rfl rfl (fun d pos aft g => by unfold execOp; go_simp) ⟨_, rfl, rfl, Below.refl _ _⟩
    | m + 10, h => exact absurd h (by show ¬ m + 10 < 10; omega)
  intro W f hf htr
  have f0 : f 0 = .agg #[.int .i64 t1.k, .int .i64 t1.n, .string t1.s, .slice A1 t1.ns.length c1, .slice B1 t1.is.length d1] := hf 0 (by show 0 < 10; omega)
  have f1 := hf 1 (by show 1 < 10; omega)
  have f2 : f 2 = .agg #[.int .i64 t2.k, .int .i64 t2.n, .string t2.s, .slice A2 t2.ns.length c2, .slice B2 t2.is.length d2] := hf 2 (by show 2 < 10; omega)
  have f3 := hf 3 (by show 3 < 10; omega)
  have f4 : f 4 = .tuple #[.bool m, .bool true] := hf 4 (by show 4 < 10; omega)
  have f5 : f 5 = .tuple #[.bool m, .bool true] := hf 5 (by show 5 < 10; omega)
  have f6 : f 6 = .bool m := hf 6 (by show 6 < 10; omega)
  have f7 : f 7 = .bool true := hf 7 (by show 7 < 10; omega)
  have f8 : f 8 = .bool m := hf 8 (by show 8 < 10; omega)
  have f9 : f 9 = .bool true := hf 9 (by show 9 < 10; omega)
  refine (show ∀ (a : Act) (w : World), Code.wp _ _ _ a w → _ from by assumption) _ _ ?_
  refine Rv.fin_swap (L' := [(24, f 0), (25, f 1), (26, f 2), (27, f 3), (28, f 4), (23, f 5), (29, f 6), (30, f 7), (7, f 8), (8, f 9)]) rfl ?_
  rw [f0, f2, f4, f5, f6, f7, f8, f9]
  clear f0 f2 f4 f5 f6 f7 f8 f9
  simp only [Rv.fin, List.foldl_cons, List.foldl_nil, Act.put, List.setIfInBounds_toArray, List.set_cons_succ, List.set_cons_zero]
  have HXW := Lib.hid (HXW.out.trans (htr.mono HXW.out.size))
  have HG1 := Lib.hid ((htr.block _ hg1).trans HG1.out)
  have HG2 := Lib.hid ((htr.block _ hg2).trans HG2.out)
  have HJ1 := Lib.hid (HJ1.out.below htr)
  have HJ2 := Lib.hid (HJ2.out.below htr)
  have hg1 := Rv.lt_of_blk HG1.out
  have hg2 := Rv.lt_of_blk HG2.out
  clear hf htr HM4 f1 f3
  generalize f 1 = u1
  generalize f 3 = u3
  go_upto_region 5 with fail
  rename World => X1
  generalize X1 = X at *
  refine Rv.region_goods (n := 55) (by kernel_rfl) #[32, 33, 34, 35, 36, 31, 37, 38, 9, 10] #[] (fun i v W => if i = 3 then (fun v W => NN (fun x => X.heap.size ≤ x) W t1 v) v W else if i = 1 then (fun v W => NN (fun x => X.heap.size ≤ x) W t2 v) v W else v = (#[.agg #[.int .i64 t2.k, .int .i64 t2.n, .string t2.s, .slice A2 t2.ns.length c2, .slice B2 t2.is.length d2], undef, .agg #[.int .i64 t1.k, .int .i64 t1.n, .string t1.s, .slice A1 t1.ns.length c1, .slice B1 t1.is.length d1], undef, .tuple #[.bool m, .bool true], .tuple #[.bool m, .bool true], .bool m, .bool true, .bool m, .bool true] : Array Value).getD i undef) (fun i v w w' h hb => ?_) (fun i h g b hg => ?_) rfl (by kernel_rfl) (by kernel_rfl) (fun i h hr w => ?_) ?_ ?_
  · by_cases hi35 : i = 3
    · subst hi35
      rw [if_pos rfl] at h ⊢
      exact (fun v w w' h hb => h.below hb) v w w' h hb
    rw [if_neg hi35] at h ⊢
    by_cases hi33 : i = 1
    · subst hi33
      rw [if_pos rfl] at h ⊢
      exact (fun v w w' h hb => h.below hb) v w w' h hb
    rw [if_neg hi33] at h ⊢
    exact h
  · match i, h, hg with
    | 0, _, hg => cases hg
    | 1, _, hg => cases hg
    | 2, _, hg => cases hg
    | 3, _, hg => cases hg
    | 4, _, hg => cases hg
    | 5, _, hg => cases hg
    | 6, _, hg => cases hg
    | 7, _, hg => cases hg
    | 8, _, hg => cases hg
    | 9, _, hg => cases hg
    | m + 10, h, _ => exact absurd h (by show ¬ m + 10 < 10; omega)
  · match i, h, hr with
    | 0, _, hr => exact Bool.noConfusion (show true = false from hr)
    | 1, _, hr => exact Bool.noConfusion (show true = false from hr)
    | 2, _, hr => exact Bool.noConfusion (show true = false from hr)
    | 3, _, hr => exact Bool.noConfusion (show true = false from hr)
    | 4, _, hr => exact Bool.noConfusion (show true = false from hr)
    | 5, _, hr => exact Bool.noConfusion (show true = false from hr)
    | 6, _, hr => exact Bool.noConfusion (show true = false from hr)
    | 7, _, hr => exact Bool.noConfusion (show true = false from hr)
    | 8, _, hr => exact Bool.noConfusion (show true = false from hr)
    | 9, _, hr => exact Bool.noConfusion (show true = false from hr)
    | m + 10, h, _ => exact absurd h (by show ¬ m + 10 < 10; omega)
  · intro i h a W hrun hbase hpre hdep htr
    match i, h with
    | 0, _ =>
      obtain ⟨e6, x6⟩ := Rv.ev (show a.tmps.getD 6 undef = .pointer (some ⟨g2, 0, none⟩) from hbase 6 rfl)
      obtain ⟨y0, y1, y2, y3, y4⟩ := Rv.cells5 ((htr.block _ hg2).trans HG2.out)
      exact Rv.step_op (op := Go.Op.load 26 (Go.Operand.tmp 6)) (v := .agg #[.int .i64 t2.k, .int .i64 t2.n, .string t2.s, .slice A2 t2.ns.length c2, .slice B2 t2.is.length d2]) (w1 := W) rfl rfl (fun d pos aft g => by unfold execOp; go_simp) ⟨_, rfl, rfl, Below.refl _ _⟩
    | 1, _ =>
      obtain ⟨e32, x32⟩ := Rv.ev (show a.tmps.getD 32 undef = .agg #[.int .i64 t2.k, .int .i64 t2.n, .string t2.s, .slice A2 t2.ns.length c2, .slice B2 t2.is.length d2] from hdep 0 rfl)
      have cf : ∀ x0 W, (callFunc 8 #[x0]).run Try.prog W = .ok (.enter 8 #[x0]) W := fun _ _ => by kernel_rfl
      refine Rv.step_fn (op := Go.Op.call { callee := Go.Callee.value (Go.Operand.func 8), args := #[Go.Operand.tmp 32], argTypes := #[26] }) (ty := 32) (f := 8) (args := #[.agg #[.int .i64 t2.k, .int .i64 t2.n, .string t2.s, .slice A2 t2.ns.length c2, .slice B2 t2.is.length d2]]) (R := fun v W' => NN (fun x => X.heap.size ≤ x) W' t2 v ∧ Below W.heap.size W W') rfl rfl (fun d pos aft g => by unfold execOp; go_simp) ((in_any t2 _ _ W HW2.out (HJ2.out.below htr)).mono ?_) ?_
      · (rintro e W' ⟨u, rfl, hu, hb⟩; exact ⟨_, rfl, hu.weak (fun x _ hx => Nat.le_trans htr.size hx), hb⟩)
      · (rintro v W' ⟨hu, hb⟩; exact ⟨_, rfl, hu, hb⟩)
    | 2, _ =>
      obtain ⟨e5, x5⟩ := Rv.ev (show a.tmps.getD 5 undef = .pointer (some ⟨g1, 0, none⟩) from hbase 5 rfl)
      obtain ⟨y0, y1, y2, y3, y4⟩ := Rv.cells5 ((htr.block _ hg1).trans HG1.out)
      exact Rv.step_op (op := Go.Op.load 26 (Go.Operand.tmp 5)) (v := .agg #[.int .i64 t1.k, .int .i64 t1.n, .string t1.s, .slice A1 t1.ns.length c1, .slice B1 t1.is.length d1]) (w1 := W) rfl rfl (fun d pos aft g => by unfold execOp; go_simp) ⟨_, rfl, rfl, Below.refl _ _⟩
    | 3, _ =>
      obtain ⟨e34, x34⟩ := Rv.ev (show a.tmps.getD 34 undef = .agg #[.int .i64 t1.k, .int .i64 t1.n, .string t1.s, .slice A1 t1.ns.length c1, .slice B1 t1.is.length d1] from hdep 2 rfl)
      have cf : ∀ x0 W, (callFunc 8 #[x0]).run Try.prog W = .ok (.enter 8 #[x0]) W := fun _ _ => by kernel_rfl
      refine Rv.step_fn (op := Go.Op.call { callee := Go.Callee.value (Go.Operand.func 8), args := #[Go.Operand.tmp 34], argTypes := #[26] }) (ty := 32) (f := 8) (args := #[.agg #[.int .i64 t1.k, .int .i64 t1.n, .string t1.s, .slice A1 t1.ns.length c1, .slice B1 t1.is.length d1]]) (R := fun v W' => NN (fun x => X.heap.size ≤ x) W' t1 v ∧ Below W.heap.size W W') rfl rfl (fun d pos aft g => by unfold execOp; go_simp) ((in_any t1 _ _ W HW1.out (HJ1.out.below htr)).mono ?_) ?_
      · (rintro e W' ⟨u, rfl, hu, hb⟩; exact ⟨_, rfl, hu.weak (fun x _ hx => Nat.le_trans htr.size hx), hb⟩)
      · (rintro v W' ⟨hu, hb⟩; exact ⟨_, rfl, hu, hb⟩)
    | 4, _ =>
      have n33 : NN (fun x => X.heap.size ≤ x) W t2 (a.tmps.getD 33 undef) := hdep 1 rfl
      obtain ⟨v33, q33⟩ : ∃ v, a.tmps.getD 33 undef = v := ⟨_, rfl⟩
      rw [q33] at n33
      obtain ⟨e33, x33⟩ := Rv.ev q33
      have n35 : NN (fun x => X.heap.size ≤ x) W t1 (a.tmps.getD 35 undef) := hdep 3 rfl
      obtain ⟨v35, q35⟩ : ∃ v, a.tmps.getD 35 undef = v := ⟨_, rfl⟩
      rw [q35] at n35
      obtain ⟨e35, x35⟩ := Rv.ev q35
      have cf : ∀ x0 x1 W, (callFunc 9 #[x0, x1]).run Try.prog W = .ok (.enter 9 #[x0, x1]) W := fun _ _ _ => by kernel_rfl
      refine Rv.step_fn (op := Go.Op.call { callee := Go.Callee.value (Go.Operand.func 9), args := #[Go.Operand.tmp 33, Go.Operand.tmp 35], argTypes := #[32, 32] }) (ty := 35) (f := 9) (args := #[v33, v35]) (R := fun v W' => v = .tuple #[.bool m, .bool true] ∧ Below W.heap.size W W') rfl rfl (fun d pos aft g => by unfold execOp; go_simp) ((HM5.out W _ _ _ _ n33 n35).mono ?_) ?_
      · (rintro e W' ⟨rfl, hb⟩; exact ⟨_, rfl, rfl, hb⟩)
      · (rintro v W' ⟨rfl, hb⟩; exact ⟨_, rfl, rfl, hb⟩)
    | 5, _ =>
      obtain ⟨e36, x36⟩ := Rv.ev (show a.tmps.getD 36 undef = .tuple #[.bool m, .bool true] from hdep 4 rfl)
      exact Rv.step_op (op := Go.Op.move (Go.Operand.tmp 36)) (v := .tuple #[.bool m, .bool true]) (w1 := W) rfl rfl (fun d pos aft g => by unfold execOp; go_simp) ⟨_, rfl, rfl, Below.refl _ _⟩
    | 6, _ =>
      obtain ⟨e31, x31⟩ := Rv.ev (show a.tmps.getD 31 undef = .tuple #[.bool m, .bool true] from hdep 5 rfl)
      exact Rv.step_op (op := Go.Op.extract (Go.Operand.tmp 31) 0) (v := .bool m) (w1 := W) rfl rfl (fun d pos aft g => by unfold execOp; go_simp) ⟨_, rfl, rfl, Below.refl _ _⟩
    | 7, _ =>
      obtain ⟨e31, x31⟩ := Rv.ev (show a.tmps.getD 31 undef = .tuple #[.bool m, .bool true] from hdep 5 rfl)
      exact Rv.step_op (op := Go.Op.extract (Go.Operand.tmp 31) 1) (v := .bool true) (w1 := W) rfl rfl (fun d pos aft g => by unfold execOp; go_simp) ⟨_, rfl, rfl, Below.refl _ _⟩
    | 8, _ =>
      obtain ⟨e37, x37⟩ := Rv.ev (show a.tmps.getD 37 undef = .bool m from hdep 6 rfl)
      exact Rv.step_op (op := Go.Op.assign (Go.Operand.tmp 37)) (v := .bool m) (w1 := W) rfl rfl (fun d pos aft g => by unfold execOp; go_simp) ⟨_, rfl, rfl, Below.refl _ _⟩
    | 9, _ =>
      obtain ⟨e38, x38⟩ := Rv.ev (show a.tmps.getD 38 undef = .bool true from hdep 7 rfl)
      exact Rv.step_op (op := Go.Op.assign (Go.Operand.tmp 38)) (v := .bool true) (w1 := W) rfl rfl (fun d pos aft g => by unfold execOp; go_simp) ⟨_, rfl, rfl, Below.refl _ _⟩
    | m + 10, h => exact absurd h (by show ¬ m + 10 < 10; omega)
  intro W f hf htr
  have f0 : f 0 = .agg #[.int .i64 t2.k, .int .i64 t2.n, .string t2.s, .slice A2 t2.ns.length c2, .slice B2 t2.is.length d2] := hf 0 (by show 0 < 10; omega)
  have f1 := hf 1 (by show 1 < 10; omega)
  have f2 : f 2 = .agg #[.int .i64 t1.k, .int .i64 t1.n, .string t1.s, .slice A1 t1.ns.length c1, .slice B1 t1.is.length d1] := hf 2 (by show 2 < 10; omega)
  have f3 := hf 3 (by show 3 < 10; omega)
  have f4 : f 4 = .tuple #[.bool m, .bool true] := hf 4 (by show 4 < 10; omega)
  have f5 : f 5 = .tuple #[.bool m, .bool true] := hf 5 (by show 5 < 10; omega)
  have f6 : f 6 = .bool m := hf 6 (by show 6 < 10; omega)
  have f7 : f 7 = .bool true := hf 7 (by show 7 < 10; omega)
  have f8 : f 8 = .bool m := hf 8 (by show 8 < 10; omega)
  have f9 : f 9 = .bool true := hf 9 (by show 9 < 10; omega)
  refine (show ∀ (a : Act) (w : World), Code.wp _ _ _ a w → _ from by assumption) _ _ ?_
  refine Rv.fin_swap (L' := [(32, f 0), (33, f 1), (34, f 2), (35, f 3), (36, f 4), (31, f 5), (37, f 6), (38, f 7), (9, f 8), (10, f 9)]) rfl ?_
  rw [f0, f2, f4, f5, f6, f7, f8, f9]
  clear f0 f2 f4 f5 f6 f7 f8 f9
  simp only [Rv.fin, List.foldl_cons, List.foldl_nil, Act.put, List.setIfInBounds_toArray, List.set_cons_succ, List.set_cons_zero]
  have HXW := Lib.hid (HXW.out.trans (htr.mono HXW.out.size))
  obtain ⟨y0, y1, y2, y3, y4⟩ := Rv.cells5 ((htr.block _ hg1).trans HG1.out)
  obtain ⟨x0, x1, x2, x3, x4⟩ := Rv.cells5 ((htr.block _ hg2).trans HG2.out)
  have HC := Lib.hid (HM6.out W _ _ _ _ (HJ1.out.below htr) (HJ2.out.below htr))
  clear hf htr HM5 HM6 HG1 HG2 HJ1 HJ2 f1 f3
  generalize f 1 = u1'
  generalize f 3 = u3'
  cases m
  all_goals
    go_wp2_with (go_at_call 10; (with_reducible refine HC.out.mono ?_); rintro e w3 ⟨rfl, hb⟩; have HB := Lib.hid (HXW.out.trans (hb.mono HXW.out.size)); clear hb)
    go_ret
    exact ⟨rfl, HB.out⟩
end Go.Proofs.Ytmelgankbegjaaa.Js

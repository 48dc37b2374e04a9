/- Whether two trees meet, as the law reckons it. Conditions: those written at each lemma. -/
import Derived.Test.YtmelgankbegjaaaKc
set_option linter.unusedVariables false
set_option linter.unusedSimpArgs false
set_option maxRecDepth 100000
set_option maxHeartbeats 8000000
namespace Go.Proofs.Ytmelgankbegjaaa.Js
open Go.RowKit Go.Proofs.Ytmelgankbegjaaa.B

/-- Whether two trees have something in common. -/
def mtJ (a b : J) : Bool := if a.k = 5 ∧ b.k = 5 then (List.range a.is.length).any fun i => it a b i else (lsJ a).any fun x => (lsJ b).any fun y => eqJ x y
theorem meets_obj (ta tb : J) (p q : Nat → Prop) (v1 v2 : Value) (w : World) (hwa : Wf ta) (hwb : Wf tb) (hja : JN p w ta v1) (hjb : JN q w tb v2) (hka : ta.k = 5) (hkb : tb.k = 5) : Calls Try.prog 10 #[v1, v2] w fun e w' => e = .returned (.bool (mtJ ta tb)) ∧ Below w.heap.size w w' := by
  obtain ⟨A, c, A2, c2, e1, hna, hsa, hia, hha⟩ := hja.five
  obtain ⟨B, d, B2, d2, e2, hnb, hsb, hib, hhb⟩ := hjb.five
  have HJB0 := Lib.hid hjb
  subst e1 e2
  have HNA := Lib.hid hna.1
  have HIA := Lib.hid hia.1
  have HIB := Lib.hid hib.1
  have HHA := Lib.hid hha
  have HHB := Lib.hid hhb
  have HWA := Lib.hid hwa
  have HWB := Lib.hid hwb
  have HKA := Lib.hid hka
  have HKB := Lib.hid hkb
  have ka : (ta.k == 5) = true := by simp [hka]
  have kb : (tb.k == 5) = true := by simp [hkb]
  clear hja hjb hna hia hha hnb hib hhb hwa hwb hka hkb
  obtain ⟨hx0, hx1, hx2⟩ := two_boxes w (.cells #[.int .i64 ta.k, .int .i64 ta.n, .string ta.s, .slice A ta.ns.length c, .slice A2 ta.is.length c2] 26) (.cells #[.int .i64 tb.k, .int .i64 tb.n, .string tb.s, .slice B tb.ns.length d, .slice B2 tb.is.length d2] 26)
  obtain ⟨y0, y1, y2, y3, y4⟩ := Rv.cells5 hx1
  obtain ⟨x0, x1, x2, x3, x4⟩ := Rv.cells5 hx2
  have HX0 := Lib.hid hx0
  have HT0 := Lib.hid (And.intro hx1 hx2)
  obtain ⟨hla, hlna⟩ := HWA.out.short
  obtain ⟨hlb4, hlnb⟩ := HWB.out.short
  clear hx0 hx1 hx2
  go_enter Try.func10, Try.ntmps10
  go_upto_region 3 with fail
  clear y0 y1 y2 y3 y4 x0 x1 x2 x3 x4 ka kb
  generalize (w.alloc (.cells #[.int .i64 ta.k, .int .i64 ta.n, .string ta.s, .slice A ta.ns.length c, .slice A2 ta.is.length c2] 26)).alloc (.cells #[.int .i64 tb.k, .int .i64 tb.n, .string tb.s, .slice B tb.ns.length d, .slice B2 tb.is.length d2] 26) = w1 at *
  go_loopw [5, 6] (fun v5 v6 wr => ∃ (i1 : Nat), v5 = .int .i64 (i1 : Int) ∧ i1 ≤ ta.is.length ∧ Hid (∀ j, j < i1 → it ta tb j = false) ∧ Hid (Below w.heap.size w wr) ∧ Hid (wr.heap[w.heap.size]? = some (.cells #[.int .i64 ta.k, .int .i64 ta.n, .string ta.s, .slice A ta.ns.length c, .slice A2 ta.is.length c2] 26 (0, 0)) ∧ wr.heap[w.heap.size + 1]? = some (.cells #[.int .i64 tb.k, .int .i64 tb.n, .string tb.s, .slice B tb.ns.length d, .slice B2 tb.is.length d2] 26 (0, 0)))) (fun v5 _ _ => (ta.is.length - (intOf v5)).toNat)
  case atStart => exact ⟨0, rfl, Nat.zero_le _, Lib.hid (fun j hj => absurd hj (Nat.not_lt_zero j)), HX0, HT0⟩
  case round =>
    obtain ⟨i1, rfl, hi1, HAL, HXB, HTQ⟩ := hrel
    clear HX0 HT0
    obtain ⟨y0, y1, y2, y3, y4⟩ := Rv.cells5 HTQ.out.1
    by_cases hlt : i1 < ta.is.length
    · have hp5 : ps ta.k ta.ns tb i1 = idx (ta.ns.getD i1 .empty) tb.ns 0 := by unfold ps; rw [if_pos HKA.out]
      have hnl := (HWA.out.kids.2 HKA.out).1
      have hnl2 := (HWB.out.kids.2 HKB.out).1
      obtain ⟨bn, on, cn, hv, _, _, hbn, hcn⟩ := HNA.out.open (by omega)
      injection hv with ev1 _ ev3
      subst ev1 ev3
      have xn0 := hcn i1 (.string (ta.ns.getD i1 .empty)) (by
        rw [List.getElem?_map, List.getElem?_eq_getElem (by omega : i1 < ta.ns.length), List.getD_eq_getElem?_getD, List.getElem?_eq_getElem (by omega : i1 < ta.ns.length)]
        rfl)
      have HNL := Lib.hid (show i1 < ta.ns.length by omega)
      have HLB := Lib.hid (show tb.ns.length ≤ 1000000 by omega)
      have HNL2 := Lib.hid hnl2
      clear hcn hnl hnl2
      generalize ta.ns.getD i1 .empty = nm at *
      go_upto_region 5 with fail
      clear y0 y1 y2 y3 y4
      generalize wr = X at *
      have TQ := Lib.hid (fun (W : World) (hb : Below X.heap.size X W) => And.intro ((hb.block _ (Rv.lt_of_blk HTQ.out.1)).trans HTQ.out.1) ((hb.block _ (Rv.lt_of_blk HTQ.out.2)).trans HTQ.out.2))
      have NC := Lib.hid (fun (W : World) (hb : Below X.heap.size X W) => show W.cell? ⟨bn, on + i1, none⟩ = _ from ((HXB.out.trans (hb.mono HXB.out.size)).cell hbn).trans xn0)
      have HJB := Lib.hid (fun (W : World) (hb : Below X.heap.size X W) => HJB0.out.below (HXB.out.trans (hb.mono HXB.out.size)))
      clear xn0
      refine Rv.region_goods (n := 73) (by kernel_rfl) #[26, 27, 28, 29, 30, 31, 32, 6] #[] (fun i v W => v = (#[.agg #[.int .i64 tb.k, .int .i64 tb.n, .string tb.s, .slice B tb.ns.length d, .slice B2 tb.is.length d2], .pointer (some ⟨w.heap.size, 3, none⟩), .slice (some ⟨bn, on, none⟩) ta.ns.length c, .int .i64 (i1 : Int), .pointer (some ⟨bn, on + i1, none⟩), .string nm, .int .i64 (idx nm tb.ns 0), .int .i64 (idx nm tb.ns 0)] : Array Value).getD i undef) (fun i v w w' h hb => ?_) (fun i h g b hg => ?_) rfl (by kernel_rfl) (by kernel_rfl) (fun i h hr w => ?_) ?_ ?_
      · exact h
      · match i, h, hg with
        | 0, _, hg => cases hg
        | 1, _, hg => cases hg
        | 2, _, hg => cases hg
        | 3, _, hg => cases hg
        | 4, _, hg => cases hg
        | 5, _, hg => cases hg
        | 6, _, hg => cases hg
        | 7, _, hg => cases hg
        | m + 8, h, _ => exact absurd h (by show ¬ m + 8 < 8; omega)
      · match i, h, hr with
        | 0, _, hr => exact Bool.noConfusion (show true = false from hr)
        | 1, _, hr => exact Bool.noConfusion (show true = false from hr)
        | 2, _, hr => exact Bool.noConfusion (show true = false from hr)
        | 3, _, hr => exact Bool.noConfusion (show true = false from hr)
        | 4, _, hr => exact Bool.noConfusion (show true = false from hr)
        | 5, _, hr => exact Bool.noConfusion (show true = false from hr)
        | 6, _, hr => exact Bool.noConfusion (show true = false from hr)
        | 7, _, hr => exact Bool.noConfusion (show true = false from hr)
        | m + 8, h, _ => exact absurd h (by show ¬ m + 8 < 8; omega)
      · intro i h a W hrun hbase hpre hdep htr
        obtain ⟨y0, y1, y2, y3, y4⟩ := Rv.cells5 (TQ.out W htr).1
        obtain ⟨x0, x1, x2, x3, x4⟩ := Rv.cells5 (TQ.out W htr).2
        have hnl := HNL.out
        have xn := NC.out W htr
        match i, h with
        | 0, _ =>
          obtain ⟨e3, x3⟩ := Rv.ev (show a.tmps.getD 3 undef = .pointer (some ⟨w.heap.size + 1, 0, none⟩) from hbase 3 rfl)
          exact Rv.step_op (op := Go.Op.load 26 (Go.Operand.tmp 3)) (v := .agg #[.int .i64 tb.k, .int .i64 tb.n, .string tb.s, .slice B tb.ns.length d, .slice B2 tb.is.length d2]) (w1 := W) rfl rfl (fun d pos aft g => by unfold execOp; go_simp) ⟨_, rfl, rfl, Below.refl _ _⟩
        | 1, _ =>
          obtain ⟨e2, x2⟩ := Rv.ev (show a.tmps.getD 2 undef = .pointer (some ⟨w.heap.size, 0, none⟩) from hbase 2 rfl)
          exact Rv.step_op (op := Go.Op.fieldAddr 26 (Go.Operand.tmp 2) 3) (v := .pointer (some ⟨w.heap.size, 3, none⟩)) (w1 := W) rfl rfl (fun d pos aft g => by unfold execOp; go_simp) ⟨_, rfl, rfl, Below.refl _ _⟩
        | 2, _ =>
          obtain ⟨e27, x27⟩ := Rv.ev (show a.tmps.getD 27 undef = .pointer (some ⟨w.heap.size, 3, none⟩) from hdep 1 rfl)
          exact Rv.step_op (op := Go.Op.load 23 (Go.Operand.tmp 27)) (v := .slice (some ⟨bn, on, none⟩) ta.ns.length c) (w1 := W) rfl rfl (fun d pos aft g => by unfold execOp; go_simp) ⟨_, rfl, rfl, Below.refl _ _⟩
        | 3, _ =>
          obtain ⟨e5, x5⟩ := Rv.ev (show a.tmps.getD 5 undef = .int .i64 (i1 : Int) from hbase 5 rfl)
          exact Rv.step_op (op := Go.Op.move (Go.Operand.tmp 5)) (v := .int .i64 (i1 : Int)) (w1 := W) rfl rfl (fun d pos aft g => by unfold execOp; go_simp) ⟨_, rfl, rfl, Below.refl _ _⟩
        | 4, _ =>
          obtain ⟨e28, x28⟩ := Rv.ev (show a.tmps.getD 28 undef = .slice (some ⟨bn, on, none⟩) ta.ns.length c from hdep 2 rfl)
          obtain ⟨e29, x29⟩ := Rv.ev (show a.tmps.getD 29 undef = .int .i64 (i1 : Int) from hdep 3 rfl)
          exact Rv.step_op (op := Go.Op.indexAddr 23 (Go.Operand.tmp 28) (Go.Operand.tmp 29)) (v := .pointer (some ⟨bn, on + i1, none⟩)) (w1 := W) rfl rfl (fun d pos aft g => by unfold execOp; go_simp) ⟨_, rfl, rfl, Below.refl _ _⟩
        | 5, _ =>
          obtain ⟨e30, x30⟩ := Rv.ev (show a.tmps.getD 30 undef = .pointer (some ⟨bn, on + i1, none⟩) from hdep 4 rfl)
          exact Rv.step_op (op := Go.Op.load 9 (Go.Operand.tmp 30)) (v := .string nm) (w1 := W) rfl rfl (fun d pos aft g => by unfold execOp; go_simp) ⟨_, rfl, rfl, Below.refl _ _⟩
        | 6, _ =>
          obtain ⟨e26, x26⟩ := Rv.ev (show a.tmps.getD 26 undef = .agg #[.int .i64 tb.k, .int .i64 tb.n, .string tb.s, .slice B tb.ns.length d, .slice B2 tb.is.length d2] from hdep 0 rfl)
          obtain ⟨e31, x31⟩ := Rv.ev (show a.tmps.getD 31 undef = .string nm from hdep 5 rfl)
          have cf : ∀ x0 x1 W, (callFunc 20 #[x0, x1]).run Try.prog W = .ok (.enter 20 #[x0, x1]) W := fun _ _ _ => by kernel_rfl
          refine Rv.step_fn (op := Go.Op.call { callee := Go.Callee.value (Go.Operand.func 20), args := #[Go.Operand.tmp 26, Go.Operand.tmp 31], argTypes := #[26, 9] }) (f := 20) (args := #[.agg #[.int .i64 tb.k, .int .i64 tb.n, .string tb.s, .slice B tb.ns.length d, .slice B2 tb.is.length d2], .string nm]) (R := fun v W' => v = .int .i64 (idx nm tb.ns 0) ∧ Below W.heap.size W W') rfl rfl (fun d pos aft g => by unfold execOp; go_simp) ((at_any tb _ _ nm W (HJB.out W htr) HLB.out).mono ?_) ?_
          · (rintro e W' ⟨rfl, hb⟩; exact ⟨_, rfl, rfl, hb⟩)
          · (rintro v W' ⟨rfl, hb⟩; exact ⟨_, rfl, rfl, hb⟩)
        | 7, _ =>
          obtain ⟨e32, x32⟩ := Rv.ev (show a.tmps.getD 32 undef = .int .i64 (idx nm tb.ns 0) from hdep 6 rfl)
          exact Rv.step_op (op := Go.Op.assign (Go.Operand.tmp 32)) (v := .int .i64 (idx nm tb.ns 0)) (w1 := W) rfl rfl (fun d pos aft g => by unfold execOp; go_simp) ⟨_, rfl, rfl, Below.refl _ _⟩
        | m + 8, h => exact absurd h (by show ¬ m + 8 < 8; omega)
      intro W f hf htr
      have f0 : f 0 = .agg #[.int .i64 tb.k, .int .i64 tb.n, .string tb.s, .slice B tb.ns.length d, .slice B2 tb.is.length d2] := hf 0 (by show 0 < 8; omega)
      have f1 : f 1 = .pointer (some ⟨w.heap.size, 3, none⟩) := hf 1 (by show 1 < 8; omega)
      have f2 : f 2 = .slice (some ⟨bn, on, none⟩) ta.ns.length c := hf 2 (by show 2 < 8; omega)
      have f3 : f 3 = .int .i64 (i1 : Int) := hf 3 (by show 3 < 8; omega)
      have f4 : f 4 = .pointer (some ⟨bn, on + i1, none⟩) := hf 4 (by show 4 < 8; omega)
      have f5 : f 5 = .string nm := hf 5 (by show 5 < 8; omega)
      have f6 : f 6 = .int .i64 (idx nm tb.ns 0) := hf 6 (by show 6 < 8; omega)
      have f7 : f 7 = .int .i64 (idx nm tb.ns 0) := hf 7 (by show 7 < 8; omega)
      refine (show ∀ (a : Act) (w : World), Code.wp _ _ _ a w → _ from by assumption) _ _ ?_
      refine Rv.fin_swap (L' := [(26, f 0), (27, f 1), (28, f 2), (29, f 3), (30, f 4), (31, f 5), (32, f 6), (6, f 7)]) rfl ?_
      rw [f0, f1, f2, f3, f4, f5, f6, f7]
      clear f0 f1 f2 f3 f4 f5 f6 f7
      simp only [Rv.fin, List.foldl_cons, List.foldl_nil, Act.put, List.setIfInBounds_toArray, List.set_cons_succ, List.set_cons_zero]
      have HXB := Lib.hid (HXB.out.trans (htr.mono HXB.out.size))
      have HTQ := Lib.hid (TQ.out W htr)
      clear hf htr TQ NC HJB
      have HI := Lib.hid (idx_range (x := nm) (l := tb.ns) (i := 0) (Int.le_refl 0))
      rcases HI.out with ⟨ez, hz⟩ | ⟨j1, ez, hz, _⟩
      · rw [ez] at hp5 ⊢
        go_upto_region 6 with fail
        generalize W = X at *
        have TQ := Lib.hid (fun (W : World) (hb : Below X.heap.size X W) => And.intro ((hb.block _ (Rv.lt_of_blk HTQ.out.1)).trans HTQ.out.1) ((hb.block _ (Rv.lt_of_blk HTQ.out.2)).trans HTQ.out.2))
        have HZ := Lib.hid (show decide ((0 : Int) ≤ -1) = false from rfl)
        refine Rv.region_goods (n := 73) (by kernel_rfl) #[33, 34, 35, 36, 37, 38, 39, 40, 41, 42, 43, 44, 45, 46, 47] #[none, none, some false] (fun i v W => v = (#[.int .i64 (-1), .bool false, .bool false, undef, undef, undef, undef, undef, undef, undef, undef, undef, undef, undef, Go.Value.bool false] : Array Value).getD i undef) (fun i v w w' h hb => ?_) (fun i h g b hg => ?_) rfl (by kernel_rfl) (by kernel_rfl) (fun i h hr w => ?_) ?_ ?_
        · exact h
        · match i, h, hg with
          | 0, _, hg => cases hg
          | 1, _, hg => cases hg
          | 2, _, hg => cases hg
          | 3, _, hg => (cases hg; exact fun v w e => e)
          | 4, _, hg => (cases hg; exact fun v w e => e)
          | 5, _, hg => (cases hg; exact fun v w e => e)
          | 6, _, hg => (cases hg; exact fun v w e => e)
          | 7, _, hg => (cases hg; exact fun v w e => e)
          | 8, _, hg => (cases hg; exact fun v w e => e)
          | 9, _, hg => (cases hg; exact fun v w e => e)
          | 10, _, hg => (cases hg; exact fun v w e => e)
          | 11, _, hg => (cases hg; exact fun v w e => e)
          | 12, _, hg => (cases hg; exact fun v w e => e)
          | 13, _, hg => (cases hg; exact fun v w e => e)
          | 14, _, hg => cases hg
          | m + 15, h, _ => exact absurd h (by show ¬ m + 15 < 15; omega)
        · match i, h, hr with
          | 0, _, hr => exact Bool.noConfusion (show true = false from hr)
          | 1, _, hr => exact Bool.noConfusion (show true = false from hr)
          | 2, _, hr => exact Bool.noConfusion (show true = false from hr)
          | 3, _, hr => rfl
          | 4, _, hr => rfl
          | 5, _, hr => rfl
          | 6, _, hr => rfl
          | 7, _, hr => rfl
          | 8, _, hr => rfl
          | 9, _, hr => rfl
          | 10, _, hr => rfl
          | 11, _, hr => rfl
          | 12, _, hr => rfl
          | 13, _, hr => rfl
          | 14, _, hr => exact Bool.noConfusion (show true = false from hr)
          | m + 15, h, _ => exact absurd h (by show ¬ m + 15 < 15; omega)
        · intro i h a W hrun hbase hpre hdep htr
          obtain ⟨y0, y1, y2, y3, y4⟩ := Rv.cells5 (TQ.out W htr).1
          obtain ⟨x0, x1, x2, x3, x4⟩ := Rv.cells5 (TQ.out W htr).2
          have hzd := HZ.out
          match i, h with
          | 0, _ =>
            obtain ⟨e6, x6⟩ := Rv.ev (show a.tmps.getD 6 undef = .int .i64 (-1) from hbase 6 rfl)
            exact Rv.step_op (op := Go.Op.move (Go.Operand.tmp 6)) (v := .int .i64 (-1)) (w1 := W) rfl rfl (fun d pos aft g => by unfold execOp; go_simp) ⟨_, rfl, rfl, Below.refl _ _⟩
          | 1, _ =>
            obtain ⟨e33, x33⟩ := Rv.ev (show a.tmps.getD 33 undef = .int .i64 (-1) from hdep 0 rfl)
            exact Rv.step_op (op := Go.Op.binOp Go.BinOp.geq 3 (Go.Operand.tmp 33) (Go.Operand.const (Go.Value.int Go.IntKind.i64 0)) 3) (v := .bool false) (w1 := W) rfl rfl (fun d pos aft g => by unfold execOp; go_simp) ⟨_, rfl, rfl, Below.refl _ _⟩
          | 2, _ =>
            obtain ⟨e34, x34⟩ := Rv.ev (show a.tmps.getD 34 undef = .bool false from hdep 1 rfl)
            exact Rv.step_op (op := Go.Op.move (Go.Operand.tmp 34)) (v := .bool false) (w1 := W) rfl rfl (fun d pos aft g => by unfold execOp; go_simp) ⟨_, rfl, rfl, Below.refl _ _⟩
          | 3, _ => exact Bool.noConfusion (show false = true from hrun)
          | 4, _ => exact Bool.noConfusion (show false = true from hrun)
          | 5, _ => exact Bool.noConfusion (show false = true from hrun)
          | 6, _ => exact Bool.noConfusion (show false = true from hrun)
          | 7, _ => exact Bool.noConfusion (show false = true from hrun)
          | 8, _ => exact Bool.noConfusion (show false = true from hrun)
          | 9, _ => exact Bool.noConfusion (show false = true from hrun)
          | 10, _ => exact Bool.noConfusion (show false = true from hrun)
          | 11, _ => exact Bool.noConfusion (show false = true from hrun)
          | 12, _ => exact Bool.noConfusion (show false = true from hrun)
          | 13, _ => exact Bool.noConfusion (show false = true from hrun)
          | 14, _ =>
            obtain ⟨e35, x35⟩ := Rv.ev (show a.tmps.getD 35 undef = .bool false from hdep 2 rfl)
            obtain ⟨e46, x46⟩ := Rv.ev (show a.tmps.getD 46 undef = undef from hdep 13 rfl)
            exact Rv.step_op (op := Go.Op.pick (Go.Operand.tmp 35) (Go.Operand.tmp 46) (Go.Operand.const (Go.Value.bool false))) (v := Go.Value.bool false) (w1 := W) rfl rfl (fun d pos aft g => by unfold execOp; go_simp) ⟨_, rfl, rfl, Below.refl _ _⟩
          | m + 15, h => exact absurd h (by show ¬ m + 15 < 15; omega)
        intro W f hf htr
        have f0 : f 0 = .int .i64 (-1) := hf 0 (by show 0 < 15; omega)
        have f1 : f 1 = .bool false := hf 1 (by show 1 < 15; omega)
        have f2 : f 2 = .bool false := hf 2 (by show 2 < 15; omega)
        have f3 : f 3 = undef := hf 3 (by show 3 < 15; omega)
        have f4 : f 4 = undef := hf 4 (by show 4 < 15; omega)
        have f5 : f 5 = undef := hf 5 (by show 5 < 15; omega)
        have f6 : f 6 = undef := hf 6 (by show 6 < 15; omega)
        have f7 : f 7 = undef := hf 7 (by show 7 < 15; omega)
        have f8 : f 8 = undef := hf 8 (by show 8 < 15; omega)
        have f9 : f 9 = undef := hf 9 (by show 9 < 15; omega)
        have f10 : f 10 = undef := hf 10 (by show 10 < 15; omega)
        have f11 : f 11 = undef := hf 11 (by show 11 < 15; omega)
        have f12 : f 12 = undef := hf 12 (by show 12 < 15; omega)
        have f13 : f 13 = undef := hf 13 (by show 13 < 15; omega)
        have f14 : f 14 = Go.Value.bool false := hf 14 (by show 14 < 15; omega)
        refine (show ∀ (a : Act) (w : World), Code.wp _ _ _ a w → _ from by assumption) _ _ ?_
        refine Rv.fin_swap (L' := [(33, f 0), (34, f 1), (35, f 2), (36, f 3), (37, f 4), (38, f 5), (39, f 6), (40, f 7), (41, f 8), (42, f 9), (43, f 10), (44, f 11), (45, f 12), (46, f 13), (47, f 14)]) rfl ?_
        rw [f0, f1, f2, f3, f4, f5, f6, f7, f8, f9, f10, f11, f12, f13, f14]
        clear f0 f1 f2 f3 f4 f5 f6 f7 f8 f9 f10 f11 f12 f13 f14
        simp only [Rv.fin, List.foldl_cons, List.foldl_nil, Act.put, List.setIfInBounds_toArray, List.set_cons_succ, List.set_cons_zero]
        have HXW := Lib.hid (HXB.out.trans (htr.mono HXB.out.size))
        have HTW := Lib.hid (TQ.out W htr)
        have HF := Lib.hid (show it ta tb i1 = false by
          rw [Bool.eq_false_iff]
          intro h
          have h2 := ((it_iff ta tb i1 hlt).1 h).1
          rw [hp5] at h2
          omega)
        clear hf htr TQ HXB hp5
        go_wp2
        go_roundw
        case rel => exact ⟨i1 + 1, by go_num, by omega, Lib.hid (fun j hj => by
          rcases Nat.lt_succ_iff_lt_or_eq.1 hj with h | h
          · exact HAL.out j h
          · rw [h]; exact HF.out), HXW, HTW⟩
        case measure => simp [intOf]; omega
      · have ez : idx nm tb.ns 0 = (j1 : Int) := by rw [ez]; omega
        have hp : ps ta.k ta.ns tb i1 = (j1 : Int) := hp5.trans ez
        have hjl : j1 < tb.is.length := by
          have := (List.getElem?_eq_some_iff.1 hz).1
          have := HNL2.out
          omega
        rw [ez]
        clear hp5 ez hz HI
        go_upto_region 6 with fail
        generalize W = X at *
        have TQ := Lib.hid (fun (W : World) (hb : Below X.heap.size X W) => And.intro ((hb.block _ (Rv.lt_of_blk HTQ.out.1)).trans HTQ.out.1) ((hb.block _ (Rv.lt_of_blk HTQ.out.2)).trans HTQ.out.2))
        obtain ⟨bi, oi, A3, c3, A4, c4, ea, hbi, u0, u1, u2, u3, u4, hji⟩ := row_item HIA.out HHA.out rfl i1 hlt
        subst ea
        obtain ⟨bj, oj, B3, d3, B4, d4, eb, hbj, q0, q1, q2, q3, q4, hjj⟩ := row_item HIB.out HHB.out rfl j1 hjl
        subst eb
        have HIT := Lib.hid (it_iff ta tb i1 hlt)
        rw [hp, Int.toNat_natCast, getD_at hjl] at HIT
        have HZ := Lib.hid (show decide (0 ≤ (j1 : Int)) = true from decide_eq_true (by omega))
        have HIL := Lib.hid hlt
        have HJL := Lib.hid hjl
        have IC := Lib.hid (fun (W : World) (hb : Below X.heap.size X W) => have hb := HXB.out.trans (hb.mono HXB.out.size); show W.cell? ⟨bi, oi + i1 * 5, none⟩ = _ ∧ W.cell? ⟨bi, oi + i1 * 5 + 1, none⟩ = _ ∧ W.cell? ⟨bi, oi + i1 * 5 + 2, none⟩ = _ ∧ W.cell? ⟨bi, oi + i1 * 5 + 3, none⟩ = _ ∧ W.cell? ⟨bi, oi + i1 * 5 + 4, none⟩ = _ from ⟨(hb.cell hbi).trans u0, (hb.cell hbi).trans u1, (hb.cell hbi).trans u2, (hb.cell hbi).trans u3, (hb.cell hbi).trans u4⟩)
        have JC := Lib.hid (fun (W : World) (hb : Below X.heap.size X W) => have hb := HXB.out.trans (hb.mono HXB.out.size); show W.cell? ⟨bj, oj + j1 * 5, none⟩ = _ ∧ W.cell? ⟨bj, oj + j1 * 5 + 1, none⟩ = _ ∧ W.cell? ⟨bj, oj + j1 * 5 + 2, none⟩ = _ ∧ W.cell? ⟨bj, oj + j1 * 5 + 3, none⟩ = _ ∧ W.cell? ⟨bj, oj + j1 * 5 + 4, none⟩ = _ from ⟨(hb.cell hbj).trans q0, (hb.cell hbj).trans q1, (hb.cell hbj).trans q2, (hb.cell hbj).trans q3, (hb.cell hbj).trans q4⟩)
        have IH := Lib.hid (fun (W : World) (hb : Below X.heap.size X W) => have hb := HXB.out.trans (hb.mono HXB.out.size); equal_any ta.is[i1] tb.is[j1] _ _ _ _ W (HWA.out.kids.1.get _ (List.getElem_mem hlt)) (HWB.out.kids.1.get _ (List.getElem_mem hjl)) (hji.below hb) (hjj.below hb))
        clear u0 u1 u2 u3 u4 q0 q1 q2 q3 q4 hji hjj hp
        generalize ta.is[i1] = ti at *
        generalize tb.is[j1] = tj at *
        generalize eqJ ti tj = r at *
        refine Rv.region_goods (n := 73) (by kernel_rfl) #[33, 34, 35, 36, 37, 38, 39, 40, 41, 42, 43, 44, 45, 46, 47] #[none, none, some true] (fun i v W => v = (#[.int .i64 (j1 : Int), .bool true, .bool true, .pointer (some ⟨w.heap.size, 4, none⟩), .slice (some ⟨bi, oi, none⟩) ta.is.length c2, .int .i64 (i1 : Int), .pointer (some ⟨bi, oi + i1 * 5, none⟩), .agg #[.int .i64 ti.k, .int .i64 ti.n, .string ti.s, .slice A3 ti.ns.length c3, .slice A4 ti.is.length c4], .pointer (some ⟨w.heap.size + 1, 4, none⟩), .slice (some ⟨bj, oj, none⟩) tb.is.length d2, .int .i64 (j1 : Int), .pointer (some ⟨bj, oj + j1 * 5, none⟩), .agg #[.int .i64 tj.k, .int .i64 tj.n, .string tj.s, .slice B3 tj.ns.length d3, .slice B4 tj.is.length d4], .bool r, .bool r] : Array Value).getD i undef) (fun i v w w' h hb => ?_) (fun i h g b hg => ?_) rfl (by kernel_rfl) (by kernel_rfl) (fun i h hr w => ?_) ?_ ?_
        · exact h
        · match i, h, hg with
          | 0, _, hg => cases hg
          | 1, _, hg => cases hg
          | 2, _, hg => cases hg
          | 3, _, hg => (cases hg; exact fun v w e => e)
          | 4, _, hg => (cases hg; exact fun v w e => e)
          | 5, _, hg => (cases hg; exact fun v w e => e)
          | 6, _, hg => (cases hg; exact fun v w e => e)
          | 7, _, hg => (cases hg; exact fun v w e => e)
          | 8, _, hg => (cases hg; exact fun v w e => e)
          | 9, _, hg => (cases hg; exact fun v w e => e)
          | 10, _, hg => (cases hg; exact fun v w e => e)
          | 11, _, hg => (cases hg; exact fun v w e => e)
          | 12, _, hg => (cases hg; exact fun v w e => e)
          | 13, _, hg => (cases hg; exact fun v w e => e)
          | 14, _, hg => cases hg
          | m + 15, h, _ => exact absurd h (by show ¬ m + 15 < 15; omega)
        · match i, h, hr with
          | 0, _, hr => exact Bool.noConfusion (show true = false from hr)
          | 1, _, hr => exact Bool.noConfusion (show true = false from hr)
          | 2, _, hr => exact Bool.noConfusion (show true = false from hr)
          | 3, _, hr => exact Bool.noConfusion (show true = false from hr)
          | 4, _, hr => exact Bool.noConfusion (show true = false from hr)
          | 5, _, hr => exact Bool.noConfusion (show true = false from hr)
          | 6, _, hr => exact Bool.noConfusion (show true = false from hr)
          | 7, _, hr => exact Bool.noConfusion (show true = false from hr)
          | 8, _, hr => exact Bool.noConfusion (show true = false from hr)
          | 9, _, hr => exact Bool.noConfusion (show true = false from hr)
          | 10, _, hr => exact Bool.noConfusion (show true = false from hr)
          | 11, _, hr => exact Bool.noConfusion (show true = false from hr)
          | 12, _, hr => exact Bool.noConfusion (show true = false from hr)
          | 13, _, hr => exact Bool.noConfusion (show true = false from hr)
          | 14, _, hr => exact Bool.noConfusion (show true = false from hr)
          | m + 15, h, _ => exact absurd h (by show ¬ m + 15 < 15; omega)
        · intro i h a W hrun hbase hpre hdep htr
          obtain ⟨y0, y1, y2, y3, y4⟩ := Rv.cells5 (TQ.out W htr).1
          obtain ⟨x0, x1, x2, x3, x4⟩ := Rv.cells5 (TQ.out W htr).2
          have hzd := HZ.out
          have hil := HIL.out
          have hjl := HJL.out
          obtain ⟨i0, i1', i2, i3, i4⟩ := IC.out W htr
          obtain ⟨j0, j1', j2, j3, j4⟩ := JC.out W htr
          match i, h with
          | 0, _ =>
            obtain ⟨e6, x6⟩ := Rv.ev (show a.tmps.getD 6 undef = .int .i64 (j1 : Int) from hbase 6 rfl)
            exact Rv.step_op (op := Go.Op.move (Go.Operand.tmp 6)) (v := .int .i64 (j1 : Int)) (w1 := W) rfl rfl (fun d pos aft g => by unfold execOp; go_simp) ⟨_, rfl, rfl, Below.refl _ _⟩
          | 1, _ =>
            obtain ⟨e33, x33⟩ := Rv.ev (show a.tmps.getD 33 undef = .int .i64 (j1 : Int) from hdep 0 rfl)
            exact Rv.step_op (op := Go.Op.binOp Go.BinOp.geq 3 (Go.Operand.tmp 33) (Go.Operand.const (Go.Value.int Go.IntKind.i64 0)) 3) (v := .bool true) (w1 := W) rfl rfl (fun d pos aft g => by unfold execOp; go_simp) ⟨_, rfl, rfl, Below.refl _ _⟩
          | 2, _ =>
            obtain ⟨e34, x34⟩ := Rv.ev (show a.tmps.getD 34 undef = .bool true from hdep 1 rfl)
            exact Rv.step_op (op := Go.Op.move (Go.Operand.tmp 34)) (v := .bool true) (w1 := W) rfl rfl (fun d pos aft g => by unfold execOp; go_simp) ⟨_, rfl, rfl, Below.refl _ _⟩
          | 3, _ =>
            obtain ⟨e2, x2⟩ := Rv.ev (show a.tmps.getD 2 undef = .pointer (some ⟨w.heap.size, 0, none⟩) from hbase 2 rfl)
            exact Rv.step_op (op := Go.Op.fieldAddr 26 (Go.Operand.tmp 2) 4) (v := .pointer (some ⟨w.heap.size, 4, none⟩)) (w1 := W) rfl rfl (fun d pos aft g => by unfold execOp; go_simp) ⟨_, rfl, rfl, Below.refl _ _⟩
          | 4, _ =>
            obtain ⟨e36, x36⟩ := Rv.ev (show a.tmps.getD 36 undef = .pointer (some ⟨w.heap.size, 4, none⟩) from hdep 3 rfl)
            exact Rv.step_op (op := Go.Op.load 24 (Go.Operand.tmp 36)) (v := .slice (some ⟨bi, oi, none⟩) ta.is.length c2) (w1 := W) rfl rfl (fun d pos aft g => by unfold execOp; go_simp) ⟨_, rfl, rfl, Below.refl _ _⟩
          | 5, _ =>
            obtain ⟨e5, x5⟩ := Rv.ev (show a.tmps.getD 5 undef = .int .i64 (i1 : Int) from hbase 5 rfl)
            exact Rv.step_op (op := Go.Op.move (Go.Operand.tmp 5)) (v := .int .i64 (i1 : Int)) (w1 := W) rfl rfl (fun d pos aft g => by unfold execOp; go_simp) ⟨_, rfl, rfl, Below.refl _ _⟩
          | 6, _ =>
            obtain ⟨e37, x37⟩ := Rv.ev (show a.tmps.getD 37 undef = .slice (some ⟨bi, oi, none⟩) ta.is.length c2 from hdep 4 rfl)
            obtain ⟨e38, x38⟩ := Rv.ev (show a.tmps.getD 38 undef = .int .i64 (i1 : Int) from hdep 5 rfl)
            exact Rv.step_op (op := Go.Op.indexAddr 24 (Go.Operand.tmp 37) (Go.Operand.tmp 38)) (v := .pointer (some ⟨bi, oi + i1 * 5, none⟩)) (w1 := W) rfl rfl (fun d pos aft g => by unfold execOp; go_simp) ⟨_, rfl, rfl, Below.refl _ _⟩
          | 7, _ =>
            obtain ⟨e39, x39⟩ := Rv.ev (show a.tmps.getD 39 undef = .pointer (some ⟨bi, oi + i1 * 5, none⟩) from hdep 6 rfl)
            exact Rv.step_op (op := Go.Op.load 26 (Go.Operand.tmp 39)) (v := .agg #[.int .i64 ti.k, .int .i64 ti.n, .string ti.s, .slice A3 ti.ns.length c3, .slice A4 ti.is.length c4]) (w1 := W) rfl rfl (fun d pos aft g => by unfold execOp; go_simp) ⟨_, rfl, rfl, Below.refl _ _⟩
          | 8, _ =>
            obtain ⟨e3, x3⟩ := Rv.ev (show a.tmps.getD 3 undef = .pointer (some ⟨w.heap.size + 1, 0, none⟩) from hbase 3 rfl)
            exact Rv.step_op (op := Go.Op.fieldAddr 26 (Go.Operand.tmp 3) 4) (v := .pointer (some ⟨w.heap.size + 1, 4, none⟩)) (w1 := W) rfl rfl (fun d pos aft g => by unfold execOp; go_simp) ⟨_, rfl, rfl, Below.refl _ _⟩
          | 9, _ =>
            obtain ⟨e41, x41⟩ := Rv.ev (show a.tmps.getD 41 undef = .pointer (some ⟨w.heap.size + 1, 4, none⟩) from hdep 8 rfl)
            exact Rv.step_op (op := Go.Op.load 24 (Go.Operand.tmp 41)) (v := .slice (some ⟨bj, oj, none⟩) tb.is.length d2) (w1 := W) rfl rfl (fun d pos aft g => by unfold execOp; go_simp) ⟨_, rfl, rfl, Below.refl _ _⟩
          | 10, _ =>
            obtain ⟨e6, x6⟩ := Rv.ev (show a.tmps.getD 6 undef = .int .i64 (j1 : Int) from hbase 6 rfl)
            exact Rv.step_op (op := Go.Op.move (Go.Operand.tmp 6)) (v := .int .i64 (j1 : Int)) (w1 := W) rfl rfl (fun d pos aft g => by unfold execOp; go_simp) ⟨_, rfl, rfl, Below.refl _ _⟩
          | 11, _ =>
            obtain ⟨e42, x42⟩ := Rv.ev (show a.tmps.getD 42 undef = .slice (some ⟨bj, oj, none⟩) tb.is.length d2 from hdep 9 rfl)
            obtain ⟨e43, x43⟩ := Rv.ev (show a.tmps.getD 43 undef = .int .i64 (j1 : Int) from hdep 10 rfl)
            exact Rv.step_op (op := Go.Op.indexAddr 24 (Go.Operand.tmp 42) (Go.Operand.tmp 43)) (v := .pointer (some ⟨bj, oj + j1 * 5, none⟩)) (w1 := W) rfl rfl (fun d pos aft g => by unfold execOp; go_simp) ⟨_, rfl, rfl, Below.refl _ _⟩
          | 12, _ =>
            obtain ⟨e44, x44⟩ := Rv.ev (show a.tmps.getD 44 undef = .pointer (some ⟨bj, oj + j1 * 5, none⟩) from hdep 11 rfl)
            exact Rv.step_op (op := Go.Op.load 26 (Go.Operand.tmp 44)) (v := .agg #[.int .i64 tj.k, .int .i64 tj.n, .string tj.s, .slice B3 tj.ns.length d3, .slice B4 tj.is.length d4]) (w1 := W) rfl rfl (fun d pos aft g => by unfold execOp; go_simp) ⟨_, rfl, rfl, Below.refl _ _⟩
          | 13, _ =>
            obtain ⟨e40, x40⟩ := Rv.ev (show a.tmps.getD 40 undef = .agg #[.int .i64 ti.k, .int .i64 ti.n, .string ti.s, .slice A3 ti.ns.length c3, .slice A4 ti.is.length c4] from hdep 7 rfl)
            obtain ⟨e45, x45⟩ := Rv.ev (show a.tmps.getD 45 undef = .agg #[.int .i64 tj.k, .int .i64 tj.n, .string tj.s, .slice B3 tj.ns.length d3, .slice B4 tj.is.length d4] from hdep 12 rfl)
            have cf : ∀ x0 x1 W, (callFunc 21 #[x0, x1]).run Try.prog W = .ok (.enter 21 #[x0, x1]) W := fun _ _ _ => by kernel_rfl
            refine Rv.step_fn (op := Go.Op.call { callee := Go.Callee.value (Go.Operand.func 21), args := #[Go.Operand.tmp 40, Go.Operand.tmp 45], argTypes := #[26, 26] }) (f := 21) (args := #[.agg #[.int .i64 ti.k, .int .i64 ti.n, .string ti.s, .slice A3 ti.ns.length c3, .slice A4 ti.is.length c4], .agg #[.int .i64 tj.k, .int .i64 tj.n, .string tj.s, .slice B3 tj.ns.length d3, .slice B4 tj.is.length d4]]) (R := fun v W' => v = .bool r ∧ Below W.heap.size W W') rfl rfl (fun d pos aft g => by unfold execOp; go_simp) ((IH.out W htr).mono ?_) ?_
            · (rintro e W' ⟨rfl, hb⟩; exact ⟨_, rfl, rfl, hb⟩)
            · (rintro v W' ⟨rfl, hb⟩; exact ⟨_, rfl, rfl, hb⟩)
          | 14, _ =>
            obtain ⟨e35, x35⟩ := Rv.ev (show a.tmps.getD 35 undef = .bool true from hdep 2 rfl)
            obtain ⟨e46, x46⟩ := Rv.ev (show a.tmps.getD 46 undef = .bool r from hdep 13 rfl)
            exact Rv.step_op (op := Go.Op.pick (Go.Operand.tmp 35) (Go.Operand.tmp 46) (Go.Operand.const (Go.Value.bool false))) (v := .bool r) (w1 := W) rfl rfl (fun d pos aft g => by unfold execOp; go_simp) ⟨_, rfl, rfl, Below.refl _ _⟩
          | m + 15, h => exact absurd h (by show ¬ m + 15 < 15; omega)
        intro W f hf htr
        have f0 : f 0 = .int .i64 (j1 : Int) := hf 0 (by show 0 < 15; omega)
        have f1 : f 1 = .bool true := hf 1 (by show 1 < 15; omega)
        have f2 : f 2 = .bool true := hf 2 (by show 2 < 15; omega)
        have f3 : f 3 = .pointer (some ⟨w.heap.size, 4, none⟩) := hf 3 (by show 3 < 15; omega)
        have f4 : f 4 = .slice (some ⟨bi, oi, none⟩) ta.is.length c2 := hf 4 (by show 4 < 15; omega)
        have f5 : f 5 = .int .i64 (i1 : Int) := hf 5 (by show 5 < 15; omega)
        have f6 : f 6 = .pointer (some ⟨bi, oi + i1 * 5, none⟩) := hf 6 (by show 6 < 15; omega)
        have f7 : f 7 = .agg #[.int .i64 ti.k, .int .i64 ti.n, .string ti.s, .slice A3 ti.ns.length c3, .slice A4 ti.is.length c4] := hf 7 (by show 7 < 15; omega)
        have f8 : f 8 = .pointer (some ⟨w.heap.size + 1, 4, none⟩) := hf 8 (by show 8 < 15; omega)
        have f9 : f 9 = .slice (some ⟨bj, oj, none⟩) tb.is.length d2 := hf 9 (by show 9 < 15; omega)
        have f10 : f 10 = .int .i64 (j1 : Int) := hf 10 (by show 10 < 15; omega)
        have f11 : f 11 = .pointer (some ⟨bj, oj + j1 * 5, none⟩) := hf 11 (by show 11 < 15; omega)
        have f12 : f 12 = .agg #[.int .i64 tj.k, .int .i64 tj.n, .string tj.s, .slice B3 tj.ns.length d3, .slice B4 tj.is.length d4] := hf 12 (by show 12 < 15; omega)
        have f13 : f 13 = .bool r := hf 13 (by show 13 < 15; omega)
        have f14 : f 14 = .bool r := hf 14 (by show 14 < 15; omega)
        refine (show ∀ (a : Act) (w : World), Code.wp _ _ _ a w → _ from by assumption) _ _ ?_
        refine Rv.fin_swap (L' := [(33, f 0), (34, f 1), (35, f 2), (36, f 3), (37, f 4), (38, f 5), (39, f 6), (40, f 7), (41, f 8), (42, f 9), (43, f 10), (44, f 11), (45, f 12), (46, f 13), (47, f 14)]) rfl ?_
        rw [f0, f1, f2, f3, f4, f5, f6, f7, f8, f9, f10, f11, f12, f13, f14]
        clear f0 f1 f2 f3 f4 f5 f6 f7 f8 f9 f10 f11 f12 f13 f14
        simp only [Rv.fin, List.foldl_cons, List.foldl_nil, Act.put, List.setIfInBounds_toArray, List.set_cons_succ, List.set_cons_zero]
        have HXW := Lib.hid (HXB.out.trans (htr.mono HXB.out.size))
        have HTW := Lib.hid (TQ.out W htr)
        clear hf htr TQ IC JC IH HXB HZ HIL HJL
        cases r
        · go_wp2
          go_roundw
          case rel => exact ⟨i1 + 1, by go_num, by omega, Lib.hid (fun j hj => by
            rcases Nat.lt_succ_iff_lt_or_eq.1 hj with h | h
            · exact HAL.out j h
            · rw [h, Bool.eq_false_iff]
              intro h2
              have h3 := (HIT.out.1 h2).2
              cases h3), HXW, HTW⟩
          case measure => simp [intOf]; omega
        · go_wp2
          go_ret
          refine ⟨?_, HXW.out⟩
          have : mtJ ta tb = true := by
            unfold mtJ
            rw [if_pos ⟨HKA.out, HKB.out⟩, List.any_eq_true]
            exact ⟨i1, List.mem_range.2 hlt, HIT.out.2 ⟨by omega, by first | rfl | trivial⟩⟩
          rw [this]
          rfl
    · obtain rfl : i1 = ta.is.length := by omega
      go_wp2
      go_ret
      refine ⟨?_, HXB.out⟩
      have : mtJ ta tb = false := by
        unfold mtJ
        rw [if_pos ⟨HKA.out, HKB.out⟩, List.any_eq_false]
        intro i hi
        rw [HAL.out i (List.mem_range.1 hi)]
        simp
      rw [this]
      rfl
theorem lsJ_len {t : J} (h : Wf t) : (lsJ t).length ≤ 4 := by
  unfold lsJ
  split
  · exact h.short.1
  · simp
theorem lsJ_wf {t : J} (h : Wf t) : ∀ x ∈ lsJ t, Wf x := by
  unfold lsJ
  split
  · exact h.kids.1.get
  · intro x hx; rw [List.mem_singleton.1 hx]; exact h
theorem meets_list (ta tb : J) (p q : Nat → Prop) (v1 v2 : Value) (w : World) (hwa : Wf ta) (hwb : Wf tb) (hja : JN p w ta v1) (hjb : JN q w tb v2) (hk : ¬ (ta.k = 5 ∧ tb.k = 5)) : Calls Try.prog 10 #[v1, v2] w fun e w' => e = .returned (.bool (mtJ ta tb)) ∧ Below w.heap.size w w' := by
  obtain ⟨A, c, A2, c2, e1, _⟩ := hja.five
  obtain ⟨B, d, B2, d2, e2, _⟩ := hjb.five
  subst e1 e2
  have HJA0 := Lib.hid hja
  have HJB0 := Lib.hid hjb
  have HWA := Lib.hid hwa
  have HWB := Lib.hid hwb
  have HM := Lib.hid (show mtJ ta tb = (lsJ ta).any fun x => (lsJ tb).any fun y => eqJ x y by unfold mtJ; rw [if_neg hk])
  clear hja hjb hwa hwb
  obtain ⟨hx0, hx1, hx2⟩ := two_boxes w (.cells #[.int .i64 ta.k, .int .i64 ta.n, .string ta.s, .slice A ta.ns.length c, .slice A2 ta.is.length c2] 26) (.cells #[.int .i64 tb.k, .int .i64 tb.n, .string tb.s, .slice B tb.ns.length d, .slice B2 tb.is.length d2] 26)
  obtain ⟨y0, y1, y2, y3, y4⟩ := Rv.cells5 hx1
  obtain ⟨x0, x1, x2, x3, x4⟩ := Rv.cells5 hx2
  have HX0 := Lib.hid hx0
  have HTQ := Lib.hid (And.intro hx1 hx2)
  have HJA := Lib.hid (fun (W : World) (hb : Below w.heap.size w W) => HJA0.out.below hb)
  clear hx0 hx1 hx2
  by_cases hka : ta.k = 5
  case pos =>
    have ka : (ta.k == 5) = true := by simp [hka]
    have kb : (tb.k == 5) = false := by
      rw [beq_eq_false_iff_ne]
      exact fun h => hk ⟨hka, h⟩
    clear hk hka
    go_enter Try.func10, Try.ntmps10
    go_upto_region 9 with fail
    clear y0 y1 y2 y3 y4 x0 x1 x2 x3 x4
    generalize (w.alloc (.cells #[.int .i64 ta.k, .int .i64 ta.n, .string ta.s, .slice A ta.ns.length c, .slice A2 ta.is.length c2] 26)).alloc (.cells #[.int .i64 tb.k, .int .i64 tb.n, .string tb.s, .slice B tb.ns.length d, .slice B2 tb.is.length d2] 26) = X at *
    have TQ := Lib.hid (fun (W : World) (hb : Below X.heap.size X W) => And.intro ((hb.block _ (Rv.lt_of_blk HTQ.out.1)).trans HTQ.out.1) ((hb.block _ (Rv.lt_of_blk HTQ.out.2)).trans HTQ.out.2))
    have HJA := Lib.hid (fun (W : World) (hb : Below X.heap.size X W) => HJA0.out.below (HX0.out.trans (hb.mono HX0.out.size)))
    have HJB := Lib.hid (fun (W : World) (hb : Below X.heap.size X W) => HJB0.out.below (HX0.out.trans (hb.mono HX0.out.size)))
    refine Rv.region_goods (n := 73) (by kernel_rfl) #[48, 49, 50, 51, 7, 8] #[] (fun i v W => if i = 5 then (fun v W => RJ W v (lsJ tb)) v W else if i = 4 then (fun v W => RJ W v (lsJ ta)) v W else if i = 3 then (fun v W => RJ W v (lsJ tb)) v W else if i = 1 then (fun v W => RJ W v (lsJ ta)) v W else v = (#[.agg #[.int .i64 ta.k, .int .i64 ta.n, .string ta.s, .slice A ta.ns.length c, .slice A2 ta.is.length c2], undef, .agg #[.int .i64 tb.k, .int .i64 tb.n, .string tb.s, .slice B tb.ns.length d, .slice B2 tb.is.length d2], undef, undef, undef] : Array Value).getD i undef) (fun i v w w' h hb => ?_) (fun i h g b hg => ?_) rfl (by kernel_rfl) (by kernel_rfl) (fun i h hr w => ?_) ?_ ?_
    · by_cases hi8 : i = 5
      · subst hi8
        rw [if_pos rfl] at h ⊢
        exact (fun v w w' h hb => h.below hb) v w w' h hb
      rw [if_neg hi8] at h ⊢
      by_cases hi7 : i = 4
      · subst hi7
        rw [if_pos rfl] at h ⊢
        exact (fun v w w' h hb => h.below hb) v w w' h hb
      rw [if_neg hi7] at h ⊢
      by_cases hi51 : i = 3
      · subst hi51
        rw [if_pos rfl] at h ⊢
        exact (fun v w w' h hb => h.below hb) v w w' h hb
      rw [if_neg hi51] at h ⊢
      by_cases hi49 : i = 1
      · subst hi49
        rw [if_pos rfl] at h ⊢
        exact (fun v w w' h hb => h.below hb) v w w' h hb
      rw [if_neg hi49] at h ⊢
      exact h
    · match i, h, hg with
      | 0, _, hg => cases hg
      | 1, _, hg => cases hg
      | 2, _, hg => cases hg
      | 3, _, hg => cases hg
      | 4, _, hg => cases hg
      | 5, _, hg => cases hg
      | m + 6, h, _ => exact absurd h (by show ¬ m + 6 < 6; omega)
    · match i, h, hr with
      | 0, _, hr => exact Bool.noConfusion (show true = false from hr)
      | 1, _, hr => exact Bool.noConfusion (show true = false from hr)
      | 2, _, hr => exact Bool.noConfusion (show true = false from hr)
      | 3, _, hr => exact Bool.noConfusion (show true = false from hr)
      | 4, _, hr => exact Bool.noConfusion (show true = false from hr)
      | 5, _, hr => exact Bool.noConfusion (show true = false from hr)
      | m + 6, h, _ => exact absurd h (by show ¬ m + 6 < 6; omega)
    · intro i h a W hrun hbase hpre hdep htr
      obtain ⟨y0, y1, y2, y3, y4⟩ := Rv.cells5 (TQ.out W htr).1
      obtain ⟨x0, x1, x2, x3, x4⟩ := Rv.cells5 (TQ.out W htr).2
      match i, h with
      | 0, _ =>
        obtain ⟨e2, x2⟩ := Rv.ev (show a.tmps.getD 2 undef = .pointer (some ⟨w.heap.size, 0, none⟩) from hbase 2 rfl)
        exact Rv.step_op (op := Go.Op.load 26 (Go.Operand.tmp 2)) (v := .agg #[.int .i64 ta.k, .int .i64 ta.n, .string ta.s, .slice A ta.ns.length c, .slice A2 ta.is.length c2]) (w1 := W) rfl rfl (fun d pos aft g => by unfold execOp; go_simp) ⟨_, rfl, rfl, Below.refl _ _⟩
      | 1, _ =>
        obtain ⟨e48, x48⟩ := Rv.ev (show a.tmps.getD 48 undef = .agg #[.int .i64 ta.k, .int .i64 ta.n, .string ta.s, .slice A ta.ns.length c, .slice A2 ta.is.length c2] from hdep 0 rfl)
        have cf : ∀ x0 W, (callFunc 22 #[x0]).run Try.prog W = .ok (.enter 22 #[x0]) W := fun _ _ => by kernel_rfl
        refine Rv.step_fn (op := Go.Op.call { callee := Go.Callee.value (Go.Operand.func 22), args := #[Go.Operand.tmp 48], argTypes := #[26] }) (ty := 24) (f := 22) (args := #[.agg #[.int .i64 ta.k, .int .i64 ta.n, .string ta.s, .slice A ta.ns.length c, .slice A2 ta.is.length c2]]) (R := fun v W' => RJ W' v (lsJ ta) ∧ Below W.heap.size W W') rfl rfl (fun d pos aft g => by unfold execOp; go_simp) ((list_any ta _ _ W HWA.out (HJA.out W htr)).mono ?_) ?_
        · (rintro e W' ⟨u, rfl, hu, hb⟩; exact ⟨_, rfl, hu, hb⟩)
        · (rintro v W' ⟨hu, hb⟩; exact ⟨_, rfl, hu, hb⟩)
      | 2, _ =>
        obtain ⟨e3, x3⟩ := Rv.ev (show a.tmps.getD 3 undef = .pointer (some ⟨w.heap.size + 1, 0, none⟩) from hbase 3 rfl)
        exact Rv.step_op (op := Go.Op.load 26 (Go.Operand.tmp 3)) (v := .agg #[.int .i64 tb.k, .int .i64 tb.n, .string tb.s, .slice B tb.ns.length d, .slice B2 tb.is.length d2]) (w1 := W) rfl rfl (fun d pos aft g => by unfold execOp; go_simp) ⟨_, rfl, rfl, Below.refl _ _⟩
      | 3, _ =>
        obtain ⟨e50, x50⟩ := Rv.ev (show a.tmps.getD 50 undef = .agg #[.int .i64 tb.k, .int .i64 tb.n, .string tb.s, .slice B tb.ns.length d, .slice B2 tb.is.length d2] from hdep 2 rfl)
        have cf : ∀ x0 W, (callFunc 22 #[x0]).run Try.prog W = .ok (.enter 22 #[x0]) W := fun _ _ => by kernel_rfl
        refine Rv.step_fn (op := Go.Op.call { callee := Go.Callee.value (Go.Operand.func 22), args := #[Go.Operand.tmp 50], argTypes := #[26] }) (ty := 24) (f := 22) (args := #[.agg #[.int .i64 tb.k, .int .i64 tb.n, .string tb.s, .slice B tb.ns.length d, .slice B2 tb.is.length d2]]) (R := fun v W' => RJ W' v (lsJ tb) ∧ Below W.heap.size W W') rfl rfl (fun d pos aft g => by unfold execOp; go_simp) ((list_any tb _ _ W HWB.out (HJB.out W htr)).mono ?_) ?_
        · (rintro e W' ⟨u, rfl, hu, hb⟩; exact ⟨_, rfl, hu, hb⟩)
        · (rintro v W' ⟨hu, hb⟩; exact ⟨_, rfl, hu, hb⟩)
      | 4, _ =>
        have n7 : RJ W (a.tmps.getD 49 undef) (lsJ ta) := hdep 1 rfl
        obtain ⟨v7, q7⟩ : ∃ v, a.tmps.getD 49 undef = v := ⟨_, rfl⟩
        rw [q7] at n7
        obtain ⟨e49, x49⟩ := Rv.ev q7
        exact Rv.step_op (op := Go.Op.assign (Go.Operand.tmp 49)) (ty := 24) (v := v7) (w1 := W) rfl rfl (fun d pos aft g => by unfold execOp; go_simp) ⟨_, rfl, n7, Below.refl _ _⟩
      | 5, _ =>
        have n7 : RJ W (a.tmps.getD 51 undef) (lsJ tb) := hdep 3 rfl
        obtain ⟨v7, q7⟩ : ∃ v, a.tmps.getD 51 undef = v := ⟨_, rfl⟩
        rw [q7] at n7
        obtain ⟨e51, x51⟩ := Rv.ev q7
        exact Rv.step_op (op := Go.Op.assign (Go.Operand.tmp 51)) (ty := 24) (v := v7) (w1 := W) rfl rfl (fun d pos aft g => by unfold execOp; go_simp) ⟨_, rfl, n7, Below.refl _ _⟩
      | m + 6, h => exact absurd h (by show ¬ m + 6 < 6; omega)
    intro W f hf htr
    have f0 : f 0 = .agg #[.int .i64 ta.k, .int .i64 ta.n, .string ta.s, .slice A ta.ns.length c, .slice A2 ta.is.length c2] := hf 0 (by show 0 < 6; omega)
    have f1 := hf 1 (by show 1 < 6; omega)
    have f2 : f 2 = .agg #[.int .i64 tb.k, .int .i64 tb.n, .string tb.s, .slice B tb.ns.length d, .slice B2 tb.is.length d2] := hf 2 (by show 2 < 6; omega)
    have f3 := hf 3 (by show 3 < 6; omega)
    have f4 := hf 4 (by show 4 < 6; omega)
    have f5 := hf 5 (by show 5 < 6; omega)
    refine (show ∀ (a : Act) (w : World), Code.wp _ _ _ a w → _ from by assumption) _ _ ?_
    refine Rv.fin_swap (L' := [(48, f 0), (49, f 1), (50, f 2), (51, f 3), (7, f 4), (8, f 5)]) rfl ?_
    rw [f0, f2]
    clear f0 f2
    simp only [Rv.fin, List.foldl_cons, List.foldl_nil, Act.put, List.setIfInBounds_toArray, List.set_cons_succ, List.set_cons_zero]
    have R7 : RJ W (f 4) (lsJ ta) := hf 4 (by show 4 < 6; omega)
    have R8 : RJ W (f 5) (lsJ tb) := hf 5 (by show 5 < 6; omega)
    have HB9 := Lib.hid (HX0.out.trans (htr.mono HX0.out.size))
    clear hf htr TQ HJA HJB HTQ HX0
    obtain ⟨A7, c7, hs7, e7, r7, j7⟩ := R7
    obtain ⟨A8, c8, hs8, e8, r8, j8⟩ := R8
    rw [e7, e8]
    clear e7 e8
    generalize f 1 = u1
    generalize f 3 = u3
    have HLA := Lib.hid (lsJ_wf HWA.out)
    have HLB := Lib.hid (lsJ_wf HWB.out)
    have hla4 := lsJ_len HWA.out
    have hlb4 := lsJ_len HWB.out
    generalize lsJ ta = la at *
    generalize lsJ tb = lb at *
    have R7 := Lib.hid r7
    have R8 := Lib.hid r8
    have J7 := Lib.hid j7
    have J8 := Lib.hid j8
    clear r7 r8 j7 j8
    rename World => W9
    go_upto_region 11 with fail
    go_loopw [9, 10] (fun v9 v10 wr => ∃ (i1 : Nat), v9 = .int .i64 (i1 : Int) ∧ i1 ≤ la.length ∧ Hid (∀ i, i < i1 → ∀ (hi : i < la.length), (lb.any fun y => eqJ la[i] y) = false) ∧ Hid (Below W9.heap.size W9 wr)) (fun v9 _ _ => (la.length - (intOf v9)).toNat)
    case atStart => exact ⟨0, rfl, Nat.zero_le _, Lib.hid (fun i hi => absurd hi (Nat.not_lt_zero i)), Lib.hid (Below.refl _ _)⟩
    case round =>
      obtain ⟨i1, rfl, hi1, HAL, HBW⟩ := hrel
      by_cases hlt : i1 < la.length
      · go_upto_region 14 with fail
        go_loopw [10] (fun v10 wr => ∃ (j1 : Nat), v10 = .int .i64 (j1 : Int) ∧ j1 ≤ lb.length ∧ Hid (∀ j, j < j1 → ∀ (hj : j < lb.length), eqJ la[i1] lb[j] = false) ∧ Hid (Below W9.heap.size W9 wr)) (fun v10 _ => (lb.length - (intOf v10)).toNat)
        case atStart => exact ⟨0, rfl, Nat.zero_le _, Lib.hid (fun j hj => absurd hj (Nat.not_lt_zero j)), HBW⟩
        case round =>
          obtain ⟨j1, rfl, hj1, HBL, HXB⟩ := hrel
          clear HBW
          by_cases hjlt : j1 < lb.length
          · obtain ⟨bi, oi, A3, c3, A4, c4, ea, hbi, u0, u1, u2, u3, u4, hji⟩ := row_item R7.out J7.out rfl i1 hlt
            subst ea
            obtain ⟨bj, oj, B3, d3, B4, d4, eb, hbj, q0, q1, q2, q3, q4, hjj⟩ := row_item R8.out J8.out rfl j1 hjlt
            subst eb
            go_upto_region 16 with fail
            rename World => X
            have HIL := Lib.hid hlt
            have HJL := Lib.hid hjlt
            have IC := Lib.hid (fun (W : World) (hb : Below X.heap.size X W) => have hb := HXB.out.trans (hb.mono HXB.out.size); show W.cell? ⟨bi, oi + i1 * 5, none⟩ = _ ∧ W.cell? ⟨bi, oi + i1 * 5 + 1, none⟩ = _ ∧ W.cell? ⟨bi, oi + i1 * 5 + 2, none⟩ = _ ∧ W.cell? ⟨bi, oi + i1 * 5 + 3, none⟩ = _ ∧ W.cell? ⟨bi, oi + i1 * 5 + 4, none⟩ = _ from ⟨(hb.cell hbi).trans u0, (hb.cell hbi).trans u1, (hb.cell hbi).trans u2, (hb.cell hbi).trans u3, (hb.cell hbi).trans u4⟩)
            have JC := Lib.hid (fun (W : World) (hb : Below X.heap.size X W) => have hb := HXB.out.trans (hb.mono HXB.out.size); show W.cell? ⟨bj, oj + j1 * 5, none⟩ = _ ∧ W.cell? ⟨bj, oj + j1 * 5 + 1, none⟩ = _ ∧ W.cell? ⟨bj, oj + j1 * 5 + 2, none⟩ = _ ∧ W.cell? ⟨bj, oj + j1 * 5 + 3, none⟩ = _ ∧ W.cell? ⟨bj, oj + j1 * 5 + 4, none⟩ = _ from ⟨(hb.cell hbj).trans q0, (hb.cell hbj).trans q1, (hb.cell hbj).trans q2, (hb.cell hbj).trans q3, (hb.cell hbj).trans q4⟩)
            have IH := Lib.hid (fun (W : World) (hb : Below X.heap.size X W) => have hb := HXB.out.trans (hb.mono HXB.out.size); equal_any la[i1] lb[j1] _ _ _ _ W (HLA.out _ (List.getElem_mem hlt)) (HLB.out _ (List.getElem_mem hjlt)) (hji.below hb) (hjj.below hb))
            have HEQ := Lib.hid (rfl : eqJ la[i1] lb[j1] = eqJ la[i1] lb[j1])
            clear u0 u1 u2 u3 u4 q0 q1 q2 q3 q4 hji hjj
            generalize hti : la[i1] = ti at IH IC
            generalize htj : lb[j1] = tj at IH JC
            have HTI := Lib.hid hti
            have HTJ := Lib.hid htj
            clear hti htj HEQ
            obtain ⟨r, hr⟩ : ∃ r, eqJ ti tj = r := ⟨_, rfl⟩
            rw [hr] at IH
            have HR := Lib.hid hr
            clear hr
            refine Rv.region_goods (n := 73) (by kernel_rfl) #[64, 65, 66, 67, 68, 69, 70, 71, 72] #[] (fun i v W => v = (#[.slice (some ⟨bi, oi, none⟩) la.length c7, .int .i64 (i1 : Int), .pointer (some ⟨bi, oi + i1 * 5, none⟩), .agg #[.int .i64 ti.k, .int .i64 ti.n, .string ti.s, .slice A3 ti.ns.length c3, .slice A4 ti.is.length c4], .slice (some ⟨bj, oj, none⟩) lb.length c8, .int .i64 (j1 : Int), .pointer (some ⟨bj, oj + j1 * 5, none⟩), .agg #[.int .i64 tj.k, .int .i64 tj.n, .string tj.s, .slice B3 tj.ns.length d3, .slice B4 tj.is.length d4], .bool r] : Array Value).getD i undef) (fun i v w w' h hb => ?_) (fun i h g b hg => ?_) rfl (by kernel_rfl) (by kernel_rfl) (fun i h hr w => ?_) ?_ ?_
            · exact h
            · match i, h, hg with
              | 0, _, hg => cases hg
              | 1, _, hg => cases hg
              | 2, _, hg => cases hg
              | 3, _, hg => cases hg
              | 4, _, hg => cases hg
              | 5, _, hg => cases hg
              | 6, _, hg => cases hg
              | 7, _, hg => cases hg
              | 8, _, hg => cases hg
              | m + 9, h, _ => exact absurd h (by show ¬ m + 9 < 9; omega)
            · match i, h, hr with
              | 0, _, hr => exact Bool.noConfusion (show true = false from hr)
              | 1, _, hr => exact Bool.noConfusion (show true = false from hr)
              | 2, _, hr => exact Bool.noConfusion (show true = false from hr)
              | 3, _, hr => exact Bool.noConfusion (show true = false from hr)
              | 4, _, hr => exact Bool.noConfusion (show true = false from hr)
              | 5, _, hr => exact Bool.noConfusion (show true = false from hr)
              | 6, _, hr => exact Bool.noConfusion (show true = false from hr)
              | 7, _, hr => exact Bool.noConfusion (show true = false from hr)
              | 8, _, hr => exact Bool.noConfusion (show true = false from hr)
              | m + 9, h, _ => exact absurd h (by show ¬ m + 9 < 9; omega)
            · intro i h a W hrun hbase hpre hdep htr
              have hil := HIL.out
              have hjl := HJL.out
              obtain ⟨i0, i1', i2, i3, i4⟩ := IC.out W htr
              obtain ⟨j0, j1', j2, j3, j4⟩ := JC.out W htr
              match i, h with
              | 0, _ =>
                obtain ⟨e7, x7⟩ := Rv.ev (show a.tmps.getD 7 undef = .slice (some ⟨bi, oi, none⟩) la.length c7 from hbase 7 rfl)
                exact Rv.step_op (op := Go.Op.move (Go.Operand.tmp 7)) (v := .slice (some ⟨bi, oi, none⟩) la.length c7) (w1 := W) rfl rfl (fun d pos aft g => by unfold execOp; go_simp) ⟨_, rfl, rfl, Below.refl _ _⟩
              | 1, _ =>
                obtain ⟨e9, x9⟩ := Rv.ev (show a.tmps.getD 9 undef = .int .i64 (i1 : Int) from hbase 9 rfl)
                exact Rv.step_op (op := Go.Op.move (Go.Operand.tmp 9)) (v := .int .i64 (i1 : Int)) (w1 := W) rfl rfl (fun d pos aft g => by unfold execOp; go_simp) ⟨_, rfl, rfl, Below.refl _ _⟩
              | 2, _ =>
                obtain ⟨e64, x64⟩ := Rv.ev (show a.tmps.getD 64 undef = .slice (some ⟨bi, oi, none⟩) la.length c7 from hdep 0 rfl)
                obtain ⟨e65, x65⟩ := Rv.ev (show a.tmps.getD 65 undef = .int .i64 (i1 : Int) from hdep 1 rfl)
                exact Rv.step_op (op := Go.Op.indexAddr 24 (Go.Operand.tmp 64) (Go.Operand.tmp 65)) (v := .pointer (some ⟨bi, oi + i1 * 5, none⟩)) (w1 := W) rfl rfl (fun d pos aft g => by unfold execOp; go_simp) ⟨_, rfl, rfl, Below.refl _ _⟩
              | 3, _ =>
                obtain ⟨e66, x66⟩ := Rv.ev (show a.tmps.getD 66 undef = .pointer (some ⟨bi, oi + i1 * 5, none⟩) from hdep 2 rfl)
                exact Rv.step_op (op := Go.Op.load 26 (Go.Operand.tmp 66)) (v := .agg #[.int .i64 ti.k, .int .i64 ti.n, .string ti.s, .slice A3 ti.ns.length c3, .slice A4 ti.is.length c4]) (w1 := W) rfl rfl (fun d pos aft g => by unfold execOp; go_simp) ⟨_, rfl, rfl, Below.refl _ _⟩
              | 4, _ =>
                obtain ⟨e8, x8⟩ := Rv.ev (show a.tmps.getD 8 undef = .slice (some ⟨bj, oj, none⟩) lb.length c8 from hbase 8 rfl)
                exact Rv.step_op (op := Go.Op.move (Go.Operand.tmp 8)) (v := .slice (some ⟨bj, oj, none⟩) lb.length c8) (w1 := W) rfl rfl (fun d pos aft g => by unfold execOp; go_simp) ⟨_, rfl, rfl, Below.refl _ _⟩
              | 5, _ =>
                obtain ⟨e10, x10⟩ := Rv.ev (show a.tmps.getD 10 undef = .int .i64 (j1 : Int) from hbase 10 rfl)
                exact Rv.step_op (op := Go.Op.move (Go.Operand.tmp 10)) (v := .int .i64 (j1 : Int)) (w1 := W) rfl rfl (fun d pos aft g => by unfold execOp; go_simp) ⟨_, rfl, rfl, Below.refl _ _⟩
              | 6, _ =>
                obtain ⟨e68, x68⟩ := Rv.ev (show a.tmps.getD 68 undef = .slice (some ⟨bj, oj, none⟩) lb.length c8 from hdep 4 rfl)
                obtain ⟨e69, x69⟩ := Rv.ev (show a.tmps.getD 69 undef = .int .i64 (j1 : Int) from hdep 5 rfl)
                exact Rv.step_op (op := Go.Op.indexAddr 24 (Go.Operand.tmp 68) (Go.Operand.tmp 69)) (v := .pointer (some ⟨bj, oj + j1 * 5, none⟩)) (w1 := W) rfl rfl (fun d pos aft g => by unfold execOp; go_simp) ⟨_, rfl, rfl, Below.refl _ _⟩
              | 7, _ =>
                obtain ⟨e70, x70⟩ := Rv.ev (show a.tmps.getD 70 undef = .pointer (some ⟨bj, oj + j1 * 5, none⟩) from hdep 6 rfl)
                exact Rv.step_op (op := Go.Op.load 26 (Go.Operand.tmp 70)) (v := .agg #[.int .i64 tj.k, .int .i64 tj.n, .string tj.s, .slice B3 tj.ns.length d3, .slice B4 tj.is.length d4]) (w1 := W) rfl rfl (fun d pos aft g => by unfold execOp; go_simp) ⟨_, rfl, rfl, Below.refl _ _⟩
              | 8, _ =>
                obtain ⟨e67, x67⟩ := Rv.ev (show a.tmps.getD 67 undef = .agg #[.int .i64 ti.k, .int .i64 ti.n, .string ti.s, .slice A3 ti.ns.length c3, .slice A4 ti.is.length c4] from hdep 3 rfl)
                obtain ⟨e71, x71⟩ := Rv.ev (show a.tmps.getD 71 undef = .agg #[.int .i64 tj.k, .int .i64 tj.n, .string tj.s, .slice B3 tj.ns.length d3, .slice B4 tj.is.length d4] from hdep 7 rfl)
                have cf : ∀ x0 x1 W, (callFunc 21 #[x0, x1]).run Try.prog W = .ok (.enter 21 #[x0, x1]) W := fun _ _ _ => by kernel_rfl
                refine Rv.step_fn (op := Go.Op.call { callee := Go.Callee.value (Go.Operand.func 21), args := #[Go.Operand.tmp 67, Go.Operand.tmp 71], argTypes := #[26, 26] }) (f := 21) (args := #[.agg #[.int .i64 ti.k, .int .i64 ti.n, .string ti.s, .slice A3 ti.ns.length c3, .slice A4 ti.is.length c4], .agg #[.int .i64 tj.k, .int .i64 tj.n, .string tj.s, .slice B3 tj.ns.length d3, .slice B4 tj.is.length d4]]) (R := fun v W' => v = .bool r ∧ Below W.heap.size W W') rfl rfl (fun d pos aft g => by unfold execOp; go_simp) ((IH.out W htr).mono ?_) ?_
                · (rintro e W' ⟨rfl, hb⟩; exact ⟨_, rfl, rfl, hb⟩)
                · (rintro v W' ⟨rfl, hb⟩; exact ⟨_, rfl, rfl, hb⟩)
              | m + 9, h => exact absurd h (by show ¬ m + 9 < 9; omega)
            intro W f hf htr
            have f0 : f 0 = .slice (some ⟨bi, oi, none⟩) la.length c7 := hf 0 (by show 0 < 9; omega)
            have f1 : f 1 = .int .i64 (i1 : Int) := hf 1 (by show 1 < 9; omega)
            have f2 : f 2 = .pointer (some ⟨bi, oi + i1 * 5, none⟩) := hf 2 (by show 2 < 9; omega)
            have f3 : f 3 = .agg #[.int .i64 ti.k, .int .i64 ti.n, .string ti.s, .slice A3 ti.ns.length c3, .slice A4 ti.is.length c4] := hf 3 (by show 3 < 9; omega)
            have f4 : f 4 = .slice (some ⟨bj, oj, none⟩) lb.length c8 := hf 4 (by show 4 < 9; omega)
            have f5 : f 5 = .int .i64 (j1 : Int) := hf 5 (by show 5 < 9; omega)
            have f6 : f 6 = .pointer (some ⟨bj, oj + j1 * 5, none⟩) := hf 6 (by show 6 < 9; omega)
            have f7 : f 7 = .agg #[.int .i64 tj.k, .int .i64 tj.n, .string tj.s, .slice B3 tj.ns.length d3, .slice B4 tj.is.length d4] := hf 7 (by show 7 < 9; omega)
            have f8 : f 8 = .bool r := hf 8 (by show 8 < 9; omega)
            refine (show ∀ (a : Act) (w : World), Code.wp _ _ _ a w → _ from by assumption) _ _ ?_
            refine Rv.fin_swap (L' := [(64, f 0), (65, f 1), (66, f 2), (67, f 3), (68, f 4), (69, f 5), (70, f 6), (71, f 7), (72, f 8)]) rfl ?_
            rw [f0, f1, f2, f3, f4, f5, f6, f7, f8]
            clear f0 f1 f2 f3 f4 f5 f6 f7 f8
            simp only [Rv.fin, List.foldl_cons, List.foldl_nil, Act.put, List.setIfInBounds_toArray, List.set_cons_succ, List.set_cons_zero]
            have HXW := Lib.hid (HXB.out.trans (htr.mono HXB.out.size))
            clear hf htr IC JC IH
            cases r
            · go_wp2
              go_roundw
              case rel => exact ⟨j1 + 1, by go_num, by omega, Lib.hid (fun j hj hj2 => by
                rcases Nat.lt_succ_iff_lt_or_eq.1 hj with h | h
                · exact HBL.out j h hj2
                · subst h
                  have e := HR.out
                  rw [← HTI.out, ← HTJ.out] at e
                  exact e), HXW⟩
              case measure => simp [intOf]; omega
            · go_wp2
              go_ret
              refine ⟨?_, HB9.out.trans (HXW.out.mono HB9.out.size)⟩
              have : mtJ ta tb = true := by
                rw [HM.out, List.any_eq_true]
                refine ⟨la[i1], List.getElem_mem hlt, ?_⟩
                rw [List.any_eq_true]
                exact ⟨lb[j1], List.getElem_mem hjlt, by
                  have e := HR.out
                  rw [← HTI.out, ← HTJ.out] at e
                  exact e⟩
              rw [this]
              rfl
          · obtain rfl : j1 = lb.length := by omega
            go_wp2
            go_roundw
            case rel => exact ⟨i1 + 1, by go_num, by omega, Lib.hid (fun i hi hi2 => by
              rcases Nat.lt_succ_iff_lt_or_eq.1 hi with h | h
              · exact HAL.out i h hi2
              · subst h
                rw [List.any_eq_false]
                intro y hy
                obtain ⟨j, hj, rfl⟩ := List.getElem_of_mem hy
                rw [HBL.out j hj hj]
                simp), HXB⟩
            case measure => simp [intOf]; omega
      · obtain rfl : i1 = la.length := by omega
        go_wp2
        go_ret
        refine ⟨?_, HB9.out.trans (HBW.out.mono HB9.out.size)⟩
        have : mtJ ta tb = false := by
          rw [HM.out, List.any_eq_false]
          intro x hx
          obtain ⟨i, hi, rfl⟩ := List.getElem_of_mem hx
          rw [HAL.out i hi hi]
          simp
        rw [this]
        rfl
  case neg =>
    have ka : (ta.k == 5) = false := by simp [hka]
    clear hk hka
    go_enter Try.func10, Try.ntmps10
    go_upto_region 9 with fail
    clear y0 y1 y2 y3 y4 x0 x1 x2 x3 x4
    generalize (w.alloc (.cells #[.int .i64 ta.k, .int .i64 ta.n, .string ta.s, .slice A ta.ns.length c, .slice A2 ta.is.length c2] 26)).alloc (.cells #[.int .i64 tb.k, .int .i64 tb.n, .string tb.s, .slice B tb.ns.length d, .slice B2 tb.is.length d2] 26) = X at *
    have TQ := Lib.hid (fun (W : World) (hb : Below X.heap.size X W) => And.intro ((hb.block _ (Rv.lt_of_blk HTQ.out.1)).trans HTQ.out.1) ((hb.block _ (Rv.lt_of_blk HTQ.out.2)).trans HTQ.out.2))
    have HJA := Lib.hid (fun (W : World) (hb : Below X.heap.size X W) => HJA0.out.below (HX0.out.trans (hb.mono HX0.out.size)))
    have HJB := Lib.hid (fun (W : World) (hb : Below X.heap.size X W) => HJB0.out.below (HX0.out.trans (hb.mono HX0.out.size)))
    refine Rv.region_goods (n := 73) (by kernel_rfl) #[48, 49, 50, 51, 7, 8] #[] (fun i v W => if i = 5 then (fun v W => RJ W v (lsJ tb)) v W else if i = 4 then (fun v W => RJ W v (lsJ ta)) v W else if i = 3 then (fun v W => RJ W v (lsJ tb)) v W else if i = 1 then (fun v W => RJ W v (lsJ ta)) v W else v = (#[.agg #[.int .i64 ta.k, .int .i64 ta.n, .string ta.s, .slice A ta.ns.length c, .slice A2 ta.is.length c2], undef, .agg #[.int .i64 tb.k, .int .i64 tb.n, .string tb.s, .slice B tb.ns.length d, .slice B2 tb.is.length d2], undef, undef, undef] : Array Value).getD i undef) (fun i v w w' h hb => ?_) (fun i h g b hg => ?_) rfl (by kernel_rfl) (by kernel_rfl) (fun i h hr w => ?_) ?_ ?_
    · by_cases hi8 : i = 5
      · subst hi8
        rw [if_pos rfl] at h ⊢
        exact (fun v w w' h hb => h.below hb) v w w' h hb
      rw [if_neg hi8] at h ⊢
      by_cases hi7 : i = 4
      · subst hi7
        rw [if_pos rfl] at h ⊢
        exact (fun v w w' h hb => h.below hb) v w w' h hb
      rw [if_neg hi7] at h ⊢
      by_cases hi51 : i = 3
      · subst hi51
        rw [if_pos rfl] at h ⊢
        exact (fun v w w' h hb => h.below hb) v w w' h hb
      rw [if_neg hi51] at h ⊢
      by_cases hi49 : i = 1
      · subst hi49
        rw [if_pos rfl] at h ⊢
        exact (fun v w w' h hb => h.below hb) v w w' h hb
      rw [if_neg hi49] at h ⊢
      exact h
    · match i, h, hg with
      | 0, _, hg => cases hg
      | 1, _, hg => cases hg
      | 2, _, hg => cases hg
      | 3, _, hg => cases hg
      | 4, _, hg => cases hg
      | 5, _, hg => cases hg
      | m + 6, h, _ => exact absurd h (by show ¬ m + 6 < 6; omega)
    · match i, h, hr with
      | 0, _, hr => exact Bool.noConfusion (show true = false from hr)
      | 1, _, hr => exact Bool.noConfusion (show true = false from hr)
      | 2, _, hr => exact Bool.noConfusion (show true = false from hr)
      | 3, _, hr => exact Bool.noConfusion (show true = false from hr)
      | 4, _, hr => exact Bool.noConfusion (show true = false from hr)
      | 5, _, hr => exact Bool.noConfusion (show true = false from hr)
      | m + 6, h, _ => exact absurd h (by show ¬ m + 6 < 6; omega)
    · intro i h a W hrun hbase hpre hdep htr
      obtain ⟨y0, y1, y2, y3, y4⟩ := Rv.cells5 (TQ.out W htr).1
      obtain ⟨x0, x1, x2, x3, x4⟩ := Rv.cells5 (TQ.out W htr).2
      match i, h with
      | 0, _ =>
        obtain ⟨e2, x2⟩ := Rv.ev (show a.tmps.getD 2 undef = .pointer (some ⟨w.heap.size, 0, none⟩) from hbase 2 rfl)
        exact Rv.step_op (op := Go.Op.load 26 (Go.Operand.tmp 2)) (v := .agg #[.int .i64 ta.k, .int .i64 ta.n, .string ta.s, .slice A ta.ns.length c, .slice A2 ta.is.length c2]) (w1 := W) rfl rfl (fun d pos aft g => by unfold execOp; go_simp) ⟨_, rfl, rfl, Below.refl _ _⟩
      | 1, _ =>
        obtain ⟨e48, x48⟩ := Rv.ev (show a.tmps.getD 48 undef = .agg #[.int .i64 ta.k, .int .i64 ta.n, .string ta.s, .slice A ta.ns.length c, .slice A2 ta.is.length c2] from hdep 0 rfl)
        have cf : ∀ x0 W, (callFunc 22 #[x0]).run Try.prog W = .ok (.enter 22 #[x0]) W := fun _ _ => by kernel_rfl
        refine Rv.step_fn (op := Go.Op.call { callee := Go.Callee.value (Go.Operand.func 22), args := #[Go.Operand.tmp 48], argTypes := #[26] }) (ty := 24) (f := 22) (args := #[.agg #[.int .i64 ta.k, .int .i64 ta.n, .string ta.s, .slice A ta.ns.length c, .slice A2 ta.is.length c2]]) (R := fun v W' => RJ W' v (lsJ ta) ∧ Below W.heap.size W W') rfl rfl (fun d pos aft g => by unfold execOp; go_simp) ((list_any ta _ _ W HWA.out (HJA.out W htr)).mono ?_) ?_
        · (rintro e W' ⟨u, rfl, hu, hb⟩; exact ⟨_, rfl, hu, hb⟩)
        · (rintro v W' ⟨hu, hb⟩; exact ⟨_, rfl, hu, hb⟩)
      | 2, _ =>
        obtain ⟨e3, x3⟩ := Rv.ev (show a.tmps.getD 3 undef = .pointer (some ⟨w.heap.size + 1, 0, none⟩) from hbase 3 rfl)
        exact Rv.step_op (op := Go.Op.load 26 (Go.Operand.tmp 3)) (v := .agg #[.int .i64 tb.k, .int .i64 tb.n, .string tb.s, .slice B tb.ns.length d, .slice B2 tb.is.length d2]) (w1 := W) rfl rfl (fun d pos aft g => by unfold execOp; go_simp) ⟨_, rfl, rfl, Below.refl _ _⟩
      | 3, _ =>
        obtain ⟨e50, x50⟩ := Rv.ev (show a.tmps.getD 50 undef = .agg #[.int .i64 tb.k, .int .i64 tb.n, .string tb.s, .slice B tb.ns.length d, .slice B2 tb.is.length d2] from hdep 2 rfl)
        have cf : ∀ x0 W, (callFunc 22 #[x0]).run Try.prog W = .ok (.enter 22 #[x0]) W := fun _ _ => by kernel_rfl
        refine Rv.step_fn (op := Go.Op.call { callee := Go.Callee.value (Go.Operand.func 22), args := #[Go.Operand.tmp 50], argTypes := #[26] }) (ty := 24) (f := 22) (args := #[.agg #[.int .i64 tb.k, .int .i64 tb.n, .string tb.s, .slice B tb.ns.length d, .slice B2 tb.is.length d2]]) (R := fun v W' => RJ W' v (lsJ tb) ∧ Below W.heap.size W W') rfl rfl (fun d pos aft g => by unfold execOp; go_simp) ((list_any tb _ _ W HWB.out (HJB.out W htr)).mono ?_) ?_
        · (rintro e W' ⟨u, rfl, hu, hb⟩; exact ⟨_, rfl, hu, hb⟩)
        · (rintro v W' ⟨hu, hb⟩; exact ⟨_, rfl, hu, hb⟩)
      | 4, _ =>
        have n7 : RJ W (a.tmps.getD 49 undef) (lsJ ta) := hdep 1 rfl
        obtain ⟨v7, q7⟩ : ∃ v, a.tmps.getD 49 undef = v := ⟨_, rfl⟩
        rw [q7] at n7
        obtain ⟨e49, x49⟩ := Rv.ev q7
        exact Rv.step_op (op := Go.Op.assign (Go.Operand.tmp 49)) (ty := 24) (v := v7) (w1 := W) rfl rfl (fun d pos aft g => by unfold execOp; go_simp) ⟨_, rfl, n7, Below.refl _ _⟩
      | 5, _ =>
        have n7 : RJ W (a.tmps.getD 51 undef) (lsJ tb) := hdep 3 rfl
        obtain ⟨v7, q7⟩ : ∃ v, a.tmps.getD 51 undef = v := ⟨_, rfl⟩
        rw [q7] at n7
        obtain ⟨e51, x51⟩ := Rv.ev q7
        exact Rv.step_op (op := Go.Op.assign (Go.Operand.tmp 51)) (ty := 24) (v := v7) (w1 := W) rfl rfl (fun d pos aft g => by unfold execOp; go_simp) ⟨_, rfl, n7, Below.refl _ _⟩
      | m + 6, h => exact absurd h (by show ¬ m + 6 < 6; omega)
    intro W f hf htr
    have f0 : f 0 = .agg #[.int .i64 ta.k, .int .i64 ta.n, .string ta.s, .slice A ta.ns.length c, .slice A2 ta.is.length c2] := hf 0 (by show 0 < 6; omega)
    have f1 := hf 1 (by show 1 < 6; omega)
    have f2 : f 2 = .agg #[.int .i64 tb.k, .int .i64 tb.n, .string tb.s, .slice B tb.ns.length d, .slice B2 tb.is.length d2] := hf 2 (by show 2 < 6; omega)
    have f3 := hf 3 (by show 3 < 6; omega)
    have f4 := hf 4 (by show 4 < 6; omega)
    have f5 := hf 5 (by show 5 < 6; omega)
    refine (show ∀ (a : Act) (w : World), Code.wp _ _ _ a w → _ from by assumption) _ _ ?_
    refine Rv.fin_swap (L' := [(48, f 0), (49, f 1), (50, f 2), (51, f 3), (7, f 4), (8, f 5)]) rfl ?_
    rw [f0, f2]
    clear f0 f2
    simp only [Rv.fin, List.foldl_cons, List.foldl_nil, Act.put, List.setIfInBounds_toArray, List.set_cons_succ, List.set_cons_zero]
    have R7 : RJ W (f 4) (lsJ ta) := hf 4 (by show 4 < 6; omega)
    have R8 : RJ W (f 5) (lsJ tb) := hf 5 (by show 5 < 6; omega)
    have HB9 := Lib.hid (HX0.out.trans (htr.mono HX0.out.size))
    clear hf htr TQ HJA HJB HTQ HX0
    obtain ⟨A7, c7, hs7, e7, r7, j7⟩ := R7
    obtain ⟨A8, c8, hs8, e8, r8, j8⟩ := R8
    rw [e7, e8]
    clear e7 e8
    generalize f 1 = u1
    generalize f 3 = u3
    have HLA := Lib.hid (lsJ_wf HWA.out)
    have HLB := Lib.hid (lsJ_wf HWB.out)
    have hla4 := lsJ_len HWA.out
    have hlb4 := lsJ_len HWB.out
    generalize lsJ ta = la at *
    generalize lsJ tb = lb at *
    have R7 := Lib.hid r7
    have R8 := Lib.hid r8
    have J7 := Lib.hid j7
    have J8 := Lib.hid j8
    clear r7 r8 j7 j8
    rename World => W9
    go_upto_region 11 with fail
    go_loopw [9, 10] (fun v9 v10 wr => ∃ (i1 : Nat), v9 = .int .i64 (i1 : Int) ∧ i1 ≤ la.length ∧ Hid (∀ i, i < i1 → ∀ (hi : i < la.length), (lb.any fun y => eqJ la[i] y) = false) ∧ Hid (Below W9.heap.size W9 wr)) (fun v9 _ _ => (la.length - (intOf v9)).toNat)
    case atStart => exact ⟨0, rfl, Nat.zero_le _, Lib.hid (fun i hi => absurd hi (Nat.not_lt_zero i)), Lib.hid (Below.refl _ _)⟩
    case round =>
      obtain ⟨i1, rfl, hi1, HAL, HBW⟩ := hrel
      by_cases hlt : i1 < la.length
      · go_upto_region 14 with fail
        go_loopw [10] (fun v10 wr => ∃ (j1 : Nat), v10 = .int .i64 (j1 : Int) ∧ j1 ≤ lb.length ∧ Hid (∀ j, j < j1 → ∀ (hj : j < lb.length), eqJ la[i1] lb[j] = false) ∧ Hid (Below W9.heap.size W9 wr)) (fun v10 _ => (lb.length - (intOf v10)).toNat)
        case atStart => exact ⟨0, rfl, Nat.zero_le _, Lib.hid (fun j hj => absurd hj (Nat.not_lt_zero j)), HBW⟩
        case round =>
          obtain ⟨j1, rfl, hj1, HBL, HXB⟩ := hrel
          clear HBW
          by_cases hjlt : j1 < lb.length
          · obtain ⟨bi, oi, A3, c3, A4, c4, ea, hbi, u0, u1, u2, u3, u4, hji⟩ := row_item R7.out J7.out rfl i1 hlt
            subst ea
            obtain ⟨bj, oj, B3, d3, B4, d4, eb, hbj, q0, q1, q2, q3, q4, hjj⟩ := row_item R8.out J8.out rfl j1 hjlt
            subst eb
            go_upto_region 16 with fail
            rename World => X
            have HIL := Lib.hid hlt
            have HJL := Lib.hid hjlt
            have IC := Lib.hid (fun (W : World) (hb : Below X.heap.size X W) => have hb := HXB.out.trans (hb.mono HXB.out.size); show W.cell? ⟨bi, oi + i1 * 5, none⟩ = _ ∧ W.cell? ⟨bi, oi + i1 * 5 + 1, none⟩ = _ ∧ W.cell? ⟨bi, oi + i1 * 5 + 2, none⟩ = _ ∧ W.cell? ⟨bi, oi + i1 * 5 + 3, none⟩ = _ ∧ W.cell? ⟨bi, oi + i1 * 5 + 4, none⟩ = _ from ⟨(hb.cell hbi).trans u0, (hb.cell hbi).trans u1, (hb.cell hbi).trans u2, (hb.cell hbi).trans u3, (hb.cell hbi).trans u4⟩)
            have JC := Lib.hid (fun (W : World) (hb : Below X.heap.size X W) => have hb := HXB.out.trans (hb.mono HXB.out.size); show W.cell? ⟨bj, oj + j1 * 5, none⟩ = _ ∧ W.cell? ⟨bj, oj + j1 * 5 + 1, none⟩ = _ ∧ W.cell? ⟨bj, oj + j1 * 5 + 2, none⟩ = _ ∧ W.cell? ⟨bj, oj + j1 * 5 + 3, none⟩ = _ ∧ W.cell? ⟨bj, oj + j1 * 5 + 4, none⟩ = _ from ⟨(hb.cell hbj).trans q0, (hb.cell hbj).trans q1, (hb.cell hbj).trans q2, (hb.cell hbj).trans q3, (hb.cell hbj).trans q4⟩)
            have IH := Lib.hid (fun (W : World) (hb : Below X.heap.size X W) => have hb := HXB.out.trans (hb.mono HXB.out.size); equal_any la[i1] lb[j1] _ _ _ _ W (HLA.out _ (List.getElem_mem hlt)) (HLB.out _ (List.getElem_mem hjlt)) (hji.below hb) (hjj.below hb))
            have HEQ := Lib.hid (rfl : eqJ la[i1] lb[j1] = eqJ la[i1] lb[j1])
            clear u0 u1 u2 u3 u4 q0 q1 q2 q3 q4 hji hjj
            generalize hti : la[i1] = ti at IH IC
            generalize htj : lb[j1] = tj at IH JC
            have HTI := Lib.hid hti
            have HTJ := Lib.hid htj
            clear hti htj HEQ
            obtain ⟨r, hr⟩ : ∃ r, eqJ ti tj = r := ⟨_, rfl⟩
            rw [hr] at IH
            have HR := Lib.hid hr
            clear hr
            refine Rv.region_goods (n := 73) (by kernel_rfl) #[64, 65, 66, 67, 68, 69, 70, 71, 72] #[] (fun i v W => v = (#[.slice (some ⟨bi, oi, none⟩) la.length c7, .int .i64 (i1 : Int), .pointer (some ⟨bi, oi + i1 * 5, none⟩), .agg #[.int .i64 ti.k, .int .i64 ti.n, .string ti.s, .slice A3 ti.ns.length c3, .slice A4 ti.is.length c4], .slice (some ⟨bj, oj, none⟩) lb.length c8, .int .i64 (j1 : Int), .pointer (some ⟨bj, oj + j1 * 5, none⟩), .agg #[.int .i64 tj.k, .int .i64 tj.n, .string tj.s, .slice B3 tj.ns.length d3, .slice B4 tj.is.length d4], .bool r] : Array Value).getD i undef) (fun i v w w' h hb => ?_) (fun i h g b hg => ?_) rfl (by kernel_rfl) (by kernel_rfl) (fun i h hr w => ?_) ?_ ?_
            · exact h
            · match i, h, hg with
              | 0, _, hg => cases hg
              | 1, _, hg => cases hg
              | 2, _, hg => cases hg
              | 3, _, hg => cases hg
              | 4, _, hg => cases hg
              | 5, _, hg => cases hg
              | 6, _, hg => cases hg
              | 7, _, hg => cases hg
              | 8, _, hg => cases hg
              | m + 9, h, _ => exact absurd h (by show ¬ m + 9 < 9; omega)
            · match i, h, hr with
              | 0, _, hr => exact Bool.noConfusion (show true = false from hr)
              | 1, _, hr => exact Bool.noConfusion (show true = false from hr)
              | 2, _, hr => exact Bool.noConfusion (show true = false from hr)
              | 3, _, hr => exact Bool.noConfusion (show true = false from hr)
              | 4, _, hr => exact Bool.noConfusion (show true = false from hr)
              | 5, _, hr => exact Bool.noConfusion (show true = false from hr)
              | 6, _, hr => exact Bool.noConfusion (show true = false from hr)
              | 7, _, hr => exact Bool.noConfusion (show true = false from hr)
              | 8, _, hr => exact Bool.noConfusion (show true = false from hr)
              | m + 9, h, _ => exact absurd h (by show ¬ m + 9 < 9; omega)
            · intro i h a W hrun hbase hpre hdep htr
              have hil := HIL.out
              have hjl := HJL.out
              obtain ⟨i0, i1', i2, i3, i4⟩ := IC.out W htr
              obtain ⟨j0, j1', j2, j3, j4⟩ := JC.out W htr
              match i, h with
              | 0, _ =>
                obtain ⟨e7, x7⟩ := Rv.ev (show a.tmps.getD 7 undef = .slice (some ⟨bi, oi, none⟩) la.length c7 from hbase 7 rfl)
                exact Rv.step_op (op := Go.Op.move (Go.Operand.tmp 7)) (v := .slice (some ⟨bi, oi, none⟩) la.length c7) (w1 := W) rfl rfl (fun d pos aft g => by unfold execOp; go_simp) ⟨_, rfl, rfl, Below.refl _ _⟩
              | 1, _ =>
                obtain ⟨e9, x9⟩ := Rv.ev (show a.tmps.getD 9 undef = .int .i64 (i1 : Int) from hbase 9 rfl)
                exact Rv.step_op (op := Go.Op.move (Go.Operand.tmp 9)) (v := .int .i64 (i1 : Int)) (w1 := W) rfl rfl (fun d pos aft g => by unfold execOp; go_simp) ⟨_, rfl, rfl, Below.refl _ _⟩
              | 2, _ =>
                obtain ⟨e64, x64⟩ := Rv.ev (show a.tmps.getD 64 undef = .slice (some ⟨bi, oi, none⟩) la.length c7 from hdep 0 rfl)
                obtain ⟨e65, x65⟩ := Rv.ev (show a.tmps.getD 65 undef = .int .i64 (i1 : Int) from hdep 1 rfl)
                exact Rv.step_op (op := Go.Op.indexAddr 24 (Go.Operand.tmp 64) (Go.Operand.tmp 65)) (v := .pointer (some ⟨bi, oi + i1 * 5, none⟩)) (w1 := W) rfl rfl (fun d pos aft g => by unfold execOp; go_simp) ⟨_, rfl, rfl, Below.refl _ _⟩
              | 3, _ =>
                obtain ⟨e66, x66⟩ := Rv.ev (show a.tmps.getD 66 undef = .pointer (some ⟨bi, oi + i1 * 5, none⟩) from hdep 2 rfl)
                exact Rv.step_op (op := Go.Op.load 26 (Go.Operand.tmp 66)) (v := .agg #[.int .i64 ti.k, .int .i64 ti.n, .string ti.s, .slice A3 ti.ns.length c3, .slice A4 ti.is.length c4]) (w1 := W) rfl rfl (fun d pos aft g => by unfold execOp; go_simp) ⟨_, rfl, rfl, Below.refl _ _⟩
              | 4, _ =>
                obtain ⟨e8, x8⟩ := Rv.ev (show a.tmps.getD 8 undef = .slice (some ⟨bj, oj, none⟩) lb.length c8 from hbase 8 rfl)
                exact Rv.step_op (op := Go.Op.move (Go.Operand.tmp 8)) (v := .slice (some ⟨bj, oj, none⟩) lb.length c8) (w1 := W) rfl rfl (fun d pos aft g => by unfold execOp; go_simp) ⟨_, rfl, rfl, Below.refl _ _⟩
              | 5, _ =>
                obtain ⟨e10, x10⟩ := Rv.ev (show a.tmps.getD 10 undef = .int .i64 (j1 : Int) from hbase 10 rfl)
                exact Rv.step_op (op := Go.Op.move (Go.Operand.tmp 10)) (v := .int .i64 (j1 : Int)) (w1 := W) rfl rfl (fun d pos aft g => by unfold execOp; go_simp) ⟨_, rfl, rfl, Below.refl _ _⟩
              | 6, _ =>
                obtain ⟨e68, x68⟩ := Rv.ev (show a.tmps.getD 68 undef = .slice (some ⟨bj, oj, none⟩) lb.length c8 from hdep 4 rfl)
                obtain ⟨e69, x69⟩ := Rv.ev (show a.tmps.getD 69 undef = .int .i64 (j1 : Int) from hdep 5 rfl)
                exact Rv.step_op (op := Go.Op.indexAddr 24 (Go.Operand.tmp 68) (Go.Operand.tmp 69)) (v := .pointer (some ⟨bj, oj + j1 * 5, none⟩)) (w1 := W) rfl rfl (fun d pos aft g => by unfold execOp; go_simp) ⟨_, rfl, rfl, Below.refl _ _⟩
              | 7, _ =>
                obtain ⟨e70, x70⟩ := Rv.ev (show a.tmps.getD 70 undef = .pointer (some ⟨bj, oj + j1 * 5, none⟩) from hdep 6 rfl)
                exact Rv.step_op (op := Go.Op.load 26 (Go.Operand.tmp 70)) (v := .agg #[.int .i64 tj.k, .int .i64 tj.n, .string tj.s, .slice B3 tj.ns.length d3, .slice B4 tj.is.length d4]) (w1 := W) rfl rfl (fun d pos aft g => by unfold execOp; go_simp) ⟨_, rfl, rfl, Below.refl _ _⟩
              | 8, _ =>
                obtain ⟨e67, x67⟩ := Rv.ev (show a.tmps.getD 67 undef = .agg #[.int .i64 ti.k, .int .i64 ti.n, .string ti.s, .slice A3 ti.ns.length c3, .slice A4 ti.is.length c4] from hdep 3 rfl)
                obtain ⟨e71, x71⟩ := Rv.ev (show a.tmps.getD 71 undef = .agg #[.int .i64 tj.k, .int .i64 tj.n, .string tj.s, .slice B3 tj.ns.length d3, .slice B4 tj.is.length d4] from hdep 7 rfl)
                have cf : ∀ x0 x1 W, (callFunc 21 #[x0, x1]).run Try.prog W = .ok (.enter 21 #[x0, x1]) W := fun _ _ _ => by kernel_rfl
                refine Rv.step_fn (op := Go.Op.call { callee := Go.Callee.value (Go.Operand.func 21), args := #[Go.Operand.tmp 67, Go.Operand.tmp 71], argTypes := #[26, 26] }) (f := 21) (args := #[.agg #[.int .i64 ti.k, .int .i64 ti.n, .string ti.s, .slice A3 ti.ns.length c3, .slice A4 ti.is.length c4], .agg #[.int .i64 tj.k, .int .i64 tj.n, .string tj.s, .slice B3 tj.ns.length d3, .slice B4 tj.is.length d4]]) (R := fun v W' => v = .bool r ∧ Below W.heap.size W W') rfl rfl (fun d pos aft g => by unfold execOp; go_simp) ((IH.out W htr).mono ?_) ?_
                · (rintro e W' ⟨rfl, hb⟩; exact ⟨_, rfl, rfl, hb⟩)
                · (rintro v W' ⟨rfl, hb⟩; exact ⟨_, rfl, rfl, hb⟩)
              | m + 9, h => exact absurd h (by show ¬ m + 9 < 9; omega)
            intro W f hf htr
            have f0 : f 0 = .slice (some ⟨bi, oi, none⟩) la.length c7 := hf 0 (by show 0 < 9; omega)
            have f1 : f 1 = .int .i64 (i1 : Int) := hf 1 (by show 1 < 9; omega)
            have f2 : f 2 = .pointer (some ⟨bi, oi + i1 * 5, none⟩) := hf 2 (by show 2 < 9; omega)
            have f3 : f 3 = .agg #[.int .i64 ti.k, .int .i64 ti.n, .string ti.s, .slice A3 ti.ns.length c3, .slice A4 ti.is.length c4] := hf 3 (by show 3 < 9; omega)
            have f4 : f 4 = .slice (some ⟨bj, oj, none⟩) lb.length c8 := hf 4 (by show 4 < 9; omega)
            have f5 : f 5 = .int .i64 (j1 : Int) := hf 5 (by show 5 < 9; omega)
            have f6 : f 6 = .pointer (some ⟨bj, oj + j1 * 5, none⟩) := hf 6 (by show 6 < 9; omega)
            have f7 : f 7 = .agg #[.int .i64 tj.k, .int .i64 tj.n, .string tj.s, .slice B3 tj.ns.length d3, .slice B4 tj.is.length d4] := hf 7 (by show 7 < 9; omega)
            have f8 : f 8 = .bool r := hf 8 (by show 8 < 9; omega)
            refine (show ∀ (a : Act) (w : World), Code.wp _ _ _ a w → _ from by assumption) _ _ ?_
            refine Rv.fin_swap (L' := [(64, f 0), (65, f 1), (66, f 2), (67, f 3), (68, f 4), (69, f 5), (70, f 6), (71, f 7), (72, f 8)]) rfl ?_
            rw [f0, f1, f2, f3, f4, f5, f6, f7, f8]
            clear f0 f1 f2 f3 f4 f5 f6 f7 f8
            simp only [Rv.fin, List.foldl_cons, List.foldl_nil, Act.put, List.setIfInBounds_toArray, List.set_cons_succ, List.set_cons_zero]
            have HXW := Lib.hid (HXB.out.trans (htr.mono HXB.out.size))
            clear hf htr IC JC IH
            cases r
            · go_wp2
              go_roundw
              case rel => exact ⟨j1 + 1, by go_num, by omega, Lib.hid (fun j hj hj2 => by
                rcases Nat.lt_succ_iff_lt_or_eq.1 hj with h | h
                · exact HBL.out j h hj2
                · subst h
                  have e := HR.out
                  rw [← HTI.out, ← HTJ.out] at e
                  exact e), HXW⟩
              case measure => simp [intOf]; omega
            · go_wp2
              go_ret
              refine ⟨?_, HB9.out.trans (HXW.out.mono HB9.out.size)⟩
              have : mtJ ta tb = true := by
                rw [HM.out, List.any_eq_true]
                refine ⟨la[i1], List.getElem_mem hlt, ?_⟩
                rw [List.any_eq_true]
                exact ⟨lb[j1], List.getElem_mem hjlt, by
                  have e := HR.out
                  rw [← HTI.out, ← HTJ.out] at e
                  exact e⟩
              rw [this]
              rfl
          · obtain rfl : j1 = lb.length := by omega
            go_wp2
            go_roundw
            case rel => exact ⟨i1 + 1, by go_num, by omega, Lib.hid (fun i hi hi2 => by
              rcases Nat.lt_succ_iff_lt_or_eq.1 hi with h | h
              · exact HAL.out i h hi2
              · subst h
                rw [List.any_eq_false]
                intro y hy
                obtain ⟨j, hj, rfl⟩ := List.getElem_of_mem hy
                rw [HBL.out j hj hj]
                simp), HXB⟩
            case measure => simp [intOf]; omega
      · obtain rfl : i1 = la.length := by omega
        go_wp2
        go_ret
        refine ⟨?_, HB9.out.trans (HBW.out.mono HB9.out.size)⟩
        have : mtJ ta tb = false := by
          rw [HM.out, List.any_eq_false]
          intro x hx
          obtain ⟨i, hi, rfl⟩ := List.getElem_of_mem hx
          rw [HAL.out i hi hi]
          simp
        rw [this]
        rfl
theorem meets_any (ta tb : J) (p q : Nat → Prop) (v1 v2 : Value) (w : World) (hwa : Wf ta) (hwb : Wf tb) (hja : JN p w ta v1) (hjb : JN q w tb v2) : Calls Try.prog 10 #[v1, v2] w fun e w' => e = .returned (.bool (mtJ ta tb)) ∧ Below w.heap.size w w' := by
  by_cases hk : ta.k = 5 ∧ tb.k = 5
  · exact meets_obj ta tb p q v1 v2 w hwa hwb hja hjb hk.1 hk.2
  · exact meets_list ta tb p q v1 v2 w hwa hwb hja hjb hk
end Go.Proofs.Ytmelgankbegjaaa.Js

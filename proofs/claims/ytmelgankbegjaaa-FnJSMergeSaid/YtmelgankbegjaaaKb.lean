/- The equality of trees, as the law reckons it. Conditions: those written at each lemma. -/
import Derived.Test.YtmelgankbegjaaaKa
set_option linter.unusedVariables false
set_option linter.unusedSimpArgs false
set_option maxRecDepth 100000
set_option maxHeartbeats 8000000
namespace Go.Proofs.Ytmelgankbegjaaa.Js
open Go.RowKit Go.Proofs.Ytmelgankbegjaaa.B

theorem two_boxes (w : World) (o1 o2 : Obj) : Below w.heap.size w ((w.alloc o1).alloc o2) ∧ ((w.alloc o1).alloc o2).heap[w.heap.size]? = some o1 ∧ ((w.alloc o1).alloc o2).heap[w.heap.size + 1]? = some o2 := by
  have h1 := heap_alloc_new w o1
  have hb : Below (w.alloc o1).heap.size (w.alloc o1) ((w.alloc o1).alloc o2) := (Below.refl _ _).alloc (Nat.le_refl _) _
  have h2 := heap_alloc_new (w.alloc o1) o2
  exact ⟨((Below.refl w.heap.size w).alloc (Nat.le_refl _) _).alloc (by simp) _, (hb.block _ (by simp)).trans h1, by simpa using h2⟩
theorem Wf.short {t : J} (h : Wf t) : t.is.length ≤ 4 ∧ t.ns.length ≤ 4 := by
  obtain ⟨k, n, s, ns, is⟩ := t
  show is.length ≤ 4 ∧ ns.length ≤ 4
  rcases h with ⟨rfl, _, _, e1, e2⟩ | ⟨rfl, _, _, e1, e2⟩ | ⟨rfl, _, _, _, e1, e2⟩ | ⟨rfl, _, _, e1, e2⟩ | ⟨rfl, _, _, e1, h, _⟩ | ⟨rfl, _, _, h1, h, _⟩
  · rw [e1, e2]; exact ⟨by simp, by simp⟩
  · rw [e1, e2]; exact ⟨by simp, by simp⟩
  · rw [e1, e2]; exact ⟨by simp, by simp⟩
  · rw [e1, e2]; exact ⟨by simp, by simp⟩
  · rw [e1]; exact ⟨h, by simp⟩
  · omega
theorem equal_step (ta : J) (IH0 : ∀ t ∈ ta.is, ∀ (tb : J) (p q : Nat → Prop) (v1 v2 : Value) (w : World), Wf t → Wf tb → JN p w t v1 → JN q w tb v2 → Calls Try.prog 21 #[v1, v2] w fun e w' => e = .returned (.bool (eqJ t tb)) ∧ Below w.heap.size w w')
    (tb : J) (p q : Nat → Prop) (v1 v2 : Value) (w : World) (hwa : Wf ta) (hwb : Wf tb) (hja : JN p w ta v1) (hjb : JN q w tb v2) : Calls Try.prog 21 #[v1, v2] w fun e w' => e = .returned (.bool (eqJ ta tb)) ∧ Below w.heap.size w w' := by
  have IH0 := Lib.hid IH0
  obtain ⟨A, c, A2, c2, e1, hna, hsa, hia, hha⟩ := hja.five
  obtain ⟨B, d, B2, d2, e2, hnb, hsb, hib, hhb⟩ := hjb.five
  have HJB0 := Lib.hid hjb
  subst e1 e2
  have HNA := Lib.hid hna.1
  have HNB := Lib.hid hnb.1
  have HIA := Lib.hid hia.1
  have HIB := Lib.hid hib.1
  have HHA := Lib.hid hha
  have HHB := Lib.hid hhb
  have HWA := Lib.hid hwa
  have HWB := Lib.hid hwb
  clear hja hjb hna hia hha hnb hib hhb hwa hwb
  obtain ⟨hx0, hx1, hx2⟩ := two_boxes w (.cells #[.int .i64 ta.k, .int .i64 ta.n, .string ta.s, .slice A ta.ns.length c, .slice A2 ta.is.length c2] 26) (.cells #[.int .i64 tb.k, .int .i64 tb.n, .string tb.s, .slice B tb.ns.length d, .slice B2 tb.is.length d2] 26)
  obtain ⟨y0, y1, y2, y3, y4⟩ := Rv.cells5 hx1
  obtain ⟨x0, x1, x2, x3, x4⟩ := Rv.cells5 hx2
  have HX0 := Lib.hid hx0
  have HT0 := Lib.hid (And.intro hx1 hx2)
  clear hx0 hx1 hx2
  obtain ⟨hla, hlna⟩ := HWA.out.short
  obtain ⟨hlb4, hlnb⟩ := HWB.out.short
  by_cases hk : ta.k = tb.k
  case neg =>
    have hkb : (ta.k == tb.k) = false := by simp [hk]
    go_enter Try.func21, Try.ntmps21
    go_wp2
    go_ret
    refine ⟨?_, HX0.out⟩
    have : eqJ ta tb = false := by
      rw [Bool.eq_false_iff]
      intro h
      obtain ⟨e1, e2, e3, e4, _⟩ := (eqJ_iff ta tb).1 h
      exact hk e1
    rw [this]
    rfl
  rw [hk] at HX0 HT0 y0 ⊢
  by_cases hn : ta.n = tb.n
  case neg =>
    have hnb : (ta.n == tb.n) = false := by simp [hn]
    have HK := Lib.hid hk
    clear hk
    go_enter Try.func21, Try.ntmps21
    go_wp2
    go_ret
    refine ⟨?_, HX0.out⟩
    have : eqJ ta tb = false := by
      rw [Bool.eq_false_iff]
      intro h
      obtain ⟨e1, e2, e3, e4, _⟩ := (eqJ_iff ta tb).1 h
      exact hn e2
    rw [this]
    rfl
  rw [hn] at HX0 HT0 y1 ⊢
  by_cases hs : ta.s = tb.s
  case neg =>
    have hse := tl_eq ta.s tb.s
    rw [decide_eq_false hs] at hse
    have HK := Lib.hid hk
    have HN := Lib.hid hn
    clear hk hn
    go_enter Try.func21, Try.ntmps21
    go_wp2
    go_ret
    refine ⟨?_, HX0.out⟩
    have : eqJ ta tb = false := by
      rw [Bool.eq_false_iff]
      intro h
      obtain ⟨e1, e2, e3, e4, _⟩ := (eqJ_iff ta tb).1 h
      exact hs e3
    rw [this]
    rfl
  rw [hs] at HX0 HT0 y2 ⊢
  by_cases hl : ta.is.length = tb.is.length
  case neg =>
    have hlb : ((ta.is.length : Int) == (tb.is.length : Int)) = false := by
      rw [beq_eq_false_iff_ne]
      omega
    have HK := Lib.hid hk
    have HN := Lib.hid hn
    have HS := Lib.hid hs
    clear hk hn hs
    go_enter Try.func21, Try.ntmps21
    go_wp2
    go_ret
    refine ⟨?_, HX0.out⟩
    have : eqJ ta tb = false := by
      rw [Bool.eq_false_iff]
      intro h
      obtain ⟨e1, e2, e3, e4, _⟩ := (eqJ_iff ta tb).1 h
      exact hl e4
    rw [this]
    rfl
  have hlb : ((ta.is.length : Int) == (tb.is.length : Int)) = true := by
    rw [beq_iff_eq]
    omega
  have HK := Lib.hid hk
  have HN := Lib.hid hn
  have HS := Lib.hid hs
  have HL := Lib.hid hl
  clear hk hn hs hl
  go_enter Try.func21, Try.ntmps21
  go_upto_region 4 with fail
  clear y0 y1 y2 y3 y4 x0 x1 x2 x3 x4 hlb
  generalize (w.alloc (.cells #[.int .i64 tb.k, .int .i64 tb.n, .string tb.s, .slice A ta.ns.length c, .slice A2 ta.is.length c2] 26)).alloc (.cells #[.int .i64 tb.k, .int .i64 tb.n, .string tb.s, .slice B tb.ns.length d, .slice B2 tb.is.length d2] 26) = w1 at *
  go_loopw [5, 6] (fun v5 v6 wr => ∃ (i1 : Nat), v5 = .int .i64 (i1 : Int) ∧ i1 ≤ ta.is.length ∧ Hid (∀ j, j < i1 → it ta tb j = true) ∧ Hid (Below w.heap.size w wr) ∧ Hid (wr.heap[w.heap.size]? = some (.cells #[.int .i64 tb.k, .int .i64 tb.n, .string tb.s, .slice A ta.ns.length c, .slice A2 ta.is.length c2] 26 (0, 0)) ∧ wr.heap[w.heap.size + 1]? = some (.cells #[.int .i64 tb.k, .int .i64 tb.n, .string tb.s, .slice B tb.ns.length d, .slice B2 tb.is.length d2] 26 (0, 0)))) (fun v5 _ _ => (ta.is.length - (intOf v5)).toNat)
  case atStart => exact ⟨0, rfl, Nat.zero_le _, Lib.hid (fun j hj => absurd hj (Nat.not_lt_zero j)), HX0, HT0⟩
  case round =>
    obtain ⟨i1, rfl, hi1, HAL, HXB, HTQ⟩ := hrel
    clear HX0 HT0
    obtain ⟨y0, y1, y2, y3, y4⟩ := Rv.cells5 HTQ.out.1
    by_cases hlt : i1 < ta.is.length
    · by_cases hk5 : ta.k = 5
      · have hk5b : (tb.k == 5) = true := by rw [← HK.out]; simp [hk5]
        have hp5 : ps ta.k ta.ns tb i1 = idx (ta.ns.getD i1 .empty) tb.ns 0 := by unfold ps; rw [if_pos hk5]
        have hnl := (HWA.out.kids.2 hk5).1
        have hnl2 := (HWB.out.kids.2 (HK.out ▸ hk5)).1
        obtain ⟨bn, on, cn, hv, _, _, hbn, hcn⟩ := HNA.out.open (by omega)
        injection hv with ev1 _ ev3
        subst ev1 ev3
        have xn0 := hcn i1 (.string (ta.ns.getD i1 .empty)) (by
          rw [List.getElem?_map, List.getElem?_eq_getElem (by omega : i1 < ta.ns.length), List.getD_eq_getElem?_getD, List.getElem?_eq_getElem (by omega : i1 < ta.ns.length)]
          rfl)
        have HNL := Lib.hid (show i1 < ta.ns.length by omega)
        have HLB := Lib.hid (show tb.ns.length ≤ 1000000 by omega)
        have HNL2 := Lib.hid hnl2
        clear hcn hk5 hnl hnl2
        generalize ta.ns.getD i1 .empty = nm at *
        go_upto_region 8 with fail
        clear y0 y1 y2 y3 y4 hk5b
        generalize wr = X at *
        have TQ := Lib.hid (fun (W : World) (hb : Below X.heap.size X W) => And.intro ((hb.block _ (Rv.lt_of_blk HTQ.out.1)).trans HTQ.out.1) ((hb.block _ (Rv.lt_of_blk HTQ.out.2)).trans HTQ.out.2))
        have NC := Lib.hid (fun (W : World) (hb : Below X.heap.size X W) => show W.cell? ⟨bn, on + i1, none⟩ = _ from ((HXB.out.trans (hb.mono HXB.out.size)).cell hbn).trans xn0)
        have HJB := Lib.hid (fun (W : World) (hb : Below X.heap.size X W) => HJB0.out.below (HXB.out.trans (hb.mono HXB.out.size)))
        clear xn0
        refine Rv.region_goods (n := 69) (by kernel_rfl) #[46, 47, 48, 49, 50, 51, 52, 6] #[] (fun i v W => v = (#[.agg #[.int .i64 tb.k, .int .i64 tb.n, .string tb.s, .slice B tb.ns.length d, .slice B2 tb.is.length d2], .pointer (some ⟨w.heap.size, 3, none⟩), .slice (some ⟨bn, on, none⟩) ta.ns.length c, .int .i64 (i1 : Int), .pointer (some ⟨bn, on + i1, none⟩), .string nm, .int .i64 (idx nm tb.ns 0), .int .i64 (idx nm tb.ns 0)] : Array Value).getD i undef) (fun i v w w' h hb => ?_) (fun i h g b hg => ?_) rfl (by kernel_rfl) (by kernel_rfl) (fun i h hr w => ?_) ?_ ?_
        · exact h
        · match i, h, hg with
          | 0, _, hg => cases hg
          | 1, _, hg => cases hg
          | 2, _, hg => cases hg
          | 3, _, hg => cases hg
          | 4, _, hg => cases hg
          | 5, _, hg => cases hg
          | 6, _, hg => cases hg
          | 7, _, hg => cases hg
          | m + 8, h, _ => exact absurd h (by show ¬ m + 8 < 8; omega)
        · match i, h, hr with
          | 0, _, hr => exact Bool.noConfusion (show true = false from hr)
          | 1, _, hr => exact Bool.noConfusion (show true = false from hr)
          | 2, _, hr => exact Bool.noConfusion (show true = false from hr)
          | 3, _, hr => exact Bool.noConfusion (show true = false from hr)
          | 4, _, hr => exact Bool.noConfusion (show true = false from hr)
          | 5, _, hr => exact Bool.noConfusion (show true = false from hr)
          | 6, _, hr => exact Bool.noConfusion (show true = false from hr)
          | 7, _, hr => exact Bool.noConfusion (show true = false from hr)
          | m + 8, h, _ => exact absurd h (by show ¬ m + 8 < 8; omega)
        · intro i h a W hrun hbase hpre hdep htr
          obtain ⟨y0, y1, y2, y3, y4⟩ := Rv.cells5 (TQ.out W htr).1
          obtain ⟨x0, x1, x2, x3, x4⟩ := Rv.cells5 (TQ.out W htr).2
          have hnl := HNL.out
          have xn := NC.out W htr
          match i, h with
          | 0, _ =>
            obtain ⟨e3, x3⟩ := Rv.ev (show a.tmps.getD 3 undef = .pointer (some ⟨w.heap.size + 1, 0, none⟩) from hbase 3 rfl)
            exact Rv.step_op (op := Go.Op.load 26 (Go.Operand.tmp 3)) (v := .agg #[.int .i64 tb.k, .int .i64 tb.n, .string tb.s, .slice B tb.ns.length d, .slice B2 tb.is.length d2]) (w1 := W) rfl rfl (fun d pos aft g => by unfold execOp; go_simp) ⟨_, rfl, rfl, Below.refl _ _⟩
          | 1, _ =>
            obtain ⟨e2, x2⟩ := Rv.ev (show a.tmps.getD 2 undef = .pointer (some ⟨w.heap.size, 0, none⟩) from hbase 2 rfl)
            exact Rv.step_op (op := Go.Op.fieldAddr 26 (Go.Operand.tmp 2) 3) (v := .pointer (some ⟨w.heap.size, 3, none⟩)) (w1 := W) rfl rfl (fun d pos aft g => by unfold execOp; go_simp) ⟨_, rfl, rfl, Below.refl _ _⟩
          | 2, _ =>
            obtain ⟨e47, x47⟩ := Rv.ev (show a.tmps.getD 47 undef = .pointer (some ⟨w.heap.size, 3, none⟩) from hdep 1 rfl)
            exact Rv.step_op (op := Go.Op.load 23 (Go.Operand.tmp 47)) (v := .slice (some ⟨bn, on, none⟩) ta.ns.length c) (w1 := W) rfl rfl (fun d pos aft g => by unfold execOp; go_simp) ⟨_, rfl, rfl, Below.refl _ _⟩
          | 3, _ =>
            obtain ⟨e5, x5⟩ := Rv.ev (show a.tmps.getD 5 undef = .int .i64 (i1 : Int) from hbase 5 rfl)
            exact Rv.step_op (op := Go.Op.move (Go.Operand.tmp 5)) (v := .int .i64 (i1 : Int)) (w1 := W) rfl rfl (fun d pos aft g => by unfold execOp; go_simp) ⟨_, rfl, rfl, Below.refl _ _⟩
          | 4, _ =>
            obtain ⟨e48, x48⟩ := Rv.ev (show a.tmps.getD 48 undef = .slice (some ⟨bn, on, none⟩) ta.ns.length c from hdep 2 rfl)
            obtain ⟨e49, x49⟩ := Rv.ev (show a.tmps.getD 49 undef = .int .i64 (i1 : Int) from hdep 3 rfl)
            exact Rv.step_op (op := Go.Op.indexAddr 23 (Go.Operand.tmp 48) (Go.Operand.tmp 49)) (v := .pointer (some ⟨bn, on + i1, none⟩)) (w1 := W) rfl rfl (fun d pos aft g => by unfold execOp; go_simp) ⟨_, rfl, rfl, Below.refl _ _⟩
          | 5, _ =>
            obtain ⟨e50, x50⟩ := Rv.ev (show a.tmps.getD 50 undef = .pointer (some ⟨bn, on + i1, none⟩) from hdep 4 rfl)
            exact Rv.step_op (op := Go.Op.load 9 (Go.Operand.tmp 50)) (v := .string nm) (w1 := W) rfl rfl (fun d pos aft g => by unfold execOp; go_simp) ⟨_, rfl, rfl, Below.refl _ _⟩
          | 6, _ =>
            obtain ⟨e46, x46⟩ := Rv.ev (show a.tmps.getD 46 undef = .agg #[.int .i64 tb.k, .int .i64 tb.n, .string tb.s, .slice B tb.ns.length d, .slice B2 tb.is.length d2] from hdep 0 rfl)
            obtain ⟨e51, x51⟩ := Rv.ev (show a.tmps.getD 51 undef = .string nm from hdep 5 rfl)
            have cf : ∀ x0 x1 W, (callFunc 20 #[x0, x1]).run Try.prog W = .ok (.enter 20 #[x0, x1]) W := fun _ _ _ => by kernel_rfl
            refine Rv.step_fn (op := Go.Op.call { callee := Go.Callee.value (Go.Operand.func 20), args := #[Go.Operand.tmp 46, Go.Operand.tmp 51], argTypes := #[26, 9] }) (f := 20) (args := #[.agg #[.int .i64 tb.k, .int .i64 tb.n, .string tb.s, .slice B tb.ns.length d, .slice B2 tb.is.length d2], .string nm]) (R := fun v W' => v = .int .i64 (idx nm tb.ns 0) ∧ Below W.heap.size W W') rfl rfl (fun d pos aft g => by unfold execOp; go_simp) ((at_any tb _ _ nm W (HJB.out W htr) HLB.out).mono ?_) ?_
            · (rintro e W' ⟨rfl, hb⟩; exact ⟨_, rfl, rfl, hb⟩)
            · (rintro v W' ⟨rfl, hb⟩; exact ⟨_, rfl, rfl, hb⟩)
          | 7, _ =>
            obtain ⟨e52, x52⟩ := Rv.ev (show a.tmps.getD 52 undef = .int .i64 (idx nm tb.ns 0) from hdep 6 rfl)
            exact Rv.step_op (op := Go.Op.assign (Go.Operand.tmp 52)) (v := .int .i64 (idx nm tb.ns 0)) (w1 := W) rfl rfl (fun d pos aft g => by unfold execOp; go_simp) ⟨_, rfl, rfl, Below.refl _ _⟩
          | m + 8, h => exact absurd h (by show ¬ m + 8 < 8; omega)
        intro W f hf htr
        have f0 : f 0 = .agg #[.int .i64 tb.k, .int .i64 tb.n, .string tb.s, .slice B tb.ns.length d, .slice B2 tb.is.length d2] := hf 0 (by show 0 < 8; omega)
        have f1 : f 1 = .pointer (some ⟨w.heap.size, 3, none⟩) := hf 1 (by show 1 < 8; omega)
        have f2 : f 2 = .slice (some ⟨bn, on, none⟩) ta.ns.length c := hf 2 (by show 2 < 8; omega)
        have f3 : f 3 = .int .i64 (i1 : Int) := hf 3 (by show 3 < 8; omega)
        have f4 : f 4 = .pointer (some ⟨bn, on + i1, none⟩) := hf 4 (by show 4 < 8; omega)
        have f5 : f 5 = .string nm := hf 5 (by show 5 < 8; omega)
        have f6 : f 6 = .int .i64 (idx nm tb.ns 0) := hf 6 (by show 6 < 8; omega)
        have f7 : f 7 = .int .i64 (idx nm tb.ns 0) := hf 7 (by show 7 < 8; omega)
        refine (show ∀ (a : Act) (w : World), Code.wp _ _ _ a w → _ from by assumption) _ _ ?_
        refine Rv.fin_swap (L' := [(46, f 0), (47, f 1), (48, f 2), (49, f 3), (50, f 4), (51, f 5), (52, f 6), (6, f 7)]) rfl ?_
        rw [f0, f1, f2, f3, f4, f5, f6, f7]
        clear f0 f1 f2 f3 f4 f5 f6 f7
        simp only [Rv.fin, List.foldl_cons, List.foldl_nil, Act.put, List.setIfInBounds_toArray, List.set_cons_succ, List.set_cons_zero]
        have HXB := Lib.hid (HXB.out.trans (htr.mono HXB.out.size))
        have HTQ := Lib.hid (TQ.out W htr)
        clear hf htr TQ NC HJB
        have HI := Lib.hid (idx_range (x := nm) (l := tb.ns) (i := 0) (Int.le_refl 0))
        rcases HI.out with ⟨ez, hz⟩ | ⟨j1, ez, hz, _⟩
        · rw [ez] at hp5 ⊢
          go_upto_region 9 with fail
          generalize W = X at *
          have TQ := Lib.hid (fun (W : World) (hb : Below X.heap.size X W) => And.intro ((hb.block _ (Rv.lt_of_blk HTQ.out.1)).trans HTQ.out.1) ((hb.block _ (Rv.lt_of_blk HTQ.out.2)).trans HTQ.out.2))
          have HZ := Lib.hid (show decide ((-1 : Int) < 0) = true from rfl)
          refine Rv.region_goods (n := 69) (by kernel_rfl) #[53, 54, 55, 56, 57, 58, 59, 60, 61, 62, 63, 64, 65, 66, 67, 68] #[none, none, some true] (fun i v W => v = (#[.int .i64 (-1), .bool true, .bool true, undef, undef, undef, undef, undef, undef, undef, undef, undef, undef, undef, undef, Go.Value.bool true] : Array Value).getD i undef) (fun i v w w' h hb => ?_) (fun i h g b hg => ?_) rfl (by kernel_rfl) (by kernel_rfl) (fun i h hr w => ?_) ?_ ?_
          · exact h
          · match i, h, hg with
            | 0, _, hg => cases hg
            | 1, _, hg => cases hg
            | 2, _, hg => cases hg
            | 3, _, hg => (cases hg; exact fun v w e => e)
            | 4, _, hg => (cases hg; exact fun v w e => e)
            | 5, _, hg => (cases hg; exact fun v w e => e)
            | 6, _, hg => (cases hg; exact fun v w e => e)
            | 7, _, hg => (cases hg; exact fun v w e => e)
            | 8, _, hg => (cases hg; exact fun v w e => e)
            | 9, _, hg => (cases hg; exact fun v w e => e)
            | 10, _, hg => (cases hg; exact fun v w e => e)
            | 11, _, hg => (cases hg; exact fun v w e => e)
            | 12, _, hg => (cases hg; exact fun v w e => e)
            | 13, _, hg => (cases hg; exact fun v w e => e)
            | 14, _, hg => (cases hg; exact fun v w e => e)
            | 15, _, hg => cases hg
            | m + 16, h, _ => exact absurd h (by show ¬ m + 16 < 16; omega)
          · match i, h, hr with
            | 0, _, hr => exact Bool.noConfusion (show true = false from hr)
            | 1, _, hr => exact Bool.noConfusion (show true = false from hr)
            | 2, _, hr => exact Bool.noConfusion (show true = false from hr)
            | 3, _, hr => rfl
            | 4, _, hr => rfl
            | 5, _, hr => rfl
            | 6, _, hr => rfl
            | 7, _, hr => rfl
            | 8, _, hr => rfl
            | 9, _, hr => rfl
            | 10, _, hr => rfl
            | 11, _, hr => rfl
            | 12, _, hr => rfl
            | 13, _, hr => rfl
            | 14, _, hr => rfl
            | 15, _, hr => exact Bool.noConfusion (show true = false from hr)
            | m + 16, h, _ => exact absurd h (by show ¬ m + 16 < 16; omega)
          · intro i h a W hrun hbase hpre hdep htr
            obtain ⟨y0, y1, y2, y3, y4⟩ := Rv.cells5 (TQ.out W htr).1
            obtain ⟨x0, x1, x2, x3, x4⟩ := Rv.cells5 (TQ.out W htr).2
            have hzd := HZ.out
            match i, h with
            | 0, _ =>
              obtain ⟨e6, x6⟩ := Rv.ev (show a.tmps.getD 6 undef = .int .i64 (-1) from hbase 6 rfl)
              exact Rv.step_op (op := Go.Op.move (Go.Operand.tmp 6)) (v := .int .i64 (-1)) (w1 := W) rfl rfl (fun d pos aft g => by unfold execOp; go_simp) ⟨_, rfl, rfl, Below.refl _ _⟩
            | 1, _ =>
              obtain ⟨e53, x53⟩ := Rv.ev (show a.tmps.getD 53 undef = .int .i64 (-1) from hdep 0 rfl)
              exact Rv.step_op (op := Go.Op.binOp Go.BinOp.lss 3 (Go.Operand.tmp 53) (Go.Operand.const (Go.Value.int Go.IntKind.i64 0)) 3) (v := .bool true) (w1 := W) rfl rfl (fun d pos aft g => by unfold execOp; go_simp) ⟨_, rfl, rfl, Below.refl _ _⟩
            | 2, _ =>
              obtain ⟨e54, x54⟩ := Rv.ev (show a.tmps.getD 54 undef = .bool true from hdep 1 rfl)
              exact Rv.step_op (op := Go.Op.move (Go.Operand.tmp 54)) (v := .bool true) (w1 := W) rfl rfl (fun d pos aft g => by unfold execOp; go_simp) ⟨_, rfl, rfl, Below.refl _ _⟩
            | 3, _ => exact Bool.noConfusion (show false = true from hrun)
            | 4, _ => exact Bool.noConfusion (show false = true from hrun)
            | 5, _ => exact Bool.noConfusion (show false = true from hrun)
            | 6, _ => exact Bool.noConfusion (show false = true from hrun)
            | 7, _ => exact Bool.noConfusion (show false = true from hrun)
            | 8, _ => exact Bool.noConfusion (show false = true from hrun)
            | 9, _ => exact Bool.noConfusion (show false = true from hrun)
            | 10, _ => exact Bool.noConfusion (show false = true from hrun)
            | 11, _ => exact Bool.noConfusion (show false = true from hrun)
            | 12, _ => exact Bool.noConfusion (show false = true from hrun)
            | 13, _ => exact Bool.noConfusion (show false = true from hrun)
            | 14, _ => exact Bool.noConfusion (show false = true from hrun)
            | 15, _ =>
              obtain ⟨e55, x55⟩ := Rv.ev (show a.tmps.getD 55 undef = .bool true from hdep 2 rfl)
              obtain ⟨e67, x67⟩ := Rv.ev (show a.tmps.getD 67 undef = undef from hdep 14 rfl)
              exact Rv.step_op (op := Go.Op.pick (Go.Operand.tmp 55) (Go.Operand.const (Go.Value.bool true)) (Go.Operand.tmp 67)) (v := Go.Value.bool true) (w1 := W) rfl rfl (fun d pos aft g => by unfold execOp; go_simp) ⟨_, rfl, rfl, Below.refl _ _⟩
            | m + 16, h => exact absurd h (by show ¬ m + 16 < 16; omega)
          intro W f hf htr
          have f0 : f 0 = .int .i64 (-1) := hf 0 (by show 0 < 16; omega)
          have f1 : f 1 = .bool true := hf 1 (by show 1 < 16; omega)
          have f2 : f 2 = .bool true := hf 2 (by show 2 < 16; omega)
          have f3 : f 3 = undef := hf 3 (by show 3 < 16; omega)
          have f4 : f 4 = undef := hf 4 (by show 4 < 16; omega)
          have f5 : f 5 = undef := hf 5 (by show 5 < 16; omega)
          have f6 : f 6 = undef := hf 6 (by show 6 < 16; omega)
          have f7 : f 7 = undef := hf 7 (by show 7 < 16; omega)
          have f8 : f 8 = undef := hf 8 (by show 8 < 16; omega)
          have f9 : f 9 = undef := hf 9 (by show 9 < 16; omega)
          have f10 : f 10 = undef := hf 10 (by show 10 < 16; omega)
          have f11 : f 11 = undef := hf 11 (by show 11 < 16; omega)
          have f12 : f 12 = undef := hf 12 (by show 12 < 16; omega)
          have f13 : f 13 = undef := hf 13 (by show 13 < 16; omega)
          have f14 : f 14 = undef := hf 14 (by show 14 < 16; omega)
          have f15 : f 15 = Go.Value.bool true := hf 15 (by show 15 < 16; omega)
          refine (show ∀ (a : Act) (w : World), Code.wp _ _ _ a w → _ from by assumption) _ _ ?_
          refine Rv.fin_swap (L' := [(53, f 0), (54, f 1), (55, f 2), (56, f 3), (57, f 4), (58, f 5), (59, f 6), (60, f 7), (61, f 8), (62, f 9), (63, f 10), (64, f 11), (65, f 12), (66, f 13), (67, f 14), (68, f 15)]) rfl ?_
          rw [f0, f1, f2, f3, f4, f5, f6, f7, f8, f9, f10, f11, f12, f13, f14, f15]
          clear f0 f1 f2 f3 f4 f5 f6 f7 f8 f9 f10 f11 f12 f13 f14 f15
          simp only [Rv.fin, List.foldl_cons, List.foldl_nil, Act.put, List.setIfInBounds_toArray, List.set_cons_succ, List.set_cons_zero]
          have HXW := Lib.hid (HXB.out.trans (htr.mono HXB.out.size))
          clear hf htr
          go_wp2
          go_ret
          refine ⟨?_, HXW.out⟩
          have : eqJ ta tb = false := by
            rw [Bool.eq_false_iff]
            intro h
            have h2 := ((it_iff ta tb i1 hlt).1 (((eqJ_iff ta tb).1 h).2.2.2.2 i1 hlt)).1
            rw [hp5] at h2
            omega
          rw [this]
          rfl
        · have ez : idx nm tb.ns 0 = (j1 : Int) := by rw [ez]; omega
          have hp : ps ta.k ta.ns tb i1 = (j1 : Int) := hp5.trans ez
          have hjlen : j1 < tb.is.length := by
            have := (List.getElem?_eq_some_iff.1 hz).1
            have := HNL2.out
            omega
          rw [ez]
          clear hp5 ez hz HI
          go_upto_region 9 with fail
          generalize W = X at *
          have TQ := Lib.hid (fun (W : World) (hb : Below X.heap.size X W) => And.intro ((hb.block _ (Rv.lt_of_blk HTQ.out.1)).trans HTQ.out.1) ((hb.block _ (Rv.lt_of_blk HTQ.out.2)).trans HTQ.out.2))
          obtain ⟨bi, oi, A3, c3, A4, c4, ea, hbi, u0, u1, u2, u3, u4, hji⟩ := row_item HIA.out HHA.out rfl i1 hlt
          subst ea
          have hjl : j1 < tb.is.length := hjlen
          obtain ⟨bj, oj, B3, d3, B4, d4, eb, hbj, q0, q1, q2, q3, q4, hjj⟩ := row_item HIB.out HHB.out rfl j1 hjl
          subst eb
          have HIT := Lib.hid (it_iff ta tb i1 hlt)
          rw [hp, Int.toNat_natCast, getD_at hjl] at HIT
          have HZ := Lib.hid (show decide ((j1 : Int) < 0) = false from decide_eq_false (by omega))
          have HIL := Lib.hid hlt
          have HJL := Lib.hid hjl
          have IC := Lib.hid (fun (W : World) (hb : Below X.heap.size X W) => have hb := HXB.out.trans (hb.mono HXB.out.size); show W.cell? ⟨bi, oi + i1 * 5, none⟩ = _ ∧ W.cell? ⟨bi, oi + i1 * 5 + 1, none⟩ = _ ∧ W.cell? ⟨bi, oi + i1 * 5 + 2, none⟩ = _ ∧ W.cell? ⟨bi, oi + i1 * 5 + 3, none⟩ = _ ∧ W.cell? ⟨bi, oi + i1 * 5 + 4, none⟩ = _ from ⟨(hb.cell hbi).trans u0, (hb.cell hbi).trans u1, (hb.cell hbi).trans u2, (hb.cell hbi).trans u3, (hb.cell hbi).trans u4⟩)
          have JC := Lib.hid (fun (W : World) (hb : Below X.heap.size X W) => have hb := HXB.out.trans (hb.mono HXB.out.size); show W.cell? ⟨bj, oj + j1 * 5, none⟩ = _ ∧ W.cell? ⟨bj, oj + j1 * 5 + 1, none⟩ = _ ∧ W.cell? ⟨bj, oj + j1 * 5 + 2, none⟩ = _ ∧ W.cell? ⟨bj, oj + j1 * 5 + 3, none⟩ = _ ∧ W.cell? ⟨bj, oj + j1 * 5 + 4, none⟩ = _ from ⟨(hb.cell hbj).trans q0, (hb.cell hbj).trans q1, (hb.cell hbj).trans q2, (hb.cell hbj).trans q3, (hb.cell hbj).trans q4⟩)
          have IH := Lib.hid (fun (W : World) (hb : Below X.heap.size X W) => have hb := HXB.out.trans (hb.mono HXB.out.size); IH0.out ta.is[i1] (List.getElem_mem hlt) tb.is[j1] _ _ _ _ W (HWA.out.kids.1.get _ (List.getElem_mem hlt)) (HWB.out.kids.1.get _ (List.getElem_mem hjl)) (hji.below hb) (hjj.below hb))
          clear u0 u1 u2 u3 u4 q0 q1 q2 q3 q4 hji hjj hp hjlen
          generalize ta.is[i1] = ti at *
          generalize tb.is[j1] = tj at *
          generalize eqJ ti tj = r at *
          refine Rv.region_goods (n := 69) (by kernel_rfl) #[53, 54, 55, 56, 57, 58, 59, 60, 61, 62, 63, 64, 65, 66, 67, 68] #[none, none, some false] (fun i v W => v = (#[.int .i64 (j1 : Int), .bool false, .bool false, .pointer (some ⟨w.heap.size, 4, none⟩), .slice (some ⟨bi, oi, none⟩) ta.is.length c2, .int .i64 (i1 : Int), .pointer (some ⟨bi, oi + i1 * 5, none⟩), .agg #[.int .i64 ti.k, .int .i64 ti.n, .string ti.s, .slice A3 ti.ns.length c3, .slice A4 ti.is.length c4], .pointer (some ⟨w.heap.size + 1, 4, none⟩), .slice (some ⟨bj, oj, none⟩) tb.is.length d2, .int .i64 (j1 : Int), .pointer (some ⟨bj, oj + j1 * 5, none⟩), .agg #[.int .i64 tj.k, .int .i64 tj.n, .string tj.s, .slice B3 tj.ns.length d3, .slice B4 tj.is.length d4], .bool r, .bool (!r), .bool (!r)] : Array Value).getD i undef) (fun i v w w' h hb => ?_) (fun i h g b hg => ?_) rfl (by kernel_rfl) (by kernel_rfl) (fun i h hr w => ?_) ?_ ?_
          · exact h
          · match i, h, hg with
            | 0, _, hg => cases hg
            | 1, _, hg => cases hg
            | 2, _, hg => cases hg
            | 3, _, hg => (cases hg; exact fun v w e => e)
            | 4, _, hg => (cases hg; exact fun v w e => e)
            | 5, _, hg => (cases hg; exact fun v w e => e)
            | 6, _, hg => (cases hg; exact fun v w e => e)
            | 7, _, hg => (cases hg; exact fun v w e => e)
            | 8, _, hg => (cases hg; exact fun v w e => e)
            | 9, _, hg => (cases hg; exact fun v w e => e)
            | 10, _, hg => (cases hg; exact fun v w e => e)
            | 11, _, hg => (cases hg; exact fun v w e => e)
            | 12, _, hg => (cases hg; exact fun v w e => e)
            | 13, _, hg => (cases hg; exact fun v w e => e)
            | 14, _, hg => (cases hg; exact fun v w e => e)
            | 15, _, hg => cases hg
            | m + 16, h, _ => exact absurd h (by show ¬ m + 16 < 16; omega)
          · match i, h, hr with
            | 0, _, hr => exact Bool.noConfusion (show true = false from hr)
            | 1, _, hr => exact Bool.noConfusion (show true = false from hr)
            | 2, _, hr => exact Bool.noConfusion (show true = false from hr)
            | 3, _, hr => exact Bool.noConfusion (show true = false from hr)
            | 4, _, hr => exact Bool.noConfusion (show true = false from hr)
            | 5, _, hr => exact Bool.noConfusion (show true = false from hr)
            | 6, _, hr => exact Bool.noConfusion (show true = false from hr)
            | 7, _, hr => exact Bool.noConfusion (show true = false from hr)
            | 8, _, hr => exact Bool.noConfusion (show true = false from hr)
            | 9, _, hr => exact Bool.noConfusion (show true = false from hr)
            | 10, _, hr => exact Bool.noConfusion (show true = false from hr)
            | 11, _, hr => exact Bool.noConfusion (show true = false from hr)
            | 12, _, hr => exact Bool.noConfusion (show true = false from hr)
            | 13, _, hr => exact Bool.noConfusion (show true = false from hr)
            | 14, _, hr => exact Bool.noConfusion (show true = false from hr)
            | 15, _, hr => exact Bool.noConfusion (show true = false from hr)
            | m + 16, h, _ => exact absurd h (by show ¬ m + 16 < 16; omega)
          · intro i h a W hrun hbase hpre hdep htr
            obtain ⟨y0, y1, y2, y3, y4⟩ := Rv.cells5 (TQ.out W htr).1
            obtain ⟨x0, x1, x2, x3, x4⟩ := Rv.cells5 (TQ.out W htr).2
            have hzd := HZ.out
            have hil := HIL.out
            have hjl := HJL.out
            obtain ⟨i0, i1', i2, i3, i4⟩ := IC.out W htr
            obtain ⟨j0, j1', j2, j3, j4⟩ := JC.out W htr
            match i, h with
            | 0, _ =>
              obtain ⟨e6, x6⟩ := Rv.ev (show a.tmps.getD 6 undef = .int .i64 (j1 : Int) from hbase 6 rfl)
              exact Rv.step_op (op := Go.Op.move (Go.Operand.tmp 6)) (v := .int .i64 (j1 : Int)) (w1 := W) rfl rfl (fun d pos aft g => by unfold execOp; go_simp) ⟨_, rfl, rfl, Below.refl _ _⟩
            | 1, _ =>
              obtain ⟨e53, x53⟩ := Rv.ev (show a.tmps.getD 53 undef = .int .i64 (j1 : Int) from hdep 0 rfl)
              exact Rv.step_op (op := Go.Op.binOp Go.BinOp.lss 3 (Go.Operand.tmp 53) (Go.Operand.const (Go.Value.int Go.IntKind.i64 0)) 3) (v := .bool false) (w1 := W) rfl rfl (fun d pos aft g => by unfold execOp; go_simp) ⟨_, rfl, rfl, Below.refl _ _⟩
            | 2, _ =>
              obtain ⟨e54, x54⟩ := Rv.ev (show a.tmps.getD 54 undef = .bool false from hdep 1 rfl)
              exact Rv.step_op (op := Go.Op.move (Go.Operand.tmp 54)) (v := .bool false) (w1 := W) rfl rfl (fun d pos aft g => by unfold execOp; go_simp) ⟨_, rfl, rfl, Below.refl _ _⟩
            | 3, _ =>
              obtain ⟨e2, x2⟩ := Rv.ev (show a.tmps.getD 2 undef = .pointer (some ⟨w.heap.size, 0, none⟩) from hbase 2 rfl)
              exact Rv.step_op (op := Go.Op.fieldAddr 26 (Go.Operand.tmp 2) 4) (v := .pointer (some ⟨w.heap.size, 4, none⟩)) (w1 := W) rfl rfl (fun d pos aft g => by unfold execOp; go_simp) ⟨_, rfl, rfl, Below.refl _ _⟩
            | 4, _ =>
              obtain ⟨e56, x56⟩ := Rv.ev (show a.tmps.getD 56 undef = .pointer (some ⟨w.heap.size, 4, none⟩) from hdep 3 rfl)
              exact Rv.step_op (op := Go.Op.load 24 (Go.Operand.tmp 56)) (v := .slice (some ⟨bi, oi, none⟩) ta.is.length c2) (w1 := W) rfl rfl (fun d pos aft g => by unfold execOp; go_simp) ⟨_, rfl, rfl, Below.refl _ _⟩
            | 5, _ =>
              obtain ⟨e5, x5⟩ := Rv.ev (show a.tmps.getD 5 undef = .int .i64 (i1 : Int) from hbase 5 rfl)
              exact Rv.step_op (op := Go.Op.move (Go.Operand.tmp 5)) (v := .int .i64 (i1 : Int)) (w1 := W) rfl rfl (fun d pos aft g => by unfold execOp; go_simp) ⟨_, rfl, rfl, Below.refl _ _⟩
            | 6, _ =>
              obtain ⟨e57, x57⟩ := Rv.ev (show a.tmps.getD 57 undef = .slice (some ⟨bi, oi, none⟩) ta.is.length c2 from hdep 4 rfl)
              obtain ⟨e58, x58⟩ := Rv.ev (show a.tmps.getD 58 undef = .int .i64 (i1 : Int) from hdep 5 rfl)
              exact Rv.step_op (op := Go.Op.indexAddr 24 (Go.Operand.tmp 57) (Go.Operand.tmp 58)) (v := .pointer (some ⟨bi, oi + i1 * 5, none⟩)) (w1 := W) rfl rfl (fun d pos aft g => by unfold execOp; go_simp) ⟨_, rfl, rfl, Below.refl _ _⟩
            | 7, _ =>
              obtain ⟨e59, x59⟩ := Rv.ev (show a.tmps.getD 59 undef = .pointer (some ⟨bi, oi + i1 * 5, none⟩) from hdep 6 rfl)
              exact Rv.step_op (op := Go.Op.load 26 (Go.Operand.tmp 59)) (v := .agg #[.int .i64 ti.k, .int .i64 ti.n, .string ti.s, .slice A3 ti.ns.length c3, .slice A4 ti.is.length c4]) (w1 := W) rfl rfl (fun d pos aft g => by unfold execOp; go_simp) ⟨_, rfl, rfl, Below.refl _ _⟩
            | 8, _ =>
              obtain ⟨e3, x3⟩ := Rv.ev (show a.tmps.getD 3 undef = .pointer (some ⟨w.heap.size + 1, 0, none⟩) from hbase 3 rfl)
              exact Rv.step_op (op := Go.Op.fieldAddr 26 (Go.Operand.tmp 3) 4) (v := .pointer (some ⟨w.heap.size + 1, 4, none⟩)) (w1 := W) rfl rfl (fun d pos aft g => by unfold execOp; go_simp) ⟨_, rfl, rfl, Below.refl _ _⟩
            | 9, _ =>
              obtain ⟨e61, x61⟩ := Rv.ev (show a.tmps.getD 61 undef = .pointer (some ⟨w.heap.size + 1, 4, none⟩) from hdep 8 rfl)
              exact Rv.step_op (op := Go.Op.load 24 (Go.Operand.tmp 61)) (v := .slice (some ⟨bj, oj, none⟩) tb.is.length d2) (w1 := W) rfl rfl (fun d pos aft g => by unfold execOp; go_simp) ⟨_, rfl, rfl, Below.refl _ _⟩
            | 10, _ =>
              obtain ⟨e6, x6⟩ := Rv.ev (show a.tmps.getD 6 undef = .int .i64 (j1 : Int) from hbase 6 rfl)
              exact Rv.step_op (op := Go.Op.move (Go.Operand.tmp 6)) (v := .int .i64 (j1 : Int)) (w1 := W) rfl rfl (fun d pos aft g => by unfold execOp; go_simp) ⟨_, rfl, rfl, Below.refl _ _⟩
            | 11, _ =>
              obtain ⟨e62, x62⟩ := Rv.ev (show a.tmps.getD 62 undef = .slice (some ⟨bj, oj, none⟩) tb.is.length d2 from hdep 9 rfl)
              obtain ⟨e63, x63⟩ := Rv.ev (show a.tmps.getD 63 undef = .int .i64 (j1 : Int) from hdep 10 rfl)
              exact Rv.step_op (op := Go.Op.indexAddr 24 (Go.Operand.tmp 62) (Go.Operand.tmp 63)) (v := .pointer (some ⟨bj, oj + j1 * 5, none⟩)) (w1 := W) rfl rfl (fun d pos aft g => by unfold execOp; go_simp) ⟨_, rfl, rfl, Below.refl _ _⟩
            | 12, _ =>
              obtain ⟨e64, x64⟩ := Rv.ev (show a.tmps.getD 64 undef = .pointer (some ⟨bj, oj + j1 * 5, none⟩) from hdep 11 rfl)
              exact Rv.step_op (op := Go.Op.load 26 (Go.Operand.tmp 64)) (v := .agg #[.int .i64 tj.k, .int .i64 tj.n, .string tj.s, .slice B3 tj.ns.length d3, .slice B4 tj.is.length d4]) (w1 := W) rfl rfl (fun d pos aft g => by unfold execOp; go_simp) ⟨_, rfl, rfl, Below.refl _ _⟩
            | 13, _ =>
              obtain ⟨e60, x60⟩ := Rv.ev (show a.tmps.getD 60 undef = .agg #[.int .i64 ti.k, .int .i64 ti.n, .string ti.s, .slice A3 ti.ns.length c3, .slice A4 ti.is.length c4] from hdep 7 rfl)
              obtain ⟨e65, x65⟩ := Rv.ev (show a.tmps.getD 65 undef = .agg #[.int .i64 tj.k, .int .i64 tj.n, .string tj.s, .slice B3 tj.ns.length d3, .slice B4 tj.is.length d4] from hdep 12 rfl)
              have cf : ∀ x0 x1 W, (callFunc 21 #[x0, x1]).run Try.prog W = .ok (.enter 21 #[x0, x1]) W := fun _ _ _ => by kernel_rfl
              refine Rv.step_fn (op := Go.Op.call { callee := Go.Callee.value (Go.Operand.func 21), args := #[Go.Operand.tmp 60, Go.Operand.tmp 65], argTypes := #[26, 26] }) (f := 21) (args := #[.agg #[.int .i64 ti.k, .int .i64 ti.n, .string ti.s, .slice A3 ti.ns.length c3, .slice A4 ti.is.length c4], .agg #[.int .i64 tj.k, .int .i64 tj.n, .string tj.s, .slice B3 tj.ns.length d3, .slice B4 tj.is.length d4]]) (R := fun v W' => v = .bool r ∧ Below W.heap.size W W') rfl rfl (fun d pos aft g => by unfold execOp; go_simp) ((IH.out W htr).mono ?_) ?_
              · (rintro e W' ⟨rfl, hb⟩; exact ⟨_, rfl, rfl, hb⟩)
              · (rintro v W' ⟨rfl, hb⟩; exact ⟨_, rfl, rfl, hb⟩)
            | 14, _ =>
              obtain ⟨e66, x66⟩ := Rv.ev (show a.tmps.getD 66 undef = .bool r from hdep 13 rfl)
              exact Rv.step_op (op := Go.Op.unOp Go.UnOp.not 4 (Go.Operand.tmp 66)) (v := .bool (!r)) (w1 := W) rfl rfl (fun d pos aft g => by unfold execOp; go_simp) ⟨_, rfl, rfl, Below.refl _ _⟩
            | 15, _ =>
              obtain ⟨e55, x55⟩ := Rv.ev (show a.tmps.getD 55 undef = .bool false from hdep 2 rfl)
              obtain ⟨e67, x67⟩ := Rv.ev (show a.tmps.getD 67 undef = .bool (!r) from hdep 14 rfl)
              exact Rv.step_op (op := Go.Op.pick (Go.Operand.tmp 55) (Go.Operand.const (Go.Value.bool true)) (Go.Operand.tmp 67)) (v := .bool (!r)) (w1 := W) rfl rfl (fun d pos aft g => by unfold execOp; go_simp) ⟨_, rfl, rfl, Below.refl _ _⟩
            | m + 16, h => exact absurd h (by show ¬ m + 16 < 16; omega)
          intro W f hf htr
          have f0 : f 0 = .int .i64 (j1 : Int) := hf 0 (by show 0 < 16; omega)
          have f1 : f 1 = .bool false := hf 1 (by show 1 < 16; omega)
          have f2 : f 2 = .bool false := hf 2 (by show 2 < 16; omega)
          have f3 : f 3 = .pointer (some ⟨w.heap.size, 4, none⟩) := hf 3 (by show 3 < 16; omega)
          have f4 : f 4 = .slice (some ⟨bi, oi, none⟩) ta.is.length c2 := hf 4 (by show 4 < 16; omega)
          have f5 : f 5 = .int .i64 (i1 : Int) := hf 5 (by show 5 < 16; omega)
          have f6 : f 6 = .pointer (some ⟨bi, oi + i1 * 5, none⟩) := hf 6 (by show 6 < 16; omega)
          have f7 : f 7 = .agg #[.int .i64 ti.k, .int .i64 ti.n, .string ti.s, .slice A3 ti.ns.length c3, .slice A4 ti.is.length c4] := hf 7 (by show 7 < 16; omega)
          have f8 : f 8 = .pointer (some ⟨w.heap.size + 1, 4, none⟩) := hf 8 (by show 8 < 16; omega)
          have f9 : f 9 = .slice (some ⟨bj, oj, none⟩) tb.is.length d2 := hf 9 (by show 9 < 16; omega)
          have f10 : f 10 = .int .i64 (j1 : Int) := hf 10 (by show 10 < 16; omega)
          have f11 : f 11 = .pointer (some ⟨bj, oj + j1 * 5, none⟩) := hf 11 (by show 11 < 16; omega)
          have f12 : f 12 = .agg #[.int .i64 tj.k, .int .i64 tj.n, .string tj.s, .slice B3 tj.ns.length d3, .slice B4 tj.is.length d4] := hf 12 (by show 12 < 16; omega)
          have f13 : f 13 = .bool r := hf 13 (by show 13 < 16; omega)
          have f14 : f 14 = .bool (!r) := hf 14 (by show 14 < 16; omega)
          have f15 : f 15 = .bool (!r) := hf 15 (by show 15 < 16; omega)
          refine (show ∀ (a : Act) (w : World), Code.wp _ _ _ a w → _ from by assumption) _ _ ?_
          refine Rv.fin_swap (L' := [(53, f 0), (54, f 1), (55, f 2), (56, f 3), (57, f 4), (58, f 5), (59, f 6), (60, f 7), (61, f 8), (62, f 9), (63, f 10), (64, f 11), (65, f 12), (66, f 13), (67, f 14), (68, f 15)]) rfl ?_
          rw [f0, f1, f2, f3, f4, f5, f6, f7, f8, f9, f10, f11, f12, f13, f14, f15]
          clear f0 f1 f2 f3 f4 f5 f6 f7 f8 f9 f10 f11 f12 f13 f14 f15
          simp only [Rv.fin, List.foldl_cons, List.foldl_nil, Act.put, List.setIfInBounds_toArray, List.set_cons_succ, List.set_cons_zero]
          have HXW := Lib.hid (HXB.out.trans (htr.mono HXB.out.size))
          have HTW := Lib.hid (TQ.out W htr)
          clear hf htr TQ IC JC IH HXB HZ HIL HJL
          cases r
          · go_wp2
            go_ret
            refine ⟨?_, HXW.out⟩
            have : eqJ ta tb = false := by
              rw [Bool.eq_false_iff]
              intro h
              have h2 := (HIT.out.1 (((eqJ_iff ta tb).1 h).2.2.2.2 i1 hlt)).2
              cases h2
            rw [this]
            rfl
          · go_wp2
            go_roundw
            case rel => exact ⟨i1 + 1, by go_num, by omega, Lib.hid (fun j hj => by
              rcases Nat.lt_succ_iff_lt_or_eq.1 hj with h | h
              · exact HAL.out j h
              · rw [h]; exact HIT.out.2 ⟨by omega, rfl⟩), HXW, HTW⟩
            case measure => simp [intOf]; omega
      · have hk5b : (tb.k == 5) = false := by rw [← HK.out]; simp [hk5]
        have hp : ps ta.k ta.ns tb i1 = (i1 : Int) := by unfold ps; rw [if_neg hk5]
        have hjlen : i1 < tb.is.length := by have := HL.out; omega
        clear hk5
        go_upto_region 9 with fail
        clear y0 y1 y2 y3 y4 hk5b
        generalize wr = X at *
        have TQ := Lib.hid (fun (W : World) (hb : Below X.heap.size X W) => And.intro ((hb.block _ (Rv.lt_of_blk HTQ.out.1)).trans HTQ.out.1) ((hb.block _ (Rv.lt_of_blk HTQ.out.2)).trans HTQ.out.2))
        obtain ⟨bi, oi, A3, c3, A4, c4, ea, hbi, u0, u1, u2, u3, u4, hji⟩ := row_item HIA.out HHA.out rfl i1 hlt
        subst ea
        have TQ : Hid (∀ (W : World), Below X.heap.size X W → W.heap[w.heap.size]? = some (.cells #[.int .i64 tb.k, .int .i64 tb.n, .string tb.s, .slice A ta.ns.length c, .slice (some ⟨bi, oi, none⟩) ta.is.length c2] 26 (0, 0)) ∧ W.heap[w.heap.size + 1]? = some (.cells #[.int .i64 tb.k, .int .i64 tb.n, .string tb.s, .slice B tb.ns.length d, .slice B2 tb.is.length d2] 26 (0, 0))) := TQ
        have hjl : i1 < tb.is.length := hjlen
        obtain ⟨bj, oj, B3, d3, B4, d4, eb, hbj, q0, q1, q2, q3, q4, hjj⟩ := row_item HIB.out HHB.out rfl i1 hjl
        subst eb
        have HIT := Lib.hid (it_iff ta tb i1 hlt)
        rw [hp, Int.toNat_natCast, getD_at hjl] at HIT
        have HZ := Lib.hid (show decide ((i1 : Int) < 0) = false from decide_eq_false (by omega))
        have HIL := Lib.hid hlt
        have HJL := Lib.hid hjl
        have IC := Lib.hid (fun (W : World) (hb : Below X.heap.size X W) => have hb := HXB.out.trans (hb.mono HXB.out.size); show W.cell? ⟨bi, oi + i1 * 5, none⟩ = _ ∧ W.cell? ⟨bi, oi + i1 * 5 + 1, none⟩ = _ ∧ W.cell? ⟨bi, oi + i1 * 5 + 2, none⟩ = _ ∧ W.cell? ⟨bi, oi + i1 * 5 + 3, none⟩ = _ ∧ W.cell? ⟨bi, oi + i1 * 5 + 4, none⟩ = _ from ⟨(hb.cell hbi).trans u0, (hb.cell hbi).trans u1, (hb.cell hbi).trans u2, (hb.cell hbi).trans u3, (hb.cell hbi).trans u4⟩)
        have JC := Lib.hid (fun (W : World) (hb : Below X.heap.size X W) => have hb := HXB.out.trans (hb.mono HXB.out.size); show W.cell? ⟨bj, oj + i1 * 5, none⟩ = _ ∧ W.cell? ⟨bj, oj + i1 * 5 + 1, none⟩ = _ ∧ W.cell? ⟨bj, oj + i1 * 5 + 2, none⟩ = _ ∧ W.cell? ⟨bj, oj + i1 * 5 + 3, none⟩ = _ ∧ W.cell? ⟨bj, oj + i1 * 5 + 4, none⟩ = _ from ⟨(hb.cell hbj).trans q0, (hb.cell hbj).trans q1, (hb.cell hbj).trans q2, (hb.cell hbj).trans q3, (hb.cell hbj).trans q4⟩)
        have IH := Lib.hid (fun (W : World) (hb : Below X.heap.size X W) => have hb := HXB.out.trans (hb.mono HXB.out.size); IH0.out ta.is[i1] (List.getElem_mem hlt) tb.is[i1] _ _ _ _ W (HWA.out.kids.1.get _ (List.getElem_mem hlt)) (HWB.out.kids.1.get _ (List.getElem_mem hjl)) (hji.below hb) (hjj.below hb))
        clear u0 u1 u2 u3 u4 q0 q1 q2 q3 q4 hji hjj hp hjlen
        generalize ta.is[i1] = ti at *
        generalize tb.is[i1] = tj at *
        generalize eqJ ti tj = r at *
        refine Rv.region_goods (n := 69) (by kernel_rfl) #[53, 54, 55, 56, 57, 58, 59, 60, 61, 62, 63, 64, 65, 66, 67, 68] #[none, none, some false] (fun i v W => v = (#[.int .i64 (i1 : Int), .bool false, .bool false, .pointer (some ⟨w.heap.size, 4, none⟩), .slice (some ⟨bi, oi, none⟩) ta.is.length c2, .int .i64 (i1 : Int), .pointer (some ⟨bi, oi + i1 * 5, none⟩), .agg #[.int .i64 ti.k, .int .i64 ti.n, .string ti.s, .slice A3 ti.ns.length c3, .slice A4 ti.is.length c4], .pointer (some ⟨w.heap.size + 1, 4, none⟩), .slice (some ⟨bj, oj, none⟩) tb.is.length d2, .int .i64 (i1 : Int), .pointer (some ⟨bj, oj + i1 * 5, none⟩), .agg #[.int .i64 tj.k, .int .i64 tj.n, .string tj.s, .slice B3 tj.ns.length d3, .slice B4 tj.is.length d4], .bool r, .bool (!r), .bool (!r)] : Array Value).getD i undef) (fun i v w w' h hb => ?_) (fun i h g b hg => ?_) rfl (by kernel_rfl) (by kernel_rfl) (fun i h hr w => ?_) ?_ ?_
        · exact h
        · match i, h, hg with
          | 0, _, hg => cases hg
          | 1, _, hg => cases hg
          | 2, _, hg => cases hg
          | 3, _, hg => (cases hg; exact fun v w e => e)
          | 4, _, hg => (cases hg; exact fun v w e => e)
          | 5, _, hg => (cases hg; exact fun v w e => e)
          | 6, _, hg => (cases hg; exact fun v w e => e)
          | 7, _, hg => (cases hg; exact fun v w e => e)
          | 8, _, hg => (cases hg; exact fun v w e => e)
          | 9, _, hg => (cases hg; exact fun v w e => e)
          | 10, _, hg => (cases hg; exact fun v w e => e)
          | 11, _, hg => (cases hg; exact fun v w e => e)
          | 12, _, hg => (cases hg; exact fun v w e => e)
          | 13, _, hg => (cases hg; exact fun v w e => e)
          | 14, _, hg => (cases hg; exact fun v w e => e)
          | 15, _, hg => cases hg
          | m + 16, h, _ => exact absurd h (by show ¬ m + 16 < 16; omega)
        · match i, h, hr with
          | 0, _, hr => exact Bool.noConfusion (show true = false from hr)
          | 1, _, hr => exact Bool.noConfusion (show true = false from hr)
          | 2, _, hr => exact Bool.noConfusion (show true = false from hr)
          | 3, _, hr => exact Bool.noConfusion (show true = false from hr)
          | 4, _, hr => exact Bool.noConfusion (show true = false from hr)
          | 5, _, hr => exact Bool.noConfusion (show true = false from hr)
          | 6, _, hr => exact Bool.noConfusion (show true = false from hr)
          | 7, _, hr => exact Bool.noConfusion (show true = false from hr)
          | 8, _, hr => exact Bool.noConfusion (show true = false from hr)
          | 9, _, hr => exact Bool.noConfusion (show true = false from hr)
          | 10, _, hr => exact Bool.noConfusion (show true = false from hr)
          | 11, _, hr => exact Bool.noConfusion (show true = false from hr)
          | 12, _, hr => exact Bool.noConfusion (show true = false from hr)
          | 13, _, hr => exact Bool.noConfusion (show true = false from hr)
          | 14, _, hr => exact Bool.noConfusion (show true = false from hr)
          | 15, _, hr => exact Bool.noConfusion (show true = false from hr)
          | m + 16, h, _ => exact absurd h (by show ¬ m + 16 < 16; omega)
        · intro i h a W hrun hbase hpre hdep htr
          obtain ⟨y0, y1, y2, y3, y4⟩ := Rv.cells5 (TQ.out W htr).1
          obtain ⟨x0, x1, x2, x3, x4⟩ := Rv.cells5 (TQ.out W htr).2
          have hzd := HZ.out
          have hil := HIL.out
          have hjl := HJL.out
          obtain ⟨i0, j1', i2, i3, i4⟩ := IC.out W htr
          obtain ⟨j0, j1', j2, j3, j4⟩ := JC.out W htr
          match i, h with
          | 0, _ =>
            obtain ⟨e6, x6⟩ := Rv.ev (show a.tmps.getD 6 undef = .int .i64 (i1 : Int) from hbase 6 rfl)
            exact Rv.step_op (op := Go.Op.move (Go.Operand.tmp 6)) (v := .int .i64 (i1 : Int)) (w1 := W) rfl rfl (fun d pos aft g => by unfold execOp; go_simp) ⟨_, rfl, rfl, Below.refl _ _⟩
          | 1, _ =>
            obtain ⟨e53, x53⟩ := Rv.ev (show a.tmps.getD 53 undef = .int .i64 (i1 : Int) from hdep 0 rfl)
            exact Rv.step_op (op := Go.Op.binOp Go.BinOp.lss 3 (Go.Operand.tmp 53) (Go.Operand.const (Go.Value.int Go.IntKind.i64 0)) 3) (v := .bool false) (w1 := W) rfl rfl (fun d pos aft g => by unfold execOp; go_simp) ⟨_, rfl, rfl, Below.refl _ _⟩
          | 2, _ =>
            obtain ⟨e54, x54⟩ := Rv.ev (show a.tmps.getD 54 undef = .bool false from hdep 1 rfl)
            exact Rv.step_op (op := Go.Op.move (Go.Operand.tmp 54)) (v := .bool false) (w1 := W) rfl rfl (fun d pos aft g => by unfold execOp; go_simp) ⟨_, rfl, rfl, Below.refl _ _⟩
          | 3, _ =>
            obtain ⟨e2, x2⟩ := Rv.ev (show a.tmps.getD 2 undef = .pointer (some ⟨w.heap.size, 0, none⟩) from hbase 2 rfl)
            exact Rv.step_op (op := Go.Op.fieldAddr 26 (Go.Operand.tmp 2) 4) (v := .pointer (some ⟨w.heap.size, 4, none⟩)) (w1 := W) rfl rfl (fun d pos aft g => by unfold execOp; go_simp) ⟨_, rfl, rfl, Below.refl _ _⟩
          | 4, _ =>
            obtain ⟨e56, x56⟩ := Rv.ev (show a.tmps.getD 56 undef = .pointer (some ⟨w.heap.size, 4, none⟩) from hdep 3 rfl)
            exact Rv.step_op (op := Go.Op.load 24 (Go.Operand.tmp 56)) (v := .slice (some ⟨bi, oi, none⟩) ta.is.length c2) (w1 := W) rfl rfl (fun d pos aft g => by unfold execOp; go_simp) ⟨_, rfl, rfl, Below.refl _ _⟩
          | 5, _ =>
            obtain ⟨e5, x5⟩ := Rv.ev (show a.tmps.getD 5 undef = .int .i64 (i1 : Int) from hbase 5 rfl)
            exact Rv.step_op (op := Go.Op.move (Go.Operand.tmp 5)) (v := .int .i64 (i1 : Int)) (w1 := W) rfl rfl (fun d pos aft g => by unfold execOp; go_simp) ⟨_, rfl, rfl, Below.refl _ _⟩
          | 6, _ =>
            obtain ⟨e57, x57⟩ := Rv.ev (show a.tmps.getD 57 undef = .slice (some ⟨bi, oi, none⟩) ta.is.length c2 from hdep 4 rfl)
            obtain ⟨e58, x58⟩ := Rv.ev (show a.tmps.getD 58 undef = .int .i64 (i1 : Int) from hdep 5 rfl)
            exact Rv.step_op (op := Go.Op.indexAddr 24 (Go.Operand.tmp 57) (Go.Operand.tmp 58)) (v := .pointer (some ⟨bi, oi + i1 * 5, none⟩)) (w1 := W) rfl rfl (fun d pos aft g => by unfold execOp; go_simp) ⟨_, rfl, rfl, Below.refl _ _⟩
          | 7, _ =>
            obtain ⟨e59, x59⟩ := Rv.ev (show a.tmps.getD 59 undef = .pointer (some ⟨bi, oi + i1 * 5, none⟩) from hdep 6 rfl)
            exact Rv.step_op (op := Go.Op.load 26 (Go.Operand.tmp 59)) (v := .agg #[.int .i64 ti.k, .int .i64 ti.n, .string ti.s, .slice A3 ti.ns.length c3, .slice A4 ti.is.length c4]) (w1 := W) rfl rfl (fun d pos aft g => by unfold execOp; go_simp) ⟨_, rfl, rfl, Below.refl _ _⟩
          | 8, _ =>
            obtain ⟨e3, x3⟩ := Rv.ev (show a.tmps.getD 3 undef = .pointer (some ⟨w.heap.size + 1, 0, none⟩) from hbase 3 rfl)
            exact Rv.step_op (op := Go.Op.fieldAddr 26 (Go.Operand.tmp 3) 4) (v := .pointer (some ⟨w.heap.size + 1, 4, none⟩)) (w1 := W) rfl rfl (fun d pos aft g => by unfold execOp; go_simp) ⟨_, rfl, rfl, Below.refl _ _⟩
          | 9, _ =>
            obtain ⟨e61, x61⟩ := Rv.ev (show a.tmps.getD 61 undef = .pointer (some ⟨w.heap.size + 1, 4, none⟩) from hdep 8 rfl)
            exact Rv.step_op (op := Go.Op.load 24 (Go.Operand.tmp 61)) (v := .slice (some ⟨bj, oj, none⟩) tb.is.length d2) (w1 := W) rfl rfl (fun d pos aft g => by unfold execOp; go_simp) ⟨_, rfl, rfl, Below.refl _ _⟩
          | 10, _ =>
            obtain ⟨e6, x6⟩ := Rv.ev (show a.tmps.getD 6 undef = .int .i64 (i1 : Int) from hbase 6 rfl)
            exact Rv.step_op (op := Go.Op.move (Go.Operand.tmp 6)) (v := .int .i64 (i1 : Int)) (w1 := W) rfl rfl (fun d pos aft g => by unfold execOp; go_simp) ⟨_, rfl, rfl, Below.refl _ _⟩
          | 11, _ =>
            obtain ⟨e62, x62⟩ := Rv.ev (show a.tmps.getD 62 undef = .slice (some ⟨bj, oj, none⟩) tb.is.length d2 from hdep 9 rfl)
            obtain ⟨e63, x63⟩ := Rv.ev (show a.tmps.getD 63 undef = .int .i64 (i1 : Int) from hdep 10 rfl)
            exact Rv.step_op (op := Go.Op.indexAddr 24 (Go.Operand.tmp 62) (Go.Operand.tmp 63)) (v := .pointer (some ⟨bj, oj + i1 * 5, none⟩)) (w1 := W) rfl rfl (fun d pos aft g => by unfold execOp; go_simp) ⟨_, rfl, rfl, Below.refl _ _⟩
          | 12, _ =>
            obtain ⟨e64, x64⟩ := Rv.ev (show a.tmps.getD 64 undef = .pointer (some ⟨bj, oj + i1 * 5, none⟩) from hdep 11 rfl)
            exact Rv.step_op (op := Go.Op.load 26 (Go.Operand.tmp 64)) (v := .agg #[.int .i64 tj.k, .int .i64 tj.n, .string tj.s, .slice B3 tj.ns.length d3, .slice B4 tj.is.length d4]) (w1 := W) rfl rfl (fun d pos aft g => by unfold execOp; go_simp) ⟨_, rfl, rfl, Below.refl _ _⟩
          | 13, _ =>
            obtain ⟨e60, x60⟩ := Rv.ev (show a.tmps.getD 60 undef = .agg #[.int .i64 ti.k, .int .i64 ti.n, .string ti.s, .slice A3 ti.ns.length c3, .slice A4 ti.is.length c4] from hdep 7 rfl)
            obtain ⟨e65, x65⟩ := Rv.ev (show a.tmps.getD 65 undef = .agg #[.int .i64 tj.k, .int .i64 tj.n, .string tj.s, .slice B3 tj.ns.length d3, .slice B4 tj.is.length d4] from hdep 12 rfl)
            have cf : ∀ x0 x1 W, (callFunc 21 #[x0, x1]).run Try.prog W = .ok (.enter 21 #[x0, x1]) W := fun _ _ _ => by kernel_rfl
            refine Rv.step_fn (op := Go.Op.call { callee := Go.Callee.value (Go.Operand.func 21), args := #[Go.Operand.tmp 60, Go.Operand.tmp 65], argTypes := #[26, 26] }) (f := 21) (args := #[.agg #[.int .i64 ti.k, .int .i64 ti.n, .string ti.s, .slice A3 ti.ns.length c3, .slice A4 ti.is.length c4], .agg #[.int .i64 tj.k, .int .i64 tj.n, .string tj.s, .slice B3 tj.ns.length d3, .slice B4 tj.is.length d4]]) (R := fun v W' => v = .bool r ∧ Below W.heap.size W W') rfl rfl (fun d pos aft g => by unfold execOp; go_simp) ((IH.out W htr).mono ?_) ?_
            · (rintro e W' ⟨rfl, hb⟩; exact ⟨_, rfl, rfl, hb⟩)
            · (rintro v W' ⟨rfl, hb⟩; exact ⟨_, rfl, rfl, hb⟩)
          | 14, _ =>
            obtain ⟨e66, x66⟩ := Rv.ev (show a.tmps.getD 66 undef = .bool r from hdep 13 rfl)
            exact Rv.step_op (op := Go.Op.unOp Go.UnOp.not 4 (Go.Operand.tmp 66)) (v := .bool (!r)) (w1 := W) rfl rfl (fun d pos aft g => by unfold execOp; go_simp) ⟨_, rfl, rfl, Below.refl _ _⟩
          | 15, _ =>
            obtain ⟨e55, x55⟩ := Rv.ev (show a.tmps.getD 55 undef = .bool false from hdep 2 rfl)
            obtain ⟨e67, x67⟩ := Rv.ev (show a.tmps.getD 67 undef = .bool (!r) from hdep 14 rfl)
            exact Rv.step_op (op := Go.Op.pick (Go.Operand.tmp 55) (Go.Operand.const (Go.Value.bool true)) (Go.Operand.tmp 67)) (v := .bool (!r)) (w1 := W) rfl rfl (fun d pos aft g => by unfold execOp; go_simp) ⟨_, rfl, rfl, Below.refl _ _⟩
          | m + 16, h => exact absurd h (by show ¬ m + 16 < 16; omega)
        intro W f hf htr
        have f0 : f 0 = .int .i64 (i1 : Int) := hf 0 (by show 0 < 16; omega)
        have f1 : f 1 = .bool false := hf 1 (by show 1 < 16; omega)
        have f2 : f 2 = .bool false := hf 2 (by show 2 < 16; omega)
        have f3 : f 3 = .pointer (some ⟨w.heap.size, 4, none⟩) := hf 3 (by show 3 < 16; omega)
        have f4 : f 4 = .slice (some ⟨bi, oi, none⟩) ta.is.length c2 := hf 4 (by show 4 < 16; omega)
        have f5 : f 5 = .int .i64 (i1 : Int) := hf 5 (by show 5 < 16; omega)
        have f6 : f 6 = .pointer (some ⟨bi, oi + i1 * 5, none⟩) := hf 6 (by show 6 < 16; omega)
        have f7 : f 7 = .agg #[.int .i64 ti.k, .int .i64 ti.n, .string ti.s, .slice A3 ti.ns.length c3, .slice A4 ti.is.length c4] := hf 7 (by show 7 < 16; omega)
        have f8 : f 8 = .pointer (some ⟨w.heap.size + 1, 4, none⟩) := hf 8 (by show 8 < 16; omega)
        have f9 : f 9 = .slice (some ⟨bj, oj, none⟩) tb.is.length d2 := hf 9 (by show 9 < 16; omega)
        have f10 : f 10 = .int .i64 (i1 : Int) := hf 10 (by show 10 < 16; omega)
        have f11 : f 11 = .pointer (some ⟨bj, oj + i1 * 5, none⟩) := hf 11 (by show 11 < 16; omega)
        have f12 : f 12 = .agg #[.int .i64 tj.k, .int .i64 tj.n, .string tj.s, .slice B3 tj.ns.length d3, .slice B4 tj.is.length d4] := hf 12 (by show 12 < 16; omega)
        have f13 : f 13 = .bool r := hf 13 (by show 13 < 16; omega)
        have f14 : f 14 = .bool (!r) := hf 14 (by show 14 < 16; omega)
        have f15 : f 15 = .bool (!r) := hf 15 (by show 15 < 16; omega)
        refine (show ∀ (a : Act) (w : World), Code.wp _ _ _ a w → _ from by assumption) _ _ ?_
        refine Rv.fin_swap (L' := [(53, f 0), (54, f 1), (55, f 2), (56, f 3), (57, f 4), (58, f 5), (59, f 6), (60, f 7), (61, f 8), (62, f 9), (63, f 10), (64, f 11), (65, f 12), (66, f 13), (67, f 14), (68, f 15)]) rfl ?_
        rw [f0, f1, f2, f3, f4, f5, f6, f7, f8, f9, f10, f11, f12, f13, f14, f15]
        clear f0 f1 f2 f3 f4 f5 f6 f7 f8 f9 f10 f11 f12 f13 f14 f15
        simp only [Rv.fin, List.foldl_cons, List.foldl_nil, Act.put, List.setIfInBounds_toArray, List.set_cons_succ, List.set_cons_zero]
        have HXW := Lib.hid (HXB.out.trans (htr.mono HXB.out.size))
        have HTW := Lib.hid (TQ.out W htr)
        clear hf htr TQ IC JC IH HXB HZ HIL HJL
        cases r
        · go_wp2
          go_ret
          refine ⟨?_, HXW.out⟩
          have : eqJ ta tb = false := by
            rw [Bool.eq_false_iff]
            intro h
            have h2 := (HIT.out.1 (((eqJ_iff ta tb).1 h).2.2.2.2 i1 hlt)).2
            cases h2
          rw [this]
          rfl
        · go_wp2
          go_roundw
          case rel => exact ⟨i1 + 1, by go_num, by omega, Lib.hid (fun j hj => by
            rcases Nat.lt_succ_iff_lt_or_eq.1 hj with h | h
            · exact HAL.out j h
            · rw [h]; exact HIT.out.2 ⟨by omega, rfl⟩), HXW, HTW⟩
          case measure => simp [intOf]; omega
    · obtain rfl : i1 = ta.is.length := by omega
      go_wp2
      go_ret
      refine ⟨?_, HXB.out⟩
      have : eqJ ta tb = true := (eqJ_iff ta tb).2 ⟨HK.out, HN.out, HS.out, HL.out, HAL.out⟩
      rw [this]
      rfl
theorem equal_any (ta tb : J) (p q : Nat → Prop) (v1 v2 : Value) (w : World) (hwa : Wf ta) (hwb : Wf tb) (hja : JN p w ta v1) (hjb : JN q w tb v2) : Calls Try.prog 21 #[v1, v2] w fun e w' => e = .returned (.bool (eqJ ta tb)) ∧ Below w.heap.size w w' :=
  equal_step ta (fun t ht tb p q v1 v2 w h1 h2 h3 h4 => equal_any t tb p q v1 v2 w h1 h2 h3 h4) tb p q v1 v2 w hwa hwb hja hjb
termination_by SizeOf.sizeOf ta
decreasing_by
  obtain ⟨i, hi, rfl⟩ := List.getElem_of_mem ht
  exact size_item ta i hi
end Go.Proofs.Ytmelgankbegjaaa.Js

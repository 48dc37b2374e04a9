/- Part r of the chain. Conditions: those written at each lemma. -/
import Derived.Test.YtmelgankbegjaaaGreatDoorGq
import Derived.Test.YtmelgankbegjaaaGreatDoorGl
import Derived.Test.YtmelgankbegjaaaGreatDoorGo
import Derived.Test.YtmelgankbegjaaaGreatDoorGp
import Derived.Test.YtmelgankbegjaaaGreatDoorGc
import Derived.Test.YtmelgankbegjaaaGreatDoorRows
import Derived.MakeChecks
import Derived.LaidMore
import Derived.OpenShut
import Derived.Lib.LaidU8
set_option linter.unusedVariables false
set_option linter.unusedSimpArgs false
set_option maxRecDepth 100000
set_option maxHeartbeats 8000000
namespace Go.Proofs.YtmelgankbegjaaaGreatDoor.Js
open Go.RowKit Go.Proofs.YtmelgankbegjaaaGreatDoor.B

theorem JN.at5 {p : Nat → Prop} {W : World} {k n : Int} {s : ByteArray} {ns : List ByteArray} {is : List J} {A A2 : Option Addr} {c c2 : Nat} (h : JN p W (.mk k n s ns is) (.agg #[.int .i64 k, .int .i64 n, .string s, .slice A ns.length c, .slice A2 is.length c2])) :
    ∃ hs, Rd W 1 (.slice A ns.length c) ns.length (strs ns) ∧ Rd W 5 (.slice A2 is.length c2) is.length (flat hs) ∧ JNs p W is hs := by
  obtain ⟨B, d, B2, d2, hs, e, h1, h2, h3⟩ := h
  injection e with e
  injection e with e
  simp only [List.cons.injEq, Value.slice.injEq, true_and, and_true] at e
  obtain ⟨⟨rfl, rfl⟩, rfl, rfl⟩ := e
  exact ⟨hs, h1.1, h2.1, h3⟩
theorem NN.at5 {p : Nat → Prop} {W : World} {k n : Int} {s : ByteArray} {ns : List ByteArray} {is : List J} {A A2 : Option Addr} {c c2 : Nat} (h : NN p W (.mk k n s ns is) (.agg #[.int .i64 k, .int .u64 (nb k n), .string s, .slice A ns.length c, .slice A2 is.length c2])) :
    ∃ hs, Rd W 5 (.slice A2 is.length c2) is.length (flat hs) ∧ NNs p W is hs := by
  obtain ⟨B, d, B2, d2, hs, e, h1, h2, h3⟩ := h
  injection e with e
  injection e with e
  simp only [List.cons.injEq, Value.slice.injEq, true_and, and_true] at e
  obtain ⟨⟨rfl, rfl⟩, rfl, rfl⟩ := e
  exact ⟨hs, h2.1, h3⟩
theorem same_step (k n : Int) (s : ByteArray) (ns nsc : List ByteArray) (is isc : List J) (IH0 : ∀ t ∈ is, ∀ (c : J) (p q : Nat → Prop) (v1 v2 : Value) (w : World), Wg t → Wg c → eqJ t c = true → NN p w t v1 → JN q w c v2 → Calls Tryz.prog 12 #[v1, v2] w fun e w' => e = .returned (.bool true) ∧ Below w.heap.size w w')
    (p q : Nat → Prop) (v1 v2 : Value) (w : World) (hwd : Wg (.mk k n s ns is)) (hwc : Wg (.mk k n s nsc isc)) (heq : eqJ (.mk k n s ns is) (.mk k n s nsc isc) = true) (hjd : NN p w (.mk k n s ns is) v1) (hjc : JN q w (.mk k n s nsc isc) v2) : Calls Tryz.prog 12 #[v1, v2] w fun e w' => e = .returned (.bool true) ∧ Below w.heap.size w w' := by
  obtain ⟨kd, d5, dl, dn⟩ := hwd.kids
  obtain ⟨kc, c5, cl, cn⟩ := hwc.kids
  obtain ⟨-, -, -, g4, g5⟩ := (eqJ_iff _ _).1 heq
  have e4 : isc.length = is.length := g4.symm
  have e5 : ∀ i, i < is.length → it (.mk k n s ns is) (.mk k n s nsc isc) i = true := g5
  have dl2 : is.length ≤ 8 := dl
  clear g4 g5 dl
  have hnl : nsc.length = ns.length := by
    by_cases h : k = 5
    · have h1 := (d5 h).1; have h2 := (c5 h).1; exact (show nsc.length = isc.length from h2).trans (e4.trans (show ns.length = is.length from h1).symm)
    · rw [show ns = [] from dn h, show nsc = [] from cn h]
  have h5n : k = 5 → ns.length = is.length := fun h => (d5 h).1
  have h5c : k = 5 → nsc.length = isc.length := fun h => (c5 h).1
  have IH0 := Lib.hid IH0
  have HWD := Lib.hid (show Wgs is from kd)
  have HWC := Lib.hid (show Wgs isc from kc)
  have HWC0 := Lib.hid hwc
  have hjd0 := hjd
  obtain ⟨A, a1, A2, a2, hs0, rfl, hn0, _⟩ := hjd0
  have hjc0 := hjc
  obtain ⟨C, c1, C2, c2, hs1, rfl, _⟩ := hjc0
  have HRN := Lib.hid hn0.1
  have h1 := old_blk (o := .cells #[.int .i64 k, .int .i64 n, .string s, .slice C nsc.length c1, .slice C2 isc.length c2] 26) (heap_alloc_new w (.cells #[.int .i64 k, .int .u64 (nb k n), .string s, .slice A ns.length a1, .slice A2 is.length a2] 34))
  have h2 : ((w.alloc (.cells #[.int .i64 k, .int .u64 (nb k n), .string s, .slice A ns.length a1, .slice A2 is.length a2] 34)).alloc (.cells #[.int .i64 k, .int .i64 n, .string s, .slice C nsc.length c1, .slice C2 isc.length c2] 26)).heap[w.heap.size + 1]? = some (.cells #[.int .i64 k, .int .i64 n, .string s, .slice C nsc.length c1, .slice C2 isc.length c2] 26 (0, 0)) := by
    have := heap_alloc_new (w.alloc (.cells #[.int .i64 k, .int .u64 (nb k n), .string s, .slice A ns.length a1, .slice A2 is.length a2] 34)) (.cells #[.int .i64 k, .int .i64 n, .string s, .slice C nsc.length c1, .slice C2 isc.length c2] 26)
    simpa using this
  have hX : Below w.heap.size w ((w.alloc (.cells #[.int .i64 k, .int .u64 (nb k n), .string s, .slice A ns.length a1, .slice A2 is.length a2] 34)).alloc (.cells #[.int .i64 k, .int .i64 n, .string s, .slice C nsc.length c1, .slice C2 isc.length c2] 26)) := ((Below.refl _ _).alloc (Nat.le_refl _) _).alloc (by simp) _
  have HT0 := Lib.hid (And.intro h1 h2)
  have HX0 := Lib.hid hX
  have HJD0 := Lib.hid (hjd.below hX)
  have HJC0 := Lib.hid (hjc.below hX)
  have hbn : ((ns.length : Int) != (nsc.length : Int)) = false := by rw [hnl]; simp
  have hbi : ((is.length : Int) != (isc.length : Int)) = false := by rw [e4]; simp
  obtain ⟨y0, y1, y2, y3, y4⟩ := Rv.cells5 h1
  obtain ⟨x0, x1, x2, x3, x4⟩ := Rv.cells5 h2
  have HEQ := Lib.hid e5
  have HEL := Lib.hid e4
  have HND := Lib.hid (fun h => (c5 h).2)
  have H5N := Lib.hid h5n
  have H5C := Lib.hid h5c
  clear kd d5 dn kc c5 cl cn e4 e5 hnl hwd hwc heq hjd hjc hn0 h1 h2 hX h5n h5c
  have INC := Lib.hid (in_anyg (.mk k n s nsc isc) q _ _ HWC0.out HJC0.out)
  go_enter Tryz.func12, Tryz.ntmps12
  go_upto_region 2 with (go_at_call 9; (with_reducible refine INC.out.mono ?_); rintro e w2 ⟨u, rfl, hu, hb2⟩; obtain ⟨E, e1, E2, e2, hs2, rfl, _⟩ := hu; have HB2 := Lib.hid hb2; clear hb2 y0 y1 y2 y3 y4 x0 x1 x2 x3 x4)
  have hal : Below w2.heap.size w2 (w2.alloc (.cells #[.int .i64 k, .int .u64 (nb k n), .string s, .slice E nsc.length e1, .slice E2 isc.length e2] 34)) := (Below.refl _ _).alloc (Nat.le_refl _) _
  have hbx := HB2.out.trans (hal.mono HB2.out.size)
  have hbw := HX0.out.trans (hbx.mono HX0.out.size)
  have ht1 := (hbx.block _ (Rv.lt_of_blk HT0.out.1)).trans HT0.out.1
  have ht2 := (hbx.block _ (Rv.lt_of_blk HT0.out.2)).trans HT0.out.2
  obtain ⟨y0, y1, y2, y3, y4⟩ := Rv.cells5 ht1
  obtain ⟨x0, x1, x2, x3, x4⟩ := Rv.cells5 ht2
  obtain ⟨z0, z1, z2, z3, z4⟩ := Rv.cells5 (heap_alloc_new w2 (.cells #[.int .i64 k, .int .u64 (nb k n), .string s, .slice E nsc.length e1, .slice E2 isc.length e2] 34))
  have HJDX := Lib.hid (HJD0.out.below hbx)
  have HJCX := Lib.hid (HJC0.out.below hbx)
  have HTX := Lib.hid (And.intro ht1 ht2)
  have HXX := Lib.hid hbw
  clear hal hbx hbw ht1 ht2 HJD0 HJC0 HT0 HX0 HB2 INC
  go_upto_region 5 with fail
  clear y0 y1 y2 y3 y4 x0 x1 x2 x3 x4 z0 z1 z2 z3 z4 hbn hbi
  generalize w2.alloc (.cells #[.int .i64 k, .int .u64 (nb k n), .string s, .slice E nsc.length e1, .slice E2 isc.length e2] 34) = w3 at *
  go_loopw [6, 7] (fun v6 v7 wr => ∃ (i1 : Nat), v6 = .int .i64 (i1 : Int) ∧ i1 ≤ is.length ∧ Hid (Below w.heap.size w wr) ∧ Hid (wr.heap[w.heap.size]? = some (.cells #[.int .i64 k, .int .u64 (nb k n), .string s, .slice A ns.length a1, .slice A2 is.length a2] 34 (0, 0)) ∧ wr.heap[w.heap.size + 1]? = some (.cells #[.int .i64 k, .int .i64 n, .string s, .slice C nsc.length c1, .slice C2 isc.length c2] 26 (0, 0))) ∧ Hid (NN p wr (.mk k n s ns is) (.agg #[.int .i64 k, .int .u64 (nb k n), .string s, .slice A ns.length a1, .slice A2 is.length a2])) ∧ Hid (JN q wr (.mk k n s nsc isc) (.agg #[.int .i64 k, .int .i64 n, .string s, .slice C nsc.length c1, .slice C2 isc.length c2]))) (fun v6 _ _ => (is.length - (intOf v6)).toNat)
  case atStart => exact ⟨0, rfl, Nat.zero_le _, HXX, HTX, HJDX, HJCX⟩
  case round =>
    obtain ⟨i1, rfl, hi1, HXB, HTQ, HJD, HJC⟩ := hrel
    clear HXX HTX HJDX HJCX
    obtain ⟨y0, y1, y2, y3, y4⟩ := Rv.cells5 HTQ.out.1
    by_cases hlt : i1 < is.length
    · by_cases hk : k = 5
      · subst hk
        have hnl := H5N.out rfl
        have hnc := H5C.out rfl
        obtain ⟨j1, hj1, hjn, hej, hix⟩ := (it_obj (a := .mk 5 n s ns is) (b := .mk 5 n s nsc isc) rfl hnl hnc i1 hlt).1 (HEQ.out i1 hlt)
        have hj1 : j1 < nsc.length := hj1
        have hln : i1 < ns.length := by omega
        have hjl : j1 < isc.length := by omega
        have hej : eqJ is[i1] isc[j1] = true := hej
        have hix : idx ns[i1] nsc 0 = (j1 : Int) := hix
        obtain ⟨bn, on, cn, hv, -, -, hbn, hcn⟩ := HRN.out.open (by omega)
        injection hv with ev1 ev2 ev3
        clear ev2 ev3
        subst ev1
        have xn := hcn i1 (.string ns[i1]) (by rw [List.getElem?_map, List.getElem?_eq_getElem hln]; rfl)
        have HNL := Lib.hid hln
        have NCW := Lib.hid (fun (W : World) (hb : Below w.heap.size w W) => (hb.cell (p := ⟨bn, on + i1, none⟩) hbn).trans xn)
        clear hcn xn hjn hbn
        generalize ns[i1] = nm at *
        go_upto_region 9 with fail
        generalize wr = X at *
        have TQ := Lib.hid (fun (W : World) (hb : Below X.heap.size X W) => And.intro ((hb.block _ (Rv.lt_of_blk HTQ.out.1)).trans HTQ.out.1) ((hb.block _ (Rv.lt_of_blk HTQ.out.2)).trans HTQ.out.2))
        have NC := Lib.hid (fun (W : World) (hb : Below X.heap.size X W) => NCW.out W (HXB.out.trans (hb.mono HXB.out.size)))
        have AT := Lib.hid (fun (W : World) (hb : Below X.heap.size X W) => at_any (.mk 5 n s nsc isc) q _ nm W (HJC.out.below hb) (show nsc.length ≤ 1000000 by have := HEL.out; omega))
        rw [show idx nm (J.mk 5 n s nsc isc).ns 0 = (j1 : Int) from hix] at AT
        have hgo := hej
        clear y0 y1 y2 y3 y4 hix
        refine Rv.region_goods (n := 81) (by kernel_rfl) #[58, 59, 60, 61, 62, 63, 64, 7] #[] (fun i v W => v = (#[.agg #[.int .i64 5, .int .i64 n, .string s, .slice C nsc.length c1, .slice C2 isc.length c2], .pointer (some ⟨w.heap.size, 3, none⟩), .slice (some ⟨bn, on, none⟩) ns.length a1, .int .i64 (i1 : Int), .pointer (some ⟨bn, on + i1, none⟩), .string nm, .int .i64 (j1 : Int), .int .i64 (j1 : Int)] : Array Value).getD i undef) (fun i v w w' h hb => ?_) (fun i h g b hg => ?_) rfl (by kernel_rfl) (by kernel_rfl) (fun i h hr w => ?_) ?_ ?_
        · exact h
        · match i, h, hg with
          | 0, _, hg => cases hg
          | 1, _, hg => cases hg
          | 2, _, hg => cases hg
          | 3, _, hg => cases hg
          | 4, _, hg => cases hg
          | 5, _, hg => cases hg
          | 6, _, hg => cases hg
          | 7, _, hg => cases hg
          | m + 8, h, _ => exact absurd h (by show ¬ m + 8 < 8; omega)
        · match i, h, hr with
          | 0, _, hr => exact Bool.noConfusion (show true = false from hr)
          | 1, _, hr => exact Bool.noConfusion (show true = false from hr)
          | 2, _, hr => exact Bool.noConfusion (show true = false from hr)
          | 3, _, hr => exact Bool.noConfusion (show true = false from hr)
          | 4, _, hr => exact Bool.noConfusion (show true = false from hr)
          | 5, _, hr => exact Bool.noConfusion (show true = false from hr)
          | 6, _, hr => exact Bool.noConfusion (show true = false from hr)
          | 7, _, hr => exact Bool.noConfusion (show true = false from hr)
          | m + 8, h, _ => exact absurd h (by show ¬ m + 8 < 8; omega)
        · intro i h a W hrun hbase hpre hdep htr
          obtain ⟨y0, y1, y2, y3, y4⟩ := Rv.cells5 (TQ.out W htr).1
          obtain ⟨x0, x1, x2, x3, x4⟩ := Rv.cells5 (TQ.out W htr).2
          have hnl := HNL.out
          have xn := NC.out W htr
          match i, h with
          | 0, _ =>
            obtain ⟨e3, x3⟩ := Rv.ev (show a.tmps.getD 3 undef = .pointer (some ⟨w.heap.size + 1, 0, none⟩) from hbase 3 rfl)
            exact Rv.step_op (op := Go.Op.load 26 (Go.Operand.tmp 3)) (v := .agg #[.int .i64 5, .int .i64 n, .string s, .slice C nsc.length c1, .slice C2 isc.length c2]) (w1 := W) rfl rfl (fun d pos aft g => by unfold execOp; go_simp) ⟨_, rfl, rfl, Below.refl _ _⟩
          | 1, _ =>
            obtain ⟨e2, x2⟩ := Rv.ev (show a.tmps.getD 2 undef = .pointer (some ⟨w.heap.size, 0, none⟩) from hbase 2 rfl)
            exact Rv.step_op (op := Go.Op.fieldAddr 34 (Go.Operand.tmp 2) 3) (v := .pointer (some ⟨w.heap.size, 3, none⟩)) (w1 := W) rfl rfl (fun d pos aft g => by unfold execOp; go_simp) ⟨_, rfl, rfl, Below.refl _ _⟩
          | 2, _ =>
            obtain ⟨e59, x59⟩ := Rv.ev (show a.tmps.getD 59 undef = .pointer (some ⟨w.heap.size, 3, none⟩) from hdep 1 rfl)
            exact Rv.step_op (op := Go.Op.load 23 (Go.Operand.tmp 59)) (v := .slice (some ⟨bn, on, none⟩) ns.length a1) (w1 := W) rfl rfl (fun d pos aft g => by unfold execOp; go_simp) ⟨_, rfl, rfl, Below.refl _ _⟩
          | 3, _ =>
            obtain ⟨e6, x6⟩ := Rv.ev (show a.tmps.getD 6 undef = .int .i64 (i1 : Int) from hbase 6 rfl)
            exact Rv.step_op (op := Go.Op.move (Go.Operand.tmp 6)) (v := .int .i64 (i1 : Int)) (w1 := W) rfl rfl (fun d pos aft g => by unfold execOp; go_simp) ⟨_, rfl, rfl, Below.refl _ _⟩
          | 4, _ =>
            obtain ⟨e60, x60⟩ := Rv.ev (show a.tmps.getD 60 undef = .slice (some ⟨bn, on, none⟩) ns.length a1 from hdep 2 rfl)
            obtain ⟨e61, x61⟩ := Rv.ev (show a.tmps.getD 61 undef = .int .i64 (i1 : Int) from hdep 3 rfl)
            exact Rv.step_op (op := Go.Op.indexAddr 23 (Go.Operand.tmp 60) (Go.Operand.tmp 61)) (v := .pointer (some ⟨bn, on + i1, none⟩)) (w1 := W) rfl rfl (fun d pos aft g => by unfold execOp; go_simp) ⟨_, rfl, rfl, Below.refl _ _⟩
          | 5, _ =>
            obtain ⟨e62, x62⟩ := Rv.ev (show a.tmps.getD 62 undef = .pointer (some ⟨bn, on + i1, none⟩) from hdep 4 rfl)
            exact Rv.step_op (op := Go.Op.load 9 (Go.Operand.tmp 62)) (v := .string nm) (w1 := W) rfl rfl (fun d pos aft g => by unfold execOp; go_simp) ⟨_, rfl, rfl, Below.refl _ _⟩
          | 6, _ =>
            obtain ⟨e58, x58⟩ := Rv.ev (show a.tmps.getD 58 undef = .agg #[.int .i64 5, .int .i64 n, .string s, .slice C nsc.length c1, .slice C2 isc.length c2] from hdep 0 rfl)
            obtain ⟨e63, x63⟩ := Rv.ev (show a.tmps.getD 63 undef = .string nm from hdep 5 rfl)
            have cf : ∀ x0 x1 W, (callFunc 26 #[x0, x1]).run Tryz.prog W = .ok (.enter 26 #[x0, x1]) W := fun _ _ _ => by kernel_rfl
            refine Rv.step_fn (op := Go.Op.call { callee := Go.Callee.value (Go.Operand.func 26), args := #[Go.Operand.tmp 58, Go.Operand.tmp 63], argTypes := #[26, 9] }) (f := 26) (args := #[.agg #[.int .i64 5, .int .i64 n, .string s, .slice C nsc.length c1, .slice C2 isc.length c2], .string nm]) (R := fun v W' => v = .int .i64 (j1 : Int) ∧ Below W.heap.size W W') rfl rfl (fun d pos aft g => by unfold execOp; go_simp) ((AT.out W htr).mono ?_) ?_
            · (rintro e W' ⟨rfl, hb⟩; exact ⟨_, rfl, rfl, hb⟩)
            · (rintro v W' ⟨rfl, hb⟩; exact ⟨_, rfl, rfl, hb⟩)
          | 7, _ =>
            obtain ⟨e64, x64⟩ := Rv.ev (show a.tmps.getD 64 undef = .int .i64 (j1 : Int) from hdep 6 rfl)
            exact Rv.step_op (op := Go.Op.assign (Go.Operand.tmp 64)) (v := .int .i64 (j1 : Int)) (w1 := W) rfl rfl (fun d pos aft g => by unfold execOp; go_simp) ⟨_, rfl, rfl, Below.refl _ _⟩
          | m + 8, h => exact absurd h (by show ¬ m + 8 < 8; omega)
        intro W f hf htr
        have f0 : f 0 = .agg #[.int .i64 5, .int .i64 n, .string s, .slice C nsc.length c1, .slice C2 isc.length c2] := hf 0 (by show 0 < 8; omega)
        have f1 : f 1 = .pointer (some ⟨w.heap.size, 3, none⟩) := hf 1 (by show 1 < 8; omega)
        have f2 : f 2 = .slice (some ⟨bn, on, none⟩) ns.length a1 := hf 2 (by show 2 < 8; omega)
        have f3 : f 3 = .int .i64 (i1 : Int) := hf 3 (by show 3 < 8; omega)
        have f4 : f 4 = .pointer (some ⟨bn, on + i1, none⟩) := hf 4 (by show 4 < 8; omega)
        have f5 : f 5 = .string nm := hf 5 (by show 5 < 8; omega)
        have f6 : f 6 = .int .i64 (j1 : Int) := hf 6 (by show 6 < 8; omega)
        have f7 : f 7 = .int .i64 (j1 : Int) := hf 7 (by show 7 < 8; omega)
        refine (show ∀ (a : Act) (w : World), Code.wp _ _ _ a w → _ from by assumption) _ _ ?_
        refine Rv.fin_swap (L' := [(58, f 0), (59, f 1), (60, f 2), (61, f 3), (62, f 4), (63, f 5), (64, f 6), (7, f 7)]) rfl ?_
        rw [f0, f1, f2, f3, f4, f5, f6, f7]
        clear f0 f1 f2 f3 f4 f5 f6 f7
        simp only [Rv.fin, List.foldl_cons, List.foldl_nil, Act.put, List.setIfInBounds_toArray, List.set_cons_succ, List.set_cons_zero]
        have HXB := Lib.hid (HXB.out.trans (htr.mono HXB.out.size))
        have HTQ := Lib.hid (TQ.out W htr)
        have HJD := Lib.hid (HJD.out.below htr)
        have HJC := Lib.hid (HJC.out.below htr)
        clear hf htr NC NCW AT TQ
        generalize W = X at *
        go_upto_region 10 with fail
        obtain ⟨hsd, hrd, hhd⟩ := HJD.out.at5
        obtain ⟨bd, od, A3, a3, A4, a4, ea, hbd, u0, u1, u2, u3, u4, hji⟩ := node_item hrd hhd rfl i1 hlt
        obtain ⟨hsc, -, hrc, hhc⟩ := HJC.out.at5
        obtain ⟨bc, oc, C3, c3, C4, c4, eb, hbc, q0, q1, q2, q3, q4, hjj⟩ := row_item hrc hhc rfl j1 hjl
        subst ea
        subst eb
        have TQ := Lib.hid (fun (W : World) (hb : Below X.heap.size X W) => And.intro ((hb.block _ (Rv.lt_of_blk HTQ.out.1)).trans HTQ.out.1) ((hb.block _ (Rv.lt_of_blk HTQ.out.2)).trans HTQ.out.2))
        have HZ := Lib.hid (show decide ((j1 : Int) < 0) = false from decide_eq_false (by omega))
        have HIL := Lib.hid hlt
        have HJL := Lib.hid hjl
        have IC := Lib.hid (fun (W : World) (hb : Below X.heap.size X W) => show W.cell? ⟨bd, od + i1 * 5, none⟩ = _ ∧ W.cell? ⟨bd, od + i1 * 5 + 1, none⟩ = _ ∧ W.cell? ⟨bd, od + i1 * 5 + 2, none⟩ = _ ∧ W.cell? ⟨bd, od + i1 * 5 + 3, none⟩ = _ ∧ W.cell? ⟨bd, od + i1 * 5 + 4, none⟩ = _ from ⟨(hb.cell hbd).trans u0, (hb.cell hbd).trans u1, (hb.cell hbd).trans u2, (hb.cell hbd).trans u3, (hb.cell hbd).trans u4⟩)
        have JC := Lib.hid (fun (W : World) (hb : Below X.heap.size X W) => show W.cell? ⟨bc, oc + j1 * 5, none⟩ = _ ∧ W.cell? ⟨bc, oc + j1 * 5 + 1, none⟩ = _ ∧ W.cell? ⟨bc, oc + j1 * 5 + 2, none⟩ = _ ∧ W.cell? ⟨bc, oc + j1 * 5 + 3, none⟩ = _ ∧ W.cell? ⟨bc, oc + j1 * 5 + 4, none⟩ = _ from ⟨(hb.cell hbc).trans q0, (hb.cell hbc).trans q1, (hb.cell hbc).trans q2, (hb.cell hbc).trans q3, (hb.cell hbc).trans q4⟩)
        have IH := Lib.hid (fun (W : World) (hb : Below X.heap.size X W) => IH0.out is[i1] (List.getElem_mem hlt) isc[j1] _ _ _ _ W (HWD.out.get _ (List.getElem_mem hlt)) (HWC.out.get _ (List.getElem_mem hjl)) hej (hji.below hb) (hjj.below hb))
        clear u0 u1 u2 u3 u4 q0 q1 q2 q3 q4 hji hjj hrd hhd hrc hhc hbd hbc hsd hsc hej
        generalize is[i1] = td at *
        generalize isc[j1] = tc at *
        refine Rv.region_goods (n := 81) (by kernel_rfl) #[65, 66, 67, 68, 69, 70, 71, 72, 73, 74, 75, 76, 77, 78, 79, 80] #[none, none, some false] (fun i v W => v = (#[.int .i64 (j1 : Int), .bool false, .bool false, .pointer (some ⟨w.heap.size, 4, none⟩), .slice (some ⟨bd, od, none⟩) is.length a2, .int .i64 (i1 : Int), .pointer (some ⟨bd, od + i1 * 5, none⟩), .agg #[.int .i64 td.k, .int .u64 (nb td.k td.n), .string td.s, .slice A3 td.ns.length a3, .slice A4 td.is.length a4], .pointer (some ⟨w.heap.size + 1, 4, none⟩), .slice (some ⟨bc, oc, none⟩) isc.length c2, .int .i64 (j1 : Int), .pointer (some ⟨bc, oc + j1 * 5, none⟩), .agg #[.int .i64 tc.k, .int .i64 tc.n, .string tc.s, .slice C3 tc.ns.length c3, .slice C4 tc.is.length c4], .bool true, .bool false, .bool false] : Array Value).getD i undef) (fun i v w w' h hb => ?_) (fun i h g b hg => ?_) rfl (by kernel_rfl) (by kernel_rfl) (fun i h hr w => ?_) ?_ ?_
        · exact h
        · match i, h, hg with
          | 0, _, hg => cases hg
          | 1, _, hg => cases hg
          | 2, _, hg => cases hg
          | 3, _, hg => (cases hg; exact fun v w e => e)
          | 4, _, hg => (cases hg; exact fun v w e => e)
          | 5, _, hg => (cases hg; exact fun v w e => e)
          | 6, _, hg => (cases hg; exact fun v w e => e)
          | 7, _, hg => (cases hg; exact fun v w e => e)
          | 8, _, hg => (cases hg; exact fun v w e => e)
          | 9, _, hg => (cases hg; exact fun v w e => e)
          | 10, _, hg => (cases hg; exact fun v w e => e)
          | 11, _, hg => (cases hg; exact fun v w e => e)
          | 12, _, hg => (cases hg; exact fun v w e => e)
          | 13, _, hg => (cases hg; exact fun v w e => e)
          | 14, _, hg => (cases hg; exact fun v w e => e)
          | 15, _, hg => cases hg
          | m + 16, h, _ => exact absurd h (by show ¬ m + 16 < 16; omega)
        · match i, h, hr with
          | 0, _, hr => exact Bool.noConfusion (show true = false from hr)
          | 1, _, hr => exact Bool.noConfusion (show true = false from hr)
          | 2, _, hr => exact Bool.noConfusion (show true = false from hr)
          | 3, _, hr => exact Bool.noConfusion (show true = false from hr)
          | 4, _, hr => exact Bool.noConfusion (show true = false from hr)
          | 5, _, hr => exact Bool.noConfusion (show true = false from hr)
          | 6, _, hr => exact Bool.noConfusion (show true = false from hr)
          | 7, _, hr => exact Bool.noConfusion (show true = false from hr)
          | 8, _, hr => exact Bool.noConfusion (show true = false from hr)
          | 9, _, hr => exact Bool.noConfusion (show true = false from hr)
          | 10, _, hr => exact Bool.noConfusion (show true = false from hr)
          | 11, _, hr => exact Bool.noConfusion (show true = false from hr)
          | 12, _, hr => exact Bool.noConfusion (show true = false from hr)
          | 13, _, hr => exact Bool.noConfusion (show true = false from hr)
          | 14, _, hr => exact Bool.noConfusion (show true = false from hr)
          | 15, _, hr => exact Bool.noConfusion (show true = false from hr)
          | m + 16, h, _ => exact absurd h (by show ¬ m + 16 < 16; omega)
        · intro i h a W hrun hbase hpre hdep htr
          obtain ⟨y0, y1, y2, y3, y4⟩ := Rv.cells5 (TQ.out W htr).1
          obtain ⟨x0, x1, x2, x3, x4⟩ := Rv.cells5 (TQ.out W htr).2
          have hzd := HZ.out
          have hil := HIL.out
          have hjl := HJL.out
          obtain ⟨i0, i1', i2, i3, i4⟩ := IC.out W htr
          obtain ⟨j0, j1', j2, j3, j4⟩ := JC.out W htr
          match i, h with
          | 0, _ =>
            obtain ⟨e7, x7⟩ := Rv.ev (show a.tmps.getD 7 undef = .int .i64 (j1 : Int) from hbase 7 rfl)
            exact Rv.step_op (op := Go.Op.move (Go.Operand.tmp 7)) (v := .int .i64 (j1 : Int)) (w1 := W) rfl rfl (fun d pos aft g => by unfold execOp; go_simp) ⟨_, rfl, rfl, Below.refl _ _⟩
          | 1, _ =>
            obtain ⟨e65, x65⟩ := Rv.ev (show a.tmps.getD 65 undef = .int .i64 (j1 : Int) from hdep 0 rfl)
            exact Rv.step_op (op := Go.Op.binOp Go.BinOp.lss 3 (Go.Operand.tmp 65) (Go.Operand.const (Go.Value.int Go.IntKind.i64 0)) 3) (v := .bool false) (w1 := W) rfl rfl (fun d pos aft g => by unfold execOp; go_simp) ⟨_, rfl, rfl, Below.refl _ _⟩
          | 2, _ =>
            obtain ⟨e66, x66⟩ := Rv.ev (show a.tmps.getD 66 undef = .bool false from hdep 1 rfl)
            exact Rv.step_op (op := Go.Op.move (Go.Operand.tmp 66)) (v := .bool false) (w1 := W) rfl rfl (fun d pos aft g => by unfold execOp; go_simp) ⟨_, rfl, rfl, Below.refl _ _⟩
          | 3, _ =>
            obtain ⟨e2, x2⟩ := Rv.ev (show a.tmps.getD 2 undef = .pointer (some ⟨w.heap.size, 0, none⟩) from hbase 2 rfl)
            exact Rv.step_op (op := Go.Op.fieldAddr 34 (Go.Operand.tmp 2) 4) (v := .pointer (some ⟨w.heap.size, 4, none⟩)) (w1 := W) rfl rfl (fun d pos aft g => by unfold execOp; go_simp) ⟨_, rfl, rfl, Below.refl _ _⟩
          | 4, _ =>
            obtain ⟨e68, x68⟩ := Rv.ev (show a.tmps.getD 68 undef = .pointer (some ⟨w.heap.size, 4, none⟩) from hdep 3 rfl)
            exact Rv.step_op (op := Go.Op.load 32 (Go.Operand.tmp 68)) (v := .slice (some ⟨bd, od, none⟩) is.length a2) (w1 := W) rfl rfl (fun d pos aft g => by unfold execOp; go_simp) ⟨_, rfl, rfl, Below.refl _ _⟩
          | 5, _ =>
            obtain ⟨e6, x6⟩ := Rv.ev (show a.tmps.getD 6 undef = .int .i64 (i1 : Int) from hbase 6 rfl)
            exact Rv.step_op (op := Go.Op.move (Go.Operand.tmp 6)) (v := .int .i64 (i1 : Int)) (w1 := W) rfl rfl (fun d pos aft g => by unfold execOp; go_simp) ⟨_, rfl, rfl, Below.refl _ _⟩
          | 6, _ =>
            obtain ⟨e69, x69⟩ := Rv.ev (show a.tmps.getD 69 undef = .slice (some ⟨bd, od, none⟩) is.length a2 from hdep 4 rfl)
            obtain ⟨e70, x70⟩ := Rv.ev (show a.tmps.getD 70 undef = .int .i64 (i1 : Int) from hdep 5 rfl)
            exact Rv.step_op (op := Go.Op.indexAddr 32 (Go.Operand.tmp 69) (Go.Operand.tmp 70)) (v := .pointer (some ⟨bd, od + i1 * 5, none⟩)) (w1 := W) rfl rfl (fun d pos aft g => by unfold execOp; go_simp) ⟨_, rfl, rfl, Below.refl _ _⟩
          | 7, _ =>
            obtain ⟨e71, x71⟩ := Rv.ev (show a.tmps.getD 71 undef = .pointer (some ⟨bd, od + i1 * 5, none⟩) from hdep 6 rfl)
            exact Rv.step_op (op := Go.Op.load 34 (Go.Operand.tmp 71)) (v := .agg #[.int .i64 td.k, .int .u64 (nb td.k td.n), .string td.s, .slice A3 td.ns.length a3, .slice A4 td.is.length a4]) (w1 := W) rfl rfl (fun d pos aft g => by unfold execOp; go_simp) ⟨_, rfl, rfl, Below.refl _ _⟩
          | 8, _ =>
            obtain ⟨e3, x3⟩ := Rv.ev (show a.tmps.getD 3 undef = .pointer (some ⟨w.heap.size + 1, 0, none⟩) from hbase 3 rfl)
            exact Rv.step_op (op := Go.Op.fieldAddr 26 (Go.Operand.tmp 3) 4) (v := .pointer (some ⟨w.heap.size + 1, 4, none⟩)) (w1 := W) rfl rfl (fun d pos aft g => by unfold execOp; go_simp) ⟨_, rfl, rfl, Below.refl _ _⟩
          | 9, _ =>
            obtain ⟨e73, x73⟩ := Rv.ev (show a.tmps.getD 73 undef = .pointer (some ⟨w.heap.size + 1, 4, none⟩) from hdep 8 rfl)
            exact Rv.step_op (op := Go.Op.load 24 (Go.Operand.tmp 73)) (v := .slice (some ⟨bc, oc, none⟩) isc.length c2) (w1 := W) rfl rfl (fun d pos aft g => by unfold execOp; go_simp) ⟨_, rfl, rfl, Below.refl _ _⟩
          | 10, _ =>
            obtain ⟨e7, x7⟩ := Rv.ev (show a.tmps.getD 7 undef = .int .i64 (j1 : Int) from hbase 7 rfl)
            exact Rv.step_op (op := Go.Op.move (Go.Operand.tmp 7)) (v := .int .i64 (j1 : Int)) (w1 := W) rfl rfl (fun d pos aft g => by unfold execOp; go_simp) ⟨_, rfl, rfl, Below.refl _ _⟩
          | 11, _ =>
            obtain ⟨e74, x74⟩ := Rv.ev (show a.tmps.getD 74 undef = .slice (some ⟨bc, oc, none⟩) isc.length c2 from hdep 9 rfl)
            obtain ⟨e75, x75⟩ := Rv.ev (show a.tmps.getD 75 undef = .int .i64 (j1 : Int) from hdep 10 rfl)
            exact Rv.step_op (op := Go.Op.indexAddr 24 (Go.Operand.tmp 74) (Go.Operand.tmp 75)) (v := .pointer (some ⟨bc, oc + j1 * 5, none⟩)) (w1 := W) rfl rfl (fun d pos aft g => by unfold execOp; go_simp) ⟨_, rfl, rfl, Below.refl _ _⟩
          | 12, _ =>
            obtain ⟨e76, x76⟩ := Rv.ev (show a.tmps.getD 76 undef = .pointer (some ⟨bc, oc + j1 * 5, none⟩) from hdep 11 rfl)
            exact Rv.step_op (op := Go.Op.load 26 (Go.Operand.tmp 76)) (v := .agg #[.int .i64 tc.k, .int .i64 tc.n, .string tc.s, .slice C3 tc.ns.length c3, .slice C4 tc.is.length c4]) (w1 := W) rfl rfl (fun d pos aft g => by unfold execOp; go_simp) ⟨_, rfl, rfl, Below.refl _ _⟩
          | 13, _ =>
            obtain ⟨e72, x72⟩ := Rv.ev (show a.tmps.getD 72 undef = .agg #[.int .i64 td.k, .int .u64 (nb td.k td.n), .string td.s, .slice A3 td.ns.length a3, .slice A4 td.is.length a4] from hdep 7 rfl)
            obtain ⟨e77, x77⟩ := Rv.ev (show a.tmps.getD 77 undef = .agg #[.int .i64 tc.k, .int .i64 tc.n, .string tc.s, .slice C3 tc.ns.length c3, .slice C4 tc.is.length c4] from hdep 12 rfl)
            have cf : ∀ x0 x1 W, (callFunc 12 #[x0, x1]).run Tryz.prog W = .ok (.enter 12 #[x0, x1]) W := fun _ _ _ => by kernel_rfl
            refine Rv.step_fn (op := Go.Op.call { callee := Go.Callee.value (Go.Operand.func 12), args := #[Go.Operand.tmp 72, Go.Operand.tmp 77], argTypes := #[34, 26] }) (f := 12) (args := #[.agg #[.int .i64 td.k, .int .u64 (nb td.k td.n), .string td.s, .slice A3 td.ns.length a3, .slice A4 td.is.length a4], .agg #[.int .i64 tc.k, .int .i64 tc.n, .string tc.s, .slice C3 tc.ns.length c3, .slice C4 tc.is.length c4]]) (R := fun v W' => v = .bool true ∧ Below W.heap.size W W') rfl rfl (fun d pos aft g => by unfold execOp; go_simp) ((IH.out W htr).mono ?_) ?_
            · (rintro e W' ⟨rfl, hb⟩; exact ⟨_, rfl, rfl, hb⟩)
            · (rintro v W' ⟨rfl, hb⟩; exact ⟨_, rfl, rfl, hb⟩)
          | 14, _ =>
            obtain ⟨e78, x78⟩ := Rv.ev (show a.tmps.getD 78 undef = .bool true from hdep 13 rfl)
            exact Rv.step_op (op := Go.Op.unOp Go.UnOp.not 4 (Go.Operand.tmp 78)) (v := .bool false) (w1 := W) rfl rfl (fun d pos aft g => by unfold execOp; go_simp) ⟨_, rfl, rfl, Below.refl _ _⟩
          | 15, _ =>
            obtain ⟨e67, x67⟩ := Rv.ev (show a.tmps.getD 67 undef = .bool false from hdep 2 rfl)
            obtain ⟨e79, x79⟩ := Rv.ev (show a.tmps.getD 79 undef = .bool false from hdep 14 rfl)
            exact Rv.step_op (op := Go.Op.pick (Go.Operand.tmp 67) (Go.Operand.const (Go.Value.bool true)) (Go.Operand.tmp 79)) (v := .bool false) (w1 := W) rfl rfl (fun d pos aft g => by unfold execOp; go_simp) ⟨_, rfl, rfl, Below.refl _ _⟩
          | m + 16, h => exact absurd h (by show ¬ m + 16 < 16; omega)
        intro W f hf htr
        have f0 : f 0 = .int .i64 (j1 : Int) := hf 0 (by show 0 < 16; omega)
        have f1 : f 1 = .bool false := hf 1 (by show 1 < 16; omega)
        have f2 : f 2 = .bool false := hf 2 (by show 2 < 16; omega)
        have f3 : f 3 = .pointer (some ⟨w.heap.size, 4, none⟩) := hf 3 (by show 3 < 16; omega)
        have f4 : f 4 = .slice (some ⟨bd, od, none⟩) is.length a2 := hf 4 (by show 4 < 16; omega)
        have f5 : f 5 = .int .i64 (i1 : Int) := hf 5 (by show 5 < 16; omega)
        have f6 : f 6 = .pointer (some ⟨bd, od + i1 * 5, none⟩) := hf 6 (by show 6 < 16; omega)
        have f7 : f 7 = .agg #[.int .i64 td.k, .int .u64 (nb td.k td.n), .string td.s, .slice A3 td.ns.length a3, .slice A4 td.is.length a4] := hf 7 (by show 7 < 16; omega)
        have f8 : f 8 = .pointer (some ⟨w.heap.size + 1, 4, none⟩) := hf 8 (by show 8 < 16; omega)
        have f9 : f 9 = .slice (some ⟨bc, oc, none⟩) isc.length c2 := hf 9 (by show 9 < 16; omega)
        have f10 : f 10 = .int .i64 (j1 : Int) := hf 10 (by show 10 < 16; omega)
        have f11 : f 11 = .pointer (some ⟨bc, oc + j1 * 5, none⟩) := hf 11 (by show 11 < 16; omega)
        have f12 : f 12 = .agg #[.int .i64 tc.k, .int .i64 tc.n, .string tc.s, .slice C3 tc.ns.length c3, .slice C4 tc.is.length c4] := hf 12 (by show 12 < 16; omega)
        have f13 : f 13 = .bool true := hf 13 (by show 13 < 16; omega)
        have f14 : f 14 = .bool false := hf 14 (by show 14 < 16; omega)
        have f15 : f 15 = .bool false := hf 15 (by show 15 < 16; omega)
        refine (show ∀ (a : Act) (w : World), Code.wp _ _ _ a w → _ from by assumption) _ _ ?_
        refine Rv.fin_swap (L' := [(65, f 0), (66, f 1), (67, f 2), (68, f 3), (69, f 4), (70, f 5), (71, f 6), (72, f 7), (73, f 8), (74, f 9), (75, f 10), (76, f 11), (77, f 12), (78, f 13), (79, f 14), (80, f 15)]) rfl ?_
        rw [f0, f1, f2, f3, f4, f5, f6, f7, f8, f9, f10, f11, f12, f13, f14, f15]
        clear f0 f1 f2 f3 f4 f5 f6 f7 f8 f9 f10 f11 f12 f13 f14 f15
        simp only [Rv.fin, List.foldl_cons, List.foldl_nil, Act.put, List.setIfInBounds_toArray, List.set_cons_succ, List.set_cons_zero]
        have HXW := Lib.hid (HXB.out.trans (htr.mono HXB.out.size))
        have HTW := Lib.hid (TQ.out W htr)
        have HJDW := Lib.hid (HJD.out.below htr)
        have HJCW := Lib.hid (HJC.out.below htr)
        clear hf htr TQ IC JC IH HXB HZ HIL HJL
        go_wp2
        go_roundw
        case rel => exact ⟨i1 + 1, by go_num, by omega, HXW, HTW, HJDW, HJCW⟩
        case measure => simp [intOf]; omega
      · have hkb : (k == 5) = false := by simp [hk]
        have hjl : i1 < isc.length := by have := HEL.out; omega
        have hej : eqJ is[i1] isc[i1] = true := by
          have h := HEQ.out i1 hlt
          rw [it_arr (a := .mk k n s ns is) (b := .mk k n s nsc isc) hk i1 hlt hjl] at h
          exact h
        go_upto_region 10 with fail
        clear y0 y1 y2 y3 y4
        generalize wr = X at *
        obtain ⟨hsd, hrd, hhd⟩ := HJD.out.at5
        obtain ⟨bd, od, A3, a3, A4, a4, ea, hbd, u0, u1, u2, u3, u4, hji⟩ := node_item hrd hhd rfl i1 hlt
        obtain ⟨hsc, -, hrc, hhc⟩ := HJC.out.at5
        obtain ⟨bc, oc, C3, c3, C4, c4, eb, hbc, q0, q1, q2, q3, q4, hjj⟩ := row_item hrc hhc rfl i1 hjl
        subst ea
        subst eb
        have TQ := Lib.hid (fun (W : World) (hb : Below X.heap.size X W) => And.intro ((hb.block _ (Rv.lt_of_blk HTQ.out.1)).trans HTQ.out.1) ((hb.block _ (Rv.lt_of_blk HTQ.out.2)).trans HTQ.out.2))
        have HZ := Lib.hid (show decide ((i1 : Int) < 0) = false from decide_eq_false (by omega))
        have HIL := Lib.hid hlt
        have HJL := Lib.hid hjl
        have IC := Lib.hid (fun (W : World) (hb : Below X.heap.size X W) => show W.cell? ⟨bd, od + i1 * 5, none⟩ = _ ∧ W.cell? ⟨bd, od + i1 * 5 + 1, none⟩ = _ ∧ W.cell? ⟨bd, od + i1 * 5 + 2, none⟩ = _ ∧ W.cell? ⟨bd, od + i1 * 5 + 3, none⟩ = _ ∧ W.cell? ⟨bd, od + i1 * 5 + 4, none⟩ = _ from ⟨(hb.cell hbd).trans u0, (hb.cell hbd).trans u1, (hb.cell hbd).trans u2, (hb.cell hbd).trans u3, (hb.cell hbd).trans u4⟩)
        have JC := Lib.hid (fun (W : World) (hb : Below X.heap.size X W) => show W.cell? ⟨bc, oc + i1 * 5, none⟩ = _ ∧ W.cell? ⟨bc, oc + i1 * 5 + 1, none⟩ = _ ∧ W.cell? ⟨bc, oc + i1 * 5 + 2, none⟩ = _ ∧ W.cell? ⟨bc, oc + i1 * 5 + 3, none⟩ = _ ∧ W.cell? ⟨bc, oc + i1 * 5 + 4, none⟩ = _ from ⟨(hb.cell hbc).trans q0, (hb.cell hbc).trans q1, (hb.cell hbc).trans q2, (hb.cell hbc).trans q3, (hb.cell hbc).trans q4⟩)
        have IH := Lib.hid (fun (W : World) (hb : Below X.heap.size X W) => IH0.out is[i1] (List.getElem_mem hlt) isc[i1] _ _ _ _ W (HWD.out.get _ (List.getElem_mem hlt)) (HWC.out.get _ (List.getElem_mem hjl)) hej (hji.below hb) (hjj.below hb))
        clear u0 u1 u2 u3 u4 q0 q1 q2 q3 q4 hji hjj hrd hhd hrc hhc hbd hbc hsd hsc hej
        generalize is[i1] = td at *
        generalize isc[i1] = tc at *
        refine Rv.region_goods (n := 81) (by kernel_rfl) #[65, 66, 67, 68, 69, 70, 71, 72, 73, 74, 75, 76, 77, 78, 79, 80] #[none, none, some false] (fun i v W => v = (#[.int .i64 (i1 : Int), .bool false, .bool false, .pointer (some ⟨w.heap.size, 4, none⟩), .slice (some ⟨bd, od, none⟩) is.length a2, .int .i64 (i1 : Int), .pointer (some ⟨bd, od + i1 * 5, none⟩), .agg #[.int .i64 td.k, .int .u64 (nb td.k td.n), .string td.s, .slice A3 td.ns.length a3, .slice A4 td.is.length a4], .pointer (some ⟨w.heap.size + 1, 4, none⟩), .slice (some ⟨bc, oc, none⟩) isc.length c2, .int .i64 (i1 : Int), .pointer (some ⟨bc, oc + i1 * 5, none⟩), .agg #[.int .i64 tc.k, .int .i64 tc.n, .string tc.s, .slice C3 tc.ns.length c3, .slice C4 tc.is.length c4], .bool true, .bool false, .bool false] : Array Value).getD i undef) (fun i v w w' h hb => ?_) (fun i h g b hg => ?_) rfl (by kernel_rfl) (by kernel_rfl) (fun i h hr w => ?_) ?_ ?_
        · exact h
        · match i, h, hg with
          | 0, _, hg => cases hg
          | 1, _, hg => cases hg
          | 2, _, hg => cases hg
          | 3, _, hg => (cases hg; exact fun v w e => e)
          | 4, _, hg => (cases hg; exact fun v w e => e)
          | 5, _, hg => (cases hg; exact fun v w e => e)
          | 6, _, hg => (cases hg; exact fun v w e => e)
          | 7, _, hg => (cases hg; exact fun v w e => e)
          | 8, _, hg => (cases hg; exact fun v w e => e)
          | 9, _, hg => (cases hg; exact fun v w e => e)
          | 10, _, hg => (cases hg; exact fun v w e => e)
          | 11, _, hg => (cases hg; exact fun v w e => e)
          | 12, _, hg => (cases hg; exact fun v w e => e)
          | 13, _, hg => (cases hg; exact fun v w e => e)
          | 14, _, hg => (cases hg; exact fun v w e => e)
          | 15, _, hg => cases hg
          | m + 16, h, _ => exact absurd h (by show ¬ m + 16 < 16; omega)
        · match i, h, hr with
          | 0, _, hr => exact Bool.noConfusion (show true = false from hr)
          | 1, _, hr => exact Bool.noConfusion (show true = false from hr)
          | 2, _, hr => exact Bool.noConfusion (show true = false from hr)
          | 3, _, hr => exact Bool.noConfusion (show true = false from hr)
          | 4, _, hr => exact Bool.noConfusion (show true = false from hr)
          | 5, _, hr => exact Bool.noConfusion (show true = false from hr)
          | 6, _, hr => exact Bool.noConfusion (show true = false from hr)
          | 7, _, hr => exact Bool.noConfusion (show true = false from hr)
          | 8, _, hr => exact Bool.noConfusion (show true = false from hr)
          | 9, _, hr => exact Bool.noConfusion (show true = false from hr)
          | 10, _, hr => exact Bool.noConfusion (show true = false from hr)
          | 11, _, hr => exact Bool.noConfusion (show true = false from hr)
          | 12, _, hr => exact Bool.noConfusion (show true = false from hr)
          | 13, _, hr => exact Bool.noConfusion (show true = false from hr)
          | 14, _, hr => exact Bool.noConfusion (show true = false from hr)
          | 15, _, hr => exact Bool.noConfusion (show true = false from hr)
          | m + 16, h, _ => exact absurd h (by show ¬ m + 16 < 16; omega)
        · intro i h a W hrun hbase hpre hdep htr
          obtain ⟨y0, y1, y2, y3, y4⟩ := Rv.cells5 (TQ.out W htr).1
          obtain ⟨x0, x1, x2, x3, x4⟩ := Rv.cells5 (TQ.out W htr).2
          have hzd := HZ.out
          have hil := HIL.out
          have hjl := HJL.out
          obtain ⟨i0, i1', i2, i3, i4⟩ := IC.out W htr
          obtain ⟨j0, j1', j2, j3, j4⟩ := JC.out W htr
          match i, h with
          | 0, _ =>
            obtain ⟨e7, x7⟩ := Rv.ev (show a.tmps.getD 7 undef = .int .i64 (i1 : Int) from hbase 7 rfl)
            exact Rv.step_op (op := Go.Op.move (Go.Operand.tmp 7)) (v := .int .i64 (i1 : Int)) (w1 := W) rfl rfl (fun d pos aft g => by unfold execOp; go_simp) ⟨_, rfl, rfl, Below.refl _ _⟩
          | 1, _ =>
            obtain ⟨e65, x65⟩ := Rv.ev (show a.tmps.getD 65 undef = .int .i64 (i1 : Int) from hdep 0 rfl)
            exact Rv.step_op (op := Go.Op.binOp Go.BinOp.lss 3 (Go.Operand.tmp 65) (Go.Operand.const (Go.Value.int Go.IntKind.i64 0)) 3) (v := .bool false) (w1 := W) rfl rfl (fun d pos aft g => by unfold execOp; go_simp) ⟨_, rfl, rfl, Below.refl _ _⟩
          | 2, _ =>
            obtain ⟨e66, x66⟩ := Rv.ev (show a.tmps.getD 66 undef = .bool false from hdep 1 rfl)
            exact Rv.step_op (op := Go.Op.move (Go.Operand.tmp 66)) (v := .bool false) (w1 := W) rfl rfl (fun d pos aft g => by unfold execOp; go_simp) ⟨_, rfl, rfl, Below.refl _ _⟩
          | 3, _ =>
            obtain ⟨e2, x2⟩ := Rv.ev (show a.tmps.getD 2 undef = .pointer (some ⟨w.heap.size, 0, none⟩) from hbase 2 rfl)
            exact Rv.step_op (op := Go.Op.fieldAddr 34 (Go.Operand.tmp 2) 4) (v := .pointer (some ⟨w.heap.size, 4, none⟩)) (w1 := W) rfl rfl (fun d pos aft g => by unfold execOp; go_simp) ⟨_, rfl, rfl, Below.refl _ _⟩
          | 4, _ =>
            obtain ⟨e68, x68⟩ := Rv.ev (show a.tmps.getD 68 undef = .pointer (some ⟨w.heap.size, 4, none⟩) from hdep 3 rfl)
            exact Rv.step_op (op := Go.Op.load 32 (Go.Operand.tmp 68)) (v := .slice (some ⟨bd, od, none⟩) is.length a2) (w1 := W) rfl rfl (fun d pos aft g => by unfold execOp; go_simp) ⟨_, rfl, rfl, Below.refl _ _⟩
          | 5, _ =>
            obtain ⟨e6, x6⟩ := Rv.ev (show a.tmps.getD 6 undef = .int .i64 (i1 : Int) from hbase 6 rfl)
            exact Rv.step_op (op := Go.Op.move (Go.Operand.tmp 6)) (v := .int .i64 (i1 : Int)) (w1 := W) rfl rfl (fun d pos aft g => by unfold execOp; go_simp) ⟨_, rfl, rfl, Below.refl _ _⟩
          | 6, _ =>
            obtain ⟨e69, x69⟩ := Rv.ev (show a.tmps.getD 69 undef = .slice (some ⟨bd, od, none⟩) is.length a2 from hdep 4 rfl)
            obtain ⟨e70, x70⟩ := Rv.ev (show a.tmps.getD 70 undef = .int .i64 (i1 : Int) from hdep 5 rfl)
            exact Rv.step_op (op := Go.Op.indexAddr 32 (Go.Operand.tmp 69) (Go.Operand.tmp 70)) (v := .pointer (some ⟨bd, od + i1 * 5, none⟩)) (w1 := W) rfl rfl (fun d pos aft g => by unfold execOp; go_simp) ⟨_, rfl, rfl, Below.refl _ _⟩
          | 7, _ =>
            obtain ⟨e71, x71⟩ := Rv.ev (show a.tmps.getD 71 undef = .pointer (some ⟨bd, od + i1 * 5, none⟩) from hdep 6 rfl)
            exact Rv.step_op (op := Go.Op.load 34 (Go.Operand.tmp 71)) (v := .agg #[.int .i64 td.k, .int .u64 (nb td.k td.n), .string td.s, .slice A3 td.ns.length a3, .slice A4 td.is.length a4]) (w1 := W) rfl rfl (fun d pos aft g => by unfold execOp; go_simp) ⟨_, rfl, rfl, Below.refl _ _⟩
          | 8, _ =>
            obtain ⟨e3, x3⟩ := Rv.ev (show a.tmps.getD 3 undef = .pointer (some ⟨w.heap.size + 1, 0, none⟩) from hbase 3 rfl)
            exact Rv.step_op (op := Go.Op.fieldAddr 26 (Go.Operand.tmp 3) 4) (v := .pointer (some ⟨w.heap.size + 1, 4, none⟩)) (w1 := W) rfl rfl (fun d pos aft g => by unfold execOp; go_simp) ⟨_, rfl, rfl, Below.refl _ _⟩
          | 9, _ =>
            obtain ⟨e73, x73⟩ := Rv.ev (show a.tmps.getD 73 undef = .pointer (some ⟨w.heap.size + 1, 4, none⟩) from hdep 8 rfl)
            exact Rv.step_op (op := Go.Op.load 24 (Go.Operand.tmp 73)) (v := .slice (some ⟨bc, oc, none⟩) isc.length c2) (w1 := W) rfl rfl (fun d pos aft g => by unfold execOp; go_simp) ⟨_, rfl, rfl, Below.refl _ _⟩
          | 10, _ =>
            obtain ⟨e7, x7⟩ := Rv.ev (show a.tmps.getD 7 undef = .int .i64 (i1 : Int) from hbase 7 rfl)
            exact Rv.step_op (op := Go.Op.move (Go.Operand.tmp 7)) (v := .int .i64 (i1 : Int)) (w1 := W) rfl rfl (fun d pos aft g => by unfold execOp; go_simp) ⟨_, rfl, rfl, Below.refl _ _⟩
          | 11, _ =>
            obtain ⟨e74, x74⟩ := Rv.ev (show a.tmps.getD 74 undef = .slice (some ⟨bc, oc, none⟩) isc.length c2 from hdep 9 rfl)
            obtain ⟨e75, x75⟩ := Rv.ev (show a.tmps.getD 75 undef = .int .i64 (i1 : Int) from hdep 10 rfl)
            exact Rv.step_op (op := Go.Op.indexAddr 24 (Go.Operand.tmp 74) (Go.Operand.tmp 75)) (v := .pointer (some ⟨bc, oc + i1 * 5, none⟩)) (w1 := W) rfl rfl (fun d pos aft g => by unfold execOp; go_simp) ⟨_, rfl, rfl, Below.refl _ _⟩
          | 12, _ =>
            obtain ⟨e76, x76⟩ := Rv.ev (show a.tmps.getD 76 undef = .pointer (some ⟨bc, oc + i1 * 5, none⟩) from hdep 11 rfl)
            exact Rv.step_op (op := Go.Op.load 26 (Go.Operand.tmp 76)) (v := .agg #[.int .i64 tc.k, .int .i64 tc.n, .string tc.s, .slice C3 tc.ns.length c3, .slice C4 tc.is.length c4]) (w1 := W) rfl rfl (fun d pos aft g => by unfold execOp; go_simp) ⟨_, rfl, rfl, Below.refl _ _⟩
          | 13, _ =>
            obtain ⟨e72, x72⟩ := Rv.ev (show a.tmps.getD 72 undef = .agg #[.int .i64 td.k, .int .u64 (nb td.k td.n), .string td.s, .slice A3 td.ns.length a3, .slice A4 td.is.length a4] from hdep 7 rfl)
            obtain ⟨e77, x77⟩ := Rv.ev (show a.tmps.getD 77 undef = .agg #[.int .i64 tc.k, .int .i64 tc.n, .string tc.s, .slice C3 tc.ns.length c3, .slice C4 tc.is.length c4] from hdep 12 rfl)
            have cf : ∀ x0 x1 W, (callFunc 12 #[x0, x1]).run Tryz.prog W = .ok (.enter 12 #[x0, x1]) W := fun _ _ _ => by kernel_rfl
            refine Rv.step_fn (op := Go.Op.call { callee := Go.Callee.value (Go.Operand.func 12), args := #[Go.Operand.tmp 72, Go.Operand.tmp 77], argTypes := #[34, 26] }) (f := 12) (args := #[.agg #[.int .i64 td.k, .int .u64 (nb td.k td.n), .string td.s, .slice A3 td.ns.length a3, .slice A4 td.is.length a4], .agg #[.int .i64 tc.k, .int .i64 tc.n, .string tc.s, .slice C3 tc.ns.length c3, .slice C4 tc.is.length c4]]) (R := fun v W' => v = .bool true ∧ Below W.heap.size W W') rfl rfl (fun d pos aft g => by unfold execOp; go_simp) ((IH.out W htr).mono ?_) ?_
            · (rintro e W' ⟨rfl, hb⟩; exact ⟨_, rfl, rfl, hb⟩)
            · (rintro v W' ⟨rfl, hb⟩; exact ⟨_, rfl, rfl, hb⟩)
          | 14, _ =>
            obtain ⟨e78, x78⟩ := Rv.ev (show a.tmps.getD 78 undef = .bool true from hdep 13 rfl)
            exact Rv.step_op (op := Go.Op.unOp Go.UnOp.not 4 (Go.Operand.tmp 78)) (v := .bool false) (w1 := W) rfl rfl (fun d pos aft g => by unfold execOp; go_simp) ⟨_, rfl, rfl, Below.refl _ _⟩
          | 15, _ =>
            obtain ⟨e67, x67⟩ := Rv.ev (show a.tmps.getD 67 undef = .bool false from hdep 2 rfl)
            obtain ⟨e79, x79⟩ := Rv.ev (show a.tmps.getD 79 undef = .bool false from hdep 14 rfl)
            exact Rv.step_op (op := Go.Op.pick (Go.Operand.tmp 67) (Go.Operand.const (Go.Value.bool true)) (Go.Operand.tmp 79)) (v := .bool false) (w1 := W) rfl rfl (fun d pos aft g => by unfold execOp; go_simp) ⟨_, rfl, rfl, Below.refl _ _⟩
          | m + 16, h => exact absurd h (by show ¬ m + 16 < 16; omega)
        intro W f hf htr
        have f0 : f 0 = .int .i64 (i1 : Int) := hf 0 (by show 0 < 16; omega)
        have f1 : f 1 = .bool false := hf 1 (by show 1 < 16; omega)
        have f2 : f 2 = .bool false := hf 2 (by show 2 < 16; omega)
        have f3 : f 3 = .pointer (some ⟨w.heap.size, 4, none⟩) := hf 3 (by show 3 < 16; omega)
        have f4 : f 4 = .slice (some ⟨bd, od, none⟩) is.length a2 := hf 4 (by show 4 < 16; omega)
        have f5 : f 5 = .int .i64 (i1 : Int) := hf 5 (by show 5 < 16; omega)
        have f6 : f 6 = .pointer (some ⟨bd, od + i1 * 5, none⟩) := hf 6 (by show 6 < 16; omega)
        have f7 : f 7 = .agg #[.int .i64 td.k, .int .u64 (nb td.k td.n), .string td.s, .slice A3 td.ns.length a3, .slice A4 td.is.length a4] := hf 7 (by show 7 < 16; omega)
        have f8 : f 8 = .pointer (some ⟨w.heap.size + 1, 4, none⟩) := hf 8 (by show 8 < 16; omega)
        have f9 : f 9 = .slice (some ⟨bc, oc, none⟩) isc.length c2 := hf 9 (by show 9 < 16; omega)
        have f10 : f 10 = .int .i64 (i1 : Int) := hf 10 (by show 10 < 16; omega)
        have f11 : f 11 = .pointer (some ⟨bc, oc + i1 * 5, none⟩) := hf 11 (by show 11 < 16; omega)
        have f12 : f 12 = .agg #[.int .i64 tc.k, .int .i64 tc.n, .string tc.s, .slice C3 tc.ns.length c3, .slice C4 tc.is.length c4] := hf 12 (by show 12 < 16; omega)
        have f13 : f 13 = .bool true := hf 13 (by show 13 < 16; omega)
        have f14 : f 14 = .bool false := hf 14 (by show 14 < 16; omega)
        have f15 : f 15 = .bool false := hf 15 (by show 15 < 16; omega)
        refine (show ∀ (a : Act) (w : World), Code.wp _ _ _ a w → _ from by assumption) _ _ ?_
        refine Rv.fin_swap (L' := [(65, f 0), (66, f 1), (67, f 2), (68, f 3), (69, f 4), (70, f 5), (71, f 6), (72, f 7), (73, f 8), (74, f 9), (75, f 10), (76, f 11), (77, f 12), (78, f 13), (79, f 14), (80, f 15)]) rfl ?_
        rw [f0, f1, f2, f3, f4, f5, f6, f7, f8, f9, f10, f11, f12, f13, f14, f15]
        clear f0 f1 f2 f3 f4 f5 f6 f7 f8 f9 f10 f11 f12 f13 f14 f15
        simp only [Rv.fin, List.foldl_cons, List.foldl_nil, Act.put, List.setIfInBounds_toArray, List.set_cons_succ, List.set_cons_zero]
        have HXW := Lib.hid (HXB.out.trans (htr.mono HXB.out.size))
        have HTW := Lib.hid (TQ.out W htr)
        have HJDW := Lib.hid (HJD.out.below htr)
        have HJCW := Lib.hid (HJC.out.below htr)
        clear hf htr TQ IC JC IH HXB HZ HIL HJL
        go_wp2
        go_roundw
        case rel => exact ⟨i1 + 1, by go_num, by omega, HXW, HTW, HJDW, HJCW⟩
        case measure => simp [intOf]; omega
    · go_wp2
      go_ret
      exact ⟨by rfl, HXB.out⟩
theorem same_any : ∀ (N : Nat) (d : J), SizeOf.sizeOf d ≤ N → ∀ (c : J) (p q : Nat → Prop) (v1 v2 : Value) (w : World), Wg d → Wg c → eqJ d c = true → NN p w d v1 → JN q w c v2 →
    Calls Tryz.prog 12 #[v1, v2] w fun e w' => e = .returned (.bool true) ∧ Below w.heap.size w w' := by
  intro N
  induction N with
  | zero => intro a h; obtain ⟨k, n, s, ns, is⟩ := a; simp only [J.mk.sizeOf_spec] at h; omega
  | succ N ih =>
    intro d hN c p q v1 v2 w hd hc he h1 h2
    obtain ⟨k, n, s, ns, is⟩ := d
    obtain ⟨k', n', s', ns', is'⟩ := c
    obtain ⟨e1, e2, e3, -, -⟩ := (eqJ_iff _ _).1 he
    have e1 : k = k' := e1
    have e2 : n = n' := e2
    have e3 : s = s' := e3
    subst e1 e2 e3
    refine same_step k n s ns ns' is is' (fun t ht c p q v1 v2 w h1 h2 h3 h4 h5 => ?_) p q v1 v2 w hd hc he h1 h2
    obtain ⟨i, hi, rfl⟩ := List.getElem_of_mem ht
    exact ih _ (by have := size_item (.mk k n s ns is) i hi; exact (show SizeOf.sizeOf is[i] ≤ N from by have h : SizeOf.sizeOf is[i] < _ := this; omega)) c p q v1 v2 w h1 h2 h3 h4 h5
end Go.Proofs.YtmelgankbegjaaaGreatDoor.Js

set_option linter.unusedVariables false
set_option linter.unusedSimpArgs false
set_option maxRecDepth 100000
set_option maxHeartbeats 4000000
namespace Go.Proofs.YtmelgankbegjaaaGreatDoor.Js
open Go.RowKit Go.Proofs.YtmelgankbegjaaaGreatDoor.B

theorem OutW.one {t : J} {w w' : World} {e : Ending} (h : OutW t w e w') : ∃ (A0 : Option Addr) (c0 : Nat) (l : List Sp) (b : Bool), e = .returned (.tuple #[.slice A0 l.length c0, .bool b]) ∧
    (b = true → Way t l ∧ (∀ s ∈ l, Stp s) ∧ l.length ≤ 4 ∧ Rd w' 3 (.slice A0 l.length c0) l.length (stc l)) ∧ Below w.heap.size w w' := by
  rcases h with ⟨A0, c0, l, e, h1, h2, h3, h4, hb⟩ | ⟨e, hb⟩
  · exact ⟨A0, c0, l, true, e, fun _ => ⟨h1, h2, h3, h4⟩, hb⟩
  · exact ⟨none, 0, [], false, e, (by intro h; exact absurd h (by decide)), hb⟩
/-- What JSDo answers and the variable's place: what the answer holds lies elsewhere. -/
def Mw (c : J) (L : Nat → Bool) (f : Nat → Value) (W : World) : Prop :=
  (L 11 = true → ∃ g : Nat, f 11 = .pointer (some ⟨g, 0, none⟩) ∧ g < W.heap.size) ∧
  (L 6 = true → ∃ (v : Value) (b : Bool) (d : J), f 6 = .tuple #[v, .bool b, .bool true] ∧ eqJ d c = true ∧ Wg d ∧ NN (fun _ => True) W d v ∧ (L 11 = true → NN (fun x => f 11 ≠ .pointer (some ⟨x, 0, none⟩)) W d v))
section
variable {c : J} {L : Nat → Bool} {f : Nat → Value} {W W' : World}
theorem Mw.loc {n : Nat} (hn : 11 < n) (L L' : Nat → Bool) (f f' : Nat → Value) (w : World) (h1 : ∀ k, k < n → L k = L' k) (h2 : ∀ k, k < n → f k = f' k) (h : Mw c L f w) : Mw c L' f' w := by
  unfold Mw at *
  rw [← h1 11 hn, ← h1 6 (by omega), ← h2 11 hn, ← h2 6 (by omega)]
  exact h
theorem Mw.keep {i : Nat} (h4 : i ≠ 6) (h8 : i ≠ 11) (v : Value) (hb : Below W.heap.size W W') (h : Mw c L f W) : Mw c (Rv.put L i) (Rv.upd f i v) W' := by
  unfold Mw Rv.put Rv.upd at *
  rw [if_neg (Ne.symm h4), if_neg (Ne.symm h8), if_neg (Ne.symm h4), if_neg (Ne.symm h8)]
  refine ⟨fun hl => ?_, fun hl => ?_⟩
  · obtain ⟨g, a, b⟩ := h.1 hl
    exact ⟨g, a, Nat.lt_of_lt_of_le b hb.size⟩
  · obtain ⟨v, b, d, q1, q3, q4, q5, q6⟩ := h.2 hl
    exact ⟨v, b, d, q1, q3, q4, q5.below hb, fun h => (q6 h).below hb⟩
theorem Mw.call {u : Value} {b : Bool} {d : J} (hb : Below W.heap.size W W') (h2 : eqJ d c = true) (h3 : Wg d) (h4 : NN (fun x => W.heap.size ≤ x) W' d u) (h : Mw c L f W) : Mw c (Rv.put L 6) (Rv.upd f 6 (.tuple #[u, .bool b, .bool true])) W' := by
  unfold Mw Rv.put Rv.upd at *
  rw [if_neg (by decide : ¬ (11 = 6)), if_neg (by decide : ¬ (11 = 6)), if_pos rfl, if_pos rfl]
  refine ⟨fun hl => ?_, fun _ => ⟨u, b, d, rfl, h2, h3, h4.weak (fun _ _ _ => trivial), fun hl => ?_⟩⟩
  · obtain ⟨g, a, b⟩ := h.1 hl
    exact ⟨g, a, Nat.lt_of_lt_of_le b hb.size⟩
  · obtain ⟨g, a, b⟩ := h.1 hl
    refine h4.weak (fun x _ hx e => ?_)
    rw [a] at e
    injection e with e
    injection e with e
    injection e with e
    omega
theorem Mw.new (hb : Below W.heap.size W W') (hs : W.heap.size < W'.heap.size) (h : Mw c L f W) : Mw c (Rv.put L 11) (Rv.upd f 11 (.pointer (some ⟨W.heap.size, 0, none⟩))) W' := by
  unfold Mw Rv.put Rv.upd at *
  rw [if_neg (by decide : ¬ (6 = 11)), if_neg (by decide : ¬ (6 = 11)), if_pos rfl, if_pos rfl]
  refine ⟨fun _ => ⟨_, rfl, hs⟩, fun hl => ?_⟩
  obtain ⟨v, b, d, q1, q3, q4, q5, q6⟩ := h.2 hl
  refine ⟨v, b, d, q1, q3, q4, q5.below hb, fun _ => (q5.weak (q := fun x => Value.pointer (some ⟨W.heap.size, 0, none⟩) ≠ .pointer (some ⟨x, 0, none⟩)) (fun x hx _ e => ?_)).below hb⟩
  injection e with e
  injection e with e
  injection e with e
  omega
theorem Mw.store {i : Nat} {d : J} {u : Value} {b : Bool} (h4 : i ≠ 6) (h8 : i ≠ 11) (v : Value) (hs : W.heap.size ≤ W'.heap.size) (he : f 6 = .tuple #[u, .bool b, .bool true]) (h2 : eqJ d c = true) (h3 : Wg d) (hn : NN (fun x => f 11 ≠ .pointer (some ⟨x, 0, none⟩)) W' d u) (h : Mw c L f W) : Mw c (Rv.put L i) (Rv.upd f i v) W' := by
  unfold Mw Rv.put Rv.upd at *
  rw [if_neg (Ne.symm h4), if_neg (Ne.symm h8), if_neg (Ne.symm h4), if_neg (Ne.symm h8)]
  refine ⟨fun hl => ?_, fun hl => ⟨u, b, d, he, h2, h3, hn.weak (fun _ _ _ => trivial), fun _ => hn⟩⟩
  obtain ⟨g, a, b⟩ := h.1 hl
  exact ⟨g, a, Nat.lt_of_lt_of_le b hs⟩
end
end Go.Proofs.YtmelgankbegjaaaGreatDoor.Js

namespace Go.Proofs.YtmelgankbegjaaaGreatDoor.Js
open Go.RowKit Go.Proofs.YtmelgankbegjaaaGreatDoor.B

/-- A variable that is an array of whole numbers, one cell each. -/
theorem arr_cells {H : Type} {enc : TypeId × Value → H} {P : Program} {w : World} {base : Nat} {sp : Nat → Bool} {held : Bool} {fuel : Nat} {t e : TypeId} {n : Nat} {k : IntKind} {cs : List Value} {xs : List Int} {ps : List MemPlace}
    (ht : P.underlying t = some (.array n e)) (he : P.underlying e = some (.int k)) (hc : P.cellsOf e = 1) (h : DataW.trod enc P w base sp held fuel t cs = some (.agg (xs.map fun x => .lit (.int k x)), ps)) :
    ∀ j (hj : j < xs.length), cs[j]? = some (.int k xs[j]) := by
  obtain ⟨ys, m, _, hx, hlen, hn, hel⟩ := DataW.trod_array ht h
  simp only [Prod.mk.injEq, DataW.agg.injEq] at hx
  have hyl : ys.length = xs.length := by have := congrArg List.length hx.1; simpa using this.symm
  intro j hj
  have h1 := hel j (by omega)
  rw [hc, Nat.mul_one, List.getElem?_eq_getElem (show j < ys.length by omega)] at h1
  obtain ⟨q, e1, e2, _⟩ := DataW.trod_int he h1
  have h2 : ys[j].1 = .lit (.int k xs[j]) := by
    have h3 := congrArg (·[j]?) hx.1
    simp only [List.getElem?_map, List.getElem?_eq_getElem hj, List.getElem?_eq_getElem (show j < ys.length by omega), Option.map_some, Option.some.injEq] at h3
    exact h3.symm
  rw [e2] at h2
  injection h2 with h2
  injection h2 with _ h2
  have h4 : (cs.drop j).take 1 = [.int k q] := e1
  have h5 : cs[j]? = some (.int k q) := by
    have h6 := congrArg (·[0]?) h4
    simpa using h6
  rw [h5, h2]

theorem gModes : Tryz.prog.globalNamed "given.example/pub-abaculus/impl.modes" = some 0 := by kernel_rfl
theorem tModes : (Tryz.prog.globals[0]?).map (·.type) = some 58 := by kernel_rfl
theorem gSpace : Tryz.prog.globalNamed "strings.asciiSpace" = some 2 := by kernel_rfl
theorem tSpace : (Tryz.prog.globals[2]?).map (·.type) = some 118 := by kernel_rfl
/-- The numbers of asciiSpace. -/
def asp : List Int := (List.range 256).map fun i => if i = 9 ∨ i = 10 ∨ i = 11 ∨ i = 12 ∨ i = 13 ∨ i = 32 then 1 else 0
theorem asp_eq : (Rows.laid_strings_asciiSpace : DataW Unit) = .agg (asp.map fun x => .lit (.int .u8 x)) := by kernel_rfl
theorem asp_len : asp.length = 256 := by decide +kernel
theorem asp_dig : ∀ k : Fin 10, asp[48 + k.val]? = some 0 := by decide +kernel
theorem mem_modes : (("given.example/pub-abaculus/impl.modes", Rows.laid_given_example_pub_abaculus_impl_modes) : String × DataW Unit) ∈ Rows.fnJSSetRow.laid := .tail _ (.tail _ (.tail _ (.tail _ (.tail _ (.tail _ (.tail _ (.tail _ (.head _))))))))
theorem mem_space : (("strings.asciiSpace", Rows.laid_strings_asciiSpace) : String × DataW Unit) ∈ Rows.fnJSSetRow.laid := .tail _ (.tail _ (.tail _ (.tail _ (.tail _ (.tail _ (.tail _ (.head _)))))))
theorem facts_of_laid {W : World} (h : laidMetH Tryz.prog Rows.fnJSSetRow.laid W) : As W ∧ W.cell? ⟨0, 3, none⟩ = some (.int .i64 0) ∧ W.cell? ⟨0, 4, none⟩ = some (.int .i64 2) ∧ W.cell? ⟨0, 5, none⟩ = some (.int .i64 4) := by
  rw [MakeChecks.laidMetH_plain _ _ _ (by kernel_rfl)] at h
  obtain ⟨g0, t0, cs0, f0, p0, hg0, ht0, hv0, hd0⟩ := Lib.laidMet.reads h mem_modes
  obtain ⟨g1, t1, cs1, f1, p1, hg1, ht1, hv1, hd1⟩ := Lib.laidMet.reads h mem_space
  obtain rfl := Option.some.inj (gModes.symm.trans hg0)
  obtain rfl := Option.some.inj (tModes.symm.trans ht0)
  obtain rfl := Option.some.inj (gSpace.symm.trans hg1)
  obtain rfl := Option.some.inj (tSpace.symm.trans ht1)
  rw [asp_eq] at hd1
  have c0 := arr_cells (xs := [0, 1, 3, 0, 2, 4, 5]) (by kernel_rfl : Tryz.prog.underlying 58 = some (.array 7 3)) Tryz.underlying3 (by kernel_rfl) hd0
  have c1 := arr_cells (xs := asp) (by kernel_rfl : Tryz.prog.underlying 118 = some (.array 256 5)) Tryz.underlying5 (by kernel_rfl) hd1
  have v0 := fun i => World.var?_cell hg0 hv0 i
  have v1 := fun i => World.var?_cell hg1 hv1 i
  have q0 := fun j (hj : j < 7) => (v0 j).trans ((Array.getElem?_toList ..).symm.trans (c0 j hj))
  have q1 := fun j (hj : j < asp.length) => (v1 j).trans ((Array.getElem?_toList ..).symm.trans (c1 j hj))
  refine ⟨⟨?_, fun k h1 h2 => ?_⟩, q0 3 (by omega), q0 4 (by omega), q0 5 (by omega)⟩
  · exact World.block_lt_of_cell? W ⟨2, 0, none⟩ (q1 0 (by rw [asp_len]; omega))
  · have hk : k < asp.length := by rw [asp_len]; omega
    refine (q1 k hk).trans ?_
    have h3 := asp_dig ⟨k - 48, by omega⟩
    simp only at h3
    rw [show 48 + (k - 48) = k by omega, List.getElem?_eq_getElem hk] at h3
    injection h3 with h3
    rw [h3]
end Go.Proofs.YtmelgankbegjaaaGreatDoor.Js

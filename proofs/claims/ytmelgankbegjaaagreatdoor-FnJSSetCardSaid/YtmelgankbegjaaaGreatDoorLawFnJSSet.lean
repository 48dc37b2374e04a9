/- The row of the law FnJSSet: for every input the call returns true, and the arguments read as they did. Conditions: those of the given statement alone. -/
import Derived.Test.YtmelgankbegjaaaGreatDoorGr
import Derived.Test.YtmelgankbegjaaaGreatDoorRows
import Derived.WalkKit
import Derived.ProofKit
import Derived.OpenShut
import Derived.ShutString
import Derived.ChangeOld
import Derived.Below
import Derived.Carry
import Derived.LaidMore
import Derived.MakeChecks
import Derived.Stop.Joined
import Derived.OpenVars
import Derived.ChangeVars
import Derived.SevenTiedAt
import Derived.Test.YtmelgankbegjaaaGreatDoorCards
import Derived.Test.YtmelgankbegjaaaGreatDoorTie
import Derived.Lay
set_option linter.unusedVariables false
set_option linter.unusedSimpArgs false
set_option maxRecDepth 100000
set_option maxHeartbeats 8000000
namespace Go.Proofs.YtmelgankbegjaaaGreatDoor.Js
open Go.RowKit Go.Proofs.YtmelgankbegjaaaGreatDoor.B

theorem law3_any (A : Option Addr) (la ca : Nat) (za : List Int) (B : Option Addr) (lb cb : Nat) (zb : List Int) (C : Option Addr) (lc cc : Nat) (zc : List Int) (w : World) (ha : IsRow .u8 w A la ca za) (hb : IsRow .u8 w B lb cb zb) (hc : IsRow .u8 w C lc cc zc)
    (has : As w) (hmd : w.cell? ⟨0, 3, none⟩ = some (.int .i64 0)) :
    Calls Tryz.prog 3 #[.slice A la ca, .slice B lb cb, .slice C lc cc] w fun e w' => e = .returned (.bool true) ∧ Below w.heap.size w w' := by
  have ba := ha.rd.1.le
  have bb := hb.rd.1.le
  have bc := hc.rd.1.le
  by_cases sa : la ≤ 2147483647
  case neg =>
    go_enter Tryz.func3, Tryz.ntmps3
    go_wp2
    go_ret
    exact ⟨rfl, Below.refl _ _⟩
  by_cases sb : lb ≤ 2147483647
  case neg =>
    go_enter Tryz.func3, Tryz.ntmps3
    go_wp2
    go_ret
    exact ⟨rfl, Below.refl _ _⟩
  by_cases sc : lc ≤ 2147483647
  case neg =>
    go_enter Tryz.func3, Tryz.ntmps3
    go_wp2
    go_ret
    exact ⟨rfl, Below.refl _ _⟩
  have ra := ha.rd
  have rb := hb.rd
  have rc := hc.rd
  have u8 : ∀ z : Int, (Lit.int .u8 z).wf = true → 0 ≤ z ∧ z ≤ 255 := fun z h => bounds_u8 h
  have OA := Lib.hid (of_any w A la ca (za.take la) ra.1 (fun z hz => u8 z (ra.2 z (List.mem_of_mem_take hz))))
  have OC := Lib.hid (fun (W : World) (h : Below w.heap.size w W) => of_any W C lc cc (zc.take lc) (rc.1.below h) (fun z hz => u8 z (rc.2 z (List.mem_of_mem_take hz))))
  have RB := Lib.hid (show Rd w 1 (.slice B lb cb) lb (u8s (zb.take lb)) from rb.1)
  have UB := Lib.hid (fun z (hz : z ∈ zb.take lb) => u8 z (rb.2 z (List.mem_of_mem_take hz)))
  have HAS := Lib.hid has
  have HMD := Lib.hid hmd
  clear ra rb rc u8 ha hb hc has hmd
  go_enter Tryz.func3, Tryz.ntmps3
  go_upto_region 4 with (first
    | (go_at_call 6; (with_reducible refine OA.out.mono ?_); rintro e w1 ⟨v1, t1, rfl, hw, hj, hb⟩; obtain ⟨A1, c1, B1, d1, rfl, _⟩ := hj.five; have HJ1 := Lib.hid hj; have HW1 := Lib.hid hw; have HB1 := Lib.hid hb; clear hw hj hb)
    | (go_at_call 6; (with_reducible refine (OC.out w1 HB1.out).mono ?_); rintro e w2 ⟨v2, t2, rfl, hw, hj, hb⟩; obtain ⟨A2, c2, B2, d2, rfl, _⟩ := hj.five; have HJ2 := Lib.hid hj; have HW2 := Lib.hid hw; have HB2 := Lib.hid (HB1.out.trans (hb.mono HB1.out.size)); have HJ12 := Lib.hid (HJ1.out.below hb); clear hw hj hb))
  have hba := (Below.refl w2.heap.size w2).alloc (Nat.le_refl _) (.cells #[.int .i64 t1.k, .int .i64 t1.n, .string t1.s, .slice A1 t1.ns.length c1, .slice B1 t1.is.length d1] 26)
  have hbb := (Below.refl (w2.alloc (.cells #[.int .i64 t1.k, .int .i64 t1.n, .string t1.s, .slice A1 t1.ns.length c1, .slice B1 t1.is.length d1] 26)).heap.size (w2.alloc (.cells #[.int .i64 t1.k, .int .i64 t1.n, .string t1.s, .slice A1 t1.ns.length c1, .slice B1 t1.is.length d1] 26))).alloc (Nat.le_refl _) (.cells #[.int .i64 t2.k, .int .i64 t2.n, .string t2.s, .slice A2 t2.ns.length c2, .slice B2 t2.is.length d2] 26)
  have hn1 := heap_alloc_new w2 (.cells #[.int .i64 t1.k, .int .i64 t1.n, .string t1.s, .slice A1 t1.ns.length c1, .slice B1 t1.is.length d1] 26)
  have hsz1 : (w2.alloc (.cells #[.int .i64 t1.k, .int .i64 t1.n, .string t1.s, .slice A1 t1.ns.length c1, .slice B1 t1.is.length d1] 26)).heap.size = w2.heap.size + 1 := by simp
  have hn2 := heap_alloc_new (w2.alloc (.cells #[.int .i64 t1.k, .int .i64 t1.n, .string t1.s, .slice A1 t1.ns.length c1, .slice B1 t1.is.length d1] 26)) (.cells #[.int .i64 t2.k, .int .i64 t2.n, .string t2.s, .slice A2 t2.ns.length c2, .slice B2 t2.is.length d2] 26)
  have hXB := hba.trans (hbb.mono hba.size)
  have HG1 := Lib.hid ((hbb.block _ (Rv.lt_of_blk hn1)).trans hn1)
  rw [hsz1] at hn2
  have HG2 := Lib.hid hn2
  have HJ1 := Lib.hid (HJ12.out.below hXB)
  have HJ2 := Lib.hid (HJ2.out.below hXB)
  have HXW := Lib.hid (HB2.out.trans (hXB.mono HB2.out.size))
  clear hba hbb hn1 hsz1 hn2 hXB HJ12 HB1 HB2 OA OC
  generalize (w2.alloc (.cells #[.int .i64 t1.k, .int .i64 t1.n, .string t1.s, .slice A1 t1.ns.length c1, .slice B1 t1.is.length d1] 26)).alloc (.cells #[.int .i64 t2.k, .int .i64 t2.n, .string t2.s, .slice A2 t2.ns.length c2, .slice B2 t2.is.length d2] 26) = X at *
  have hg1 := Rv.lt_of_blk HG1.out
  have hg2 := Rv.lt_of_blk HG2.out
  generalize w2.heap.size + 1 = g2 at *
  generalize w2.heap.size = g1 at *
  have WAY := Lib.hid (way_any (fun x => x < X.heap.size) t1 (.agg #[.int .i64 t1.k, .int .i64 t1.n, .string t1.s, .slice A1 t1.ns.length c1, .slice B1 t1.is.length d1]) B lb cb (zb.take lb) X (fun x h => h) (HJ1.out.weak (fun x h _ => h)) HW1.out (RB.out.below HXW.out) UB.out)
  obtain ⟨y0, y1, y2, y3, y4⟩ := Rv.cells5 HG1.out
  go_upto_region 5 with (go_at_call 7; (with_reducible refine WAY.out.mono ?_); rintro e w3 hw3; obtain ⟨A0, c0, l, b3, rfl, hor, hb⟩ := hw3.one; have HOR := Lib.hid hor; have HB3 := Lib.hid hb; clear hw3 hor hb)
  clear y0 y1 y2 y3 y4 WAY RB UB
  have HG1 := Lib.hid ((HB3.out.block _ hg1).trans HG1.out)
  have HG2 := Lib.hid ((HB3.out.block _ hg2).trans HG2.out)
  have HJ1 := Lib.hid (HJ1.out.below HB3.out)
  have HJ2 := Lib.hid (HJ2.out.below HB3.out)
  have HXW := Lib.hid (HXW.out.trans (HB3.out.mono HXW.out.size))
  clear HB3 hg1 hg2
  generalize w3 = X at *
  have hg1 := Rv.lt_of_blk HG1.out
  have hg2 := Rv.lt_of_blk HG2.out
  cases b3
  · clear HOR
    go_wp2
    go_ret
    exact ⟨rfl, HXW.out⟩
  obtain ⟨hwy, hst, hl4, hrd⟩ := HOR.out rfl
  have HWY := Lib.hid hwy
  have HST := Lib.hid hst
  have HL4 := Lib.hid hl4
  have HR := Lib.hid hrd
  clear hwy hst hl4 hrd HOR
  have HMD := Lib.hid ((HXW.out.cell (p := ⟨0, 3, none⟩) (by have := HAS.out.1; show 0 < _; omega)).trans HMD.out)
  have HAS := Lib.hid (HAS.out.below HXW.out HAS.out.1)
  go_upto_region 7 with fail
  refine Rv.region_fin (n := 65) (by kernel_rfl) #[42, 43, 44, 45, 46, 47, 48, 41, 49, 50, 51, 11, 1012, 12, 13] #[] (fun i f W => if i = 13 then (fun f W => f 13 = f 9) f W else if i = 12 then (fun f W => ∃ (g : Nat) (d : J) (Y1 : Option Addr) (e1 : Nat) (Y2 : Option Addr) (e2 : Nat), f 11 = .pointer (some ⟨g, 0, none⟩) ∧ X.heap.size ≤ g ∧ eqJ d (upd 0 t2 l t1) = true ∧ Wg d ∧ NN (fun _ => True) W d (.agg #[.int .i64 d.k, .int .u64 (nb d.k d.n), .string d.s, .slice Y1 d.ns.length e1, .slice Y2 d.is.length e2]) ∧ W.heap[g]? = some (.cells #[.int .i64 d.k, .int .u64 (nb d.k d.n), .string d.s, .slice Y1 d.ns.length e1, .slice Y2 d.is.length e2] 34 (0, 0))) f W else if i = 11 then (fun f W => ∃ g : Nat, f 11 = .pointer (some ⟨g, 0, none⟩) ∧ W.heap[g]? = some nz ∧ X.heap.size ≤ g) f W else if i = 9 then (fun f W => ∃ (u : Value) (b : Bool), f 7 = .tuple #[u, .bool b, .bool true] ∧ f 9 = .bool b) f W else if i = 8 then (fun f W => ∃ b : Bool, f 7 = .tuple #[f 8, .bool b, .bool true]) f W else if i = 7 then (fun f W => ∃ (u : Value) (b : Bool), f 7 = .tuple #[u, .bool b, .bool true] ∧ f 6 = .tuple #[u, .bool b, .bool true]) f W else if i = 6 then (fun f W => ∃ (u : Value) (b : Bool), f 6 = .tuple #[u, .bool b, .bool true]) f W else if i = 5 then (fun f W => NN (fun _ => True) W t2 (f 5)) f W else if i = 1 then (fun f W => NN (fun _ => True) W t1 (f 1)) f W else f i = (#[.agg #[.int .i64 t1.k, .int .i64 t1.n, .string t1.s, .slice A1 t1.ns.length c1, .slice B1 t1.is.length d1], undef, .slice A0 l.length c0, .string (bs (36 :: segs l)), .agg #[.int .i64 t2.k, .int .i64 t2.n, .string t2.s, .slice A2 t2.ns.length c2, .slice B2 t2.is.length d2], undef, undef, undef, undef, undef, .bool true, undef, undef, undef, .bool true] : Array Value).getD i undef) (fun i j => (i == 12 && (j == 1 || j == 5 || j == 11))) (fun i => i == 12) (fun i f W W' => True) (fun W => Below X.heap.size X W) (fun _ => True) (Mw (upd 0 t2 l t1)) (Mw.loc (by show 11 < 15; omega)) (fun i f f' w hi h hd hg => ?_) (fun i j f w w' hi hj hij hK hdp h hr => ?_) (fun i h g b hg => ?_) rfl (by kernel_rfl) (fun i h g b hg => ?_) ((Below.refl _ _).drew) (trivial) (fun f => ⟨fun h => (by cases h), fun h => (by cases h)⟩) (fun i h hr f w hf => ?_) (fun i h hr => absurd hr (Rv.allrun (by kernel_rfl) i h)) ?_ ?_
  · by_cases hi12 : i = 13
    · subst hi12
      rw [if_pos rfl] at hg ⊢
      exact h.symm.trans (hg.trans (hd 9 rfl))
    rw [if_neg hi12] at hg ⊢
    by_cases hi1012 : i = 12
    · subst hi1012
      rw [if_pos rfl] at hg ⊢
      obtain ⟨g, d, Y1, e1, Y2, e2, q1, q2⟩ := hg
      exact ⟨g, d, Y1, e1, Y2, e2, (hd 11 rfl).symm.trans q1, q2⟩
    rw [if_neg hi1012] at hg ⊢
    by_cases hi11 : i = 11
    · subst hi11
      rw [if_pos rfl] at hg ⊢
      obtain ⟨g, q1, q2⟩ := hg
      exact ⟨g, h.symm.trans q1, q2⟩
    rw [if_neg hi11] at hg ⊢
    by_cases hi50 : i = 9
    · subst hi50
      rw [if_pos rfl] at hg ⊢
      obtain ⟨u, b, q1, q2⟩ := hg
      exact ⟨u, b, (hd 7 rfl).symm.trans q1, h.symm.trans q2⟩
    rw [if_neg hi50] at hg ⊢
    by_cases hi49 : i = 8
    · subst hi49
      rw [if_pos rfl] at hg ⊢
      obtain ⟨b, hz⟩ := hg
      have hz : f 7 = .tuple #[f 8, .bool b, .bool true] := hz
      rw [hd 7 rfl, h] at hz
      exact ⟨b, hz⟩
    rw [if_neg hi49] at hg ⊢
    by_cases hi41 : i = 7
    · subst hi41
      rw [if_pos rfl] at hg ⊢
      obtain ⟨u, b, q, q2⟩ := hg
      exact ⟨u, b, h.symm.trans q, (hd 6 rfl).symm.trans q2⟩
    rw [if_neg hi41] at hg ⊢
    by_cases hi48 : i = 6
    · subst hi48
      rw [if_pos rfl] at hg ⊢
      obtain ⟨u, b, q⟩ := hg
      exact ⟨u, b, h.symm.trans q⟩
    rw [if_neg hi48] at hg ⊢
    by_cases hi47 : i = 5
    · subst hi47
      rw [if_pos rfl] at hg ⊢
      have hz := hg
      rw [h] at hz
      exact hz
    rw [if_neg hi47] at hg ⊢
    by_cases hi43 : i = 1
    · subst hi43
      rw [if_pos rfl] at hg ⊢
      have hz := hg
      rw [h] at hz
      exact hz
    rw [if_neg hi43] at hg ⊢
    rw [← h]; exact hg
  · by_cases hj12 : j = 13
    · subst hj12
      rw [if_pos rfl] at h ⊢
      exact h
    rw [if_neg hj12] at h ⊢
    by_cases hj1012 : j = 12
    · subst hj1012
      rw [if_pos rfl] at h ⊢
      rcases hr with ⟨hK1, hr⟩ | hr
      · have e : i = 12 := by simpa using hK1
        exact absurd e hij
      · obtain ⟨g, d, Y1, e1, Y2, e2, q1, q2, q4, q5, q6, q7⟩ := h
        exact ⟨g, d, Y1, e1, Y2, e2, q1, q2, q4, q5, q6.below hr, (hr.block _ (Rv.lt_of_blk q7)).trans q7⟩
    rw [if_neg hj1012] at h ⊢
    by_cases hj11 : j = 11
    · subst hj11
      rw [if_pos rfl] at h ⊢
      rcases hr with ⟨hK1, hr⟩ | hr
      · have e : i = 12 := by simpa using hK1
        subst e; exfalso; revert hK; decide
      · obtain ⟨g, e, h1, h2⟩ := h
        exact ⟨g, e, (hr.block _ (Rv.lt_of_blk h1)).trans h1, h2⟩
    rw [if_neg hj11] at h ⊢
    by_cases hj50 : j = 9
    · subst hj50
      rw [if_pos rfl] at h ⊢
      exact h
    rw [if_neg hj50] at h ⊢
    by_cases hj49 : j = 8
    · subst hj49
      rw [if_pos rfl] at h ⊢
      exact h
    rw [if_neg hj49] at h ⊢
    by_cases hj41 : j = 7
    · subst hj41
      rw [if_pos rfl] at h ⊢
      exact h
    rw [if_neg hj41] at h ⊢
    by_cases hj48 : j = 6
    · subst hj48
      rw [if_pos rfl] at h ⊢
      exact h
    rw [if_neg hj48] at h ⊢
    by_cases hj47 : j = 5
    · subst hj47
      rw [if_pos rfl] at h ⊢
      rcases hr with ⟨hK1, hr⟩ | hr
      · have e : i = 12 := by simpa using hK1
        subst e; exfalso; revert hK; decide
      · exact h.below hr
    rw [if_neg hj47] at h ⊢
    by_cases hj43 : j = 1
    · subst hj43
      rw [if_pos rfl] at h ⊢
      rcases hr with ⟨hK1, hr⟩ | hr
      · have e : i = 12 := by simpa using hK1
        subst e; exfalso; revert hK; decide
      · exact h.below hr
    rw [if_neg hj43] at h ⊢
    exact h
  · match i, h, hg with
    | 0, _, hg => cases hg
    | 1, _, hg => cases hg
    | 2, _, hg => cases hg
    | 3, _, hg => cases hg
    | 4, _, hg => cases hg
    | 5, _, hg => cases hg
    | 6, _, hg => cases hg
    | 7, _, hg => cases hg
    | 8, _, hg => cases hg
    | 9, _, hg => cases hg
    | 10, _, hg => cases hg
    | 11, _, hg => cases hg
    | 12, _, hg => cases hg
    | 13, _, hg => cases hg
    | 14, _, hg => cases hg
    | m + 15, h, _ => exact absurd h (by show ¬ m + 15 < 15; omega)
  · match i, h, hg with
    | 0, _, hg => cases hg
    | 1, _, hg => cases hg
    | 2, _, hg => cases hg
    | 3, _, hg => cases hg
    | 4, _, hg => cases hg
    | 5, _, hg => cases hg
    | 6, _, hg => cases hg
    | 7, _, hg => cases hg
    | 8, _, hg => cases hg
    | 9, _, hg => cases hg
    | 10, _, hg => cases hg
    | 11, _, hg => cases hg
    | 12, _, hg => cases hg
    | 13, _, hg => cases hg
    | 14, _, hg => cases hg
    | m + 15, h, _ => exact absurd h (by show ¬ m + 15 < 15; omega)
  · match i, h, hr, hf with
    | 0, _, hr, _ => exact Bool.noConfusion (show true = false from hr)
    | 1, _, hr, _ => exact Bool.noConfusion (show true = false from hr)
    | 2, _, hr, _ => exact Bool.noConfusion (show true = false from hr)
    | 3, _, hr, _ => exact Bool.noConfusion (show true = false from hr)
    | 4, _, hr, _ => exact Bool.noConfusion (show true = false from hr)
    | 5, _, hr, _ => exact Bool.noConfusion (show true = false from hr)
    | 6, _, hr, _ => exact Bool.noConfusion (show true = false from hr)
    | 7, _, hr, _ => exact Bool.noConfusion (show true = false from hr)
    | 8, _, hr, _ => exact Bool.noConfusion (show true = false from hr)
    | 9, _, hr, _ => exact Bool.noConfusion (show true = false from hr)
    | 10, _, hr, _ => exact Bool.noConfusion (show true = false from hr)
    | 11, _, hr, _ => exact Bool.noConfusion (show true = false from hr)
    | 12, _, hr, _ => exact Bool.noConfusion (show true = false from hr)
    | 13, _, hr, _ => exact Bool.noConfusion (show true = false from hr)
    | 14, _, hr, _ => exact Bool.noConfusion (show true = false from hr)
    | m + 15, h, _, _ => exact absurd h (by show ¬ m + 15 < 15; omega)
  · intro i h a W hrun hbase hpre hdep htr hta hJ
    match i, h with
    | 0, _ =>
      obtain ⟨e7, x7⟩ := Rv.ev (show a.tmps.getD 7 undef = .pointer (some ⟨g1, 0, none⟩) from hbase 7 rfl)
      obtain ⟨y0, y1, y2, y3, y4⟩ := Rv.cells5 ((htr.block _ hg1).trans HG1.out)
      exact Rv.step_op (op := Go.Op.load 26 (Go.Operand.tmp 7)) (v := .agg #[.int .i64 t1.k, .int .i64 t1.n, .string t1.s, .slice A1 t1.ns.length c1, .slice B1 t1.is.length d1]) (w1 := W) rfl rfl (fun d pos aft g => by unfold execOp; go_simp) ⟨_, rfl, rfl, .inr (Below.refl _ _), htr, fun _ ht => ht, fun L _ hJ => Mw.keep (by decide) (by decide) _ (Below.refl _ _) hJ⟩
    | 1, _ =>
      obtain ⟨e42, x42⟩ := Rv.ev (show a.tmps.getD 42 undef = .agg #[.int .i64 t1.k, .int .i64 t1.n, .string t1.s, .slice A1 t1.ns.length c1, .slice B1 t1.is.length d1] from hdep 0 rfl rfl)
      have cf : ∀ x0 W, (callFunc 9 #[x0]).run Tryz.prog W = .ok (.enter 9 #[x0]) W := fun _ _ => by kernel_rfl
      refine Rv.step_fn (op := Go.Op.call { callee := Go.Callee.value (Go.Operand.func 9), args := #[Go.Operand.tmp 42], argTypes := #[26] }) (ty := 34) (f := 9) (args := #[.agg #[.int .i64 t1.k, .int .i64 t1.n, .string t1.s, .slice A1 t1.ns.length c1, .slice B1 t1.is.length d1]]) (R := fun v W' => (NN (fun _ => True) W' t1 v) ∧ Below W.heap.size W W') rfl rfl (fun d pos aft g => by unfold execOp; go_simp) ((in_anyg t1 _ _ W HW1.out.wg (HJ1.out.below htr)).mono ?_) ?_
      · (rintro e W' ⟨u, rfl, hu, hb⟩; exact ⟨_, rfl, hu.weak (fun _ _ _ => trivial), hb⟩)
      · (rintro v W' ⟨hv, hb⟩; exact ⟨_, rfl, hv, .inr hb, htr.trans (hb.mono htr.size), fun _ ht => trivial, fun L _ hJ => Mw.keep (by decide) (by decide) _ hb hJ⟩)
    | 2, _ =>
      obtain ⟨e9, x9⟩ := Rv.ev (show a.tmps.getD 9 undef = .slice A0 l.length c0 from hbase 9 rfl)
      exact Rv.step_op (op := Go.Op.move (Go.Operand.tmp 9)) (v := .slice A0 l.length c0) (w1 := W) rfl rfl (fun d pos aft g => by unfold execOp; go_simp) ⟨_, rfl, rfl, .inr (Below.refl _ _), htr, fun _ ht => ht, fun L _ hJ => Mw.keep (by decide) (by decide) _ (Below.refl _ _) hJ⟩
    | 3, _ =>
      obtain ⟨e44, x44⟩ := Rv.ev (show a.tmps.getD 44 undef = .slice A0 l.length c0 from hdep 2 rfl rfl)
      have cf : ∀ x0 W, (callFunc 10 #[x0]).run Tryz.prog W = .ok (.enter 10 #[x0]) W := fun _ _ => by kernel_rfl
      refine Rv.step_fn (op := Go.Op.call { callee := Go.Callee.value (Go.Operand.func 10), args := #[Go.Operand.tmp 44], argTypes := #[28] }) (ty := 9) (f := 10) (args := #[.slice A0 l.length c0]) (R := fun v W' => v = .string (bs (36 :: segs l)) ∧ Below W.heap.size W W') rfl rfl (fun d pos aft g => by unfold execOp; go_simp) ((path_any A0 c0 l W (HR.out.below htr) HL4.out (fun s hs => ⟨(HST.out s hs).1, (HST.out s hs).2.1.1⟩)).mono ?_) ?_
      · (rintro e W' ⟨rfl, hb⟩; exact ⟨_, rfl, rfl, hb⟩)
      · (rintro v W' ⟨hv, hb⟩; exact ⟨_, rfl, hv, .inr hb, htr.trans (hb.mono htr.size), fun _ ht => trivial, fun L _ hJ => Mw.keep (by decide) (by decide) _ hb hJ⟩)
    | 4, _ =>
      obtain ⟨e8, x8⟩ := Rv.ev (show a.tmps.getD 8 undef = .pointer (some ⟨g2, 0, none⟩) from hbase 8 rfl)
      obtain ⟨x0, x1, x2, x3, x4⟩ := Rv.cells5 ((htr.block _ hg2).trans HG2.out)
      exact Rv.step_op (op := Go.Op.load 26 (Go.Operand.tmp 8)) (v := .agg #[.int .i64 t2.k, .int .i64 t2.n, .string t2.s, .slice A2 t2.ns.length c2, .slice B2 t2.is.length d2]) (w1 := W) rfl rfl (fun d pos aft g => by unfold execOp; go_simp) ⟨_, rfl, rfl, .inr (Below.refl _ _), htr, fun _ ht => ht, fun L _ hJ => Mw.keep (by decide) (by decide) _ (Below.refl _ _) hJ⟩
    | 5, _ =>
      obtain ⟨e46, x46⟩ := Rv.ev (show a.tmps.getD 46 undef = .agg #[.int .i64 t2.k, .int .i64 t2.n, .string t2.s, .slice A2 t2.ns.length c2, .slice B2 t2.is.length d2] from hdep 4 rfl rfl)
      have cf : ∀ x0 W, (callFunc 9 #[x0]).run Tryz.prog W = .ok (.enter 9 #[x0]) W := fun _ _ => by kernel_rfl
      refine Rv.step_fn (op := Go.Op.call { callee := Go.Callee.value (Go.Operand.func 9), args := #[Go.Operand.tmp 46], argTypes := #[26] }) (ty := 34) (f := 9) (args := #[.agg #[.int .i64 t2.k, .int .i64 t2.n, .string t2.s, .slice A2 t2.ns.length c2, .slice B2 t2.is.length d2]]) (R := fun v W' => (NN (fun _ => True) W' t2 v) ∧ Below W.heap.size W W') rfl rfl (fun d pos aft g => by unfold execOp; go_simp) ((in_anyg t2 _ _ W HW2.out.wg (HJ2.out.below htr)).mono ?_) ?_
      · (rintro e W' ⟨u, rfl, hu, hb⟩; exact ⟨_, rfl, hu.weak (fun _ _ _ => trivial), hb⟩)
      · (rintro v W' ⟨hv, hb⟩; exact ⟨_, rfl, hv, .inr hb, htr.trans (hb.mono htr.size), fun _ ht => trivial, fun L _ hJ => Mw.keep (by decide) (by decide) _ hb hJ⟩)
    | 6, _ =>
      have n43 : NN (fun _ => True) W t1 (a.tmps.getD 43 undef) := hdep 1 rfl rfl
      obtain ⟨v43, q43⟩ : ∃ v, a.tmps.getD 43 undef = v := ⟨_, rfl⟩
      rw [q43] at n43
      obtain ⟨e43, x43⟩ := Rv.ev q43
      obtain ⟨e45, x45⟩ := Rv.ev (show a.tmps.getD 45 undef = .string (bs (36 :: segs l)) from hdep 3 rfl rfl)
      have n47 : NN (fun _ => True) W t2 (a.tmps.getD 47 undef) := hdep 5 rfl rfl
      obtain ⟨v47, q47⟩ : ∃ v, a.tmps.getD 47 undef = v := ⟨_, rfl⟩
      rw [q47] at n47
      obtain ⟨e47, x47⟩ := Rv.ev q47
      have cf : ∀ x0 x1 x2 x3 W, (callFunc 8 #[x0, x1, x2, x3]).run Tryz.prog W = .ok (.enter 8 #[x0, x1, x2, x3]) W := fun _ _ _ _ _ => by kernel_rfl
      have hcall : Calls Tryz.prog 8 #[.int .i64 3, v43, .string (bs (36 :: segs l)), v47] W _ := jsdo_any 3 0 (by decide) (by decide) l HL4.out HST.out t1 t2 _ _ v43 v47 W HWY.out HW1.out HW2.out n43 n47 (HAS.out.below htr HAS.out.1) ((htr.cell (p := ⟨0, 3, none⟩) (by have := HAS.out.1; show 0 < _; omega)).trans HMD.out)
      refine Rv.step_fn (op := Go.Op.call { callee := Go.Callee.value (Go.Operand.func 8), args := #[Go.Operand.const (Go.Value.int Go.IntKind.i64 3), Go.Operand.tmp 43, Go.Operand.tmp 45, Go.Operand.tmp 47], argTypes := #[3, 34, 9, 34] }) (ty := 35) (f := 8) (args := #[.int .i64 3, v43, .string (bs (36 :: segs l)), v47]) (R := fun v W' => (∃ (u : Value) (b : Bool) (d : J), v = .tuple #[u, .bool b, .bool true] ∧ eqJ d (upd 0 t2 l t1) = true ∧ Wg d ∧ NN (fun x => W.heap.size ≤ x) W' d u) ∧ Below W.heap.size W W') rfl rfl (fun d pos aft g => by unfold execOp; go_simp) (hcall.mono ?_) ?_
      · (rintro e W' ⟨u, d, ⟨b, rfl⟩, h2, h3, h4, hb⟩; exact ⟨_, rfl, ⟨u, b, d, rfl, h2, h3, h4⟩, hb⟩)
      · (rintro v W' ⟨⟨u, b, d, rfl, h2, h3, h4⟩, hb⟩; exact ⟨_, rfl, ⟨u, b, rfl⟩, .inr hb, htr.trans (hb.mono htr.size), fun _ ht => trivial, fun L _ hJ => Mw.call hb h2 h3 h4 hJ⟩)
    | 7, _ =>
      obtain ⟨u48, b48, q48⟩ : ∃ (u : Value) (b : Bool), a.tmps.getD 48 undef = .tuple #[u, .bool b, .bool true] := hdep 6 rfl rfl
      obtain ⟨e48, x48⟩ := Rv.ev q48
      exact Rv.step_op (op := Go.Op.move (Go.Operand.tmp 48)) (ty := 35) (v := .tuple #[u48, .bool b48, .bool true]) (w1 := W) rfl rfl (fun d pos aft g => by unfold execOp; go_simp) ⟨_, rfl, ⟨u48, b48, rfl, q48⟩, .inr (Below.refl _ _), htr, (fun _ ht => ht), fun L _ hJ => Mw.keep (by decide) (by decide) _ (Below.refl _ _) hJ⟩
    | 8, _ =>
      obtain ⟨u41, b41, q41, q41'⟩ : ∃ (u : Value) (b : Bool), a.tmps.getD 41 undef = .tuple #[u, .bool b, .bool true] ∧ a.tmps.getD 48 undef = .tuple #[u, .bool b, .bool true] := hdep 7 rfl rfl
      obtain ⟨e41, x41⟩ := Rv.ev q41
      exact Rv.step_op (op := Go.Op.extract (Go.Operand.tmp 41) 0) (ty := 34) (v := u41) (w1 := W) rfl rfl (fun d pos aft g => by unfold execOp; go_simp) ⟨_, rfl, ⟨b41, q41⟩, .inr (Below.refl _ _), htr, (fun _ ht => ht), fun L _ hJ => Mw.keep (by decide) (by decide) _ (Below.refl _ _) hJ⟩
    | 9, _ =>
      obtain ⟨u41, b41, q41, q41'⟩ : ∃ (u : Value) (b : Bool), a.tmps.getD 41 undef = .tuple #[u, .bool b, .bool true] ∧ a.tmps.getD 48 undef = .tuple #[u, .bool b, .bool true] := hdep 7 rfl rfl
      obtain ⟨e41, x41⟩ := Rv.ev q41
      exact Rv.step_op (op := Go.Op.extract (Go.Operand.tmp 41) 1) (ty := 4) (v := .bool b41) (w1 := W) rfl rfl (fun d pos aft g => by unfold execOp; go_simp) ⟨_, rfl, ⟨u41, b41, q41, rfl⟩, .inr (Below.refl _ _), htr, (fun _ ht => ht), fun L _ hJ => Mw.keep (by decide) (by decide) _ (Below.refl _ _) hJ⟩
    | 10, _ =>
      obtain ⟨u41, b41, q41, q41'⟩ : ∃ (u : Value) (b : Bool), a.tmps.getD 41 undef = .tuple #[u, .bool b, .bool true] ∧ a.tmps.getD 48 undef = .tuple #[u, .bool b, .bool true] := hdep 7 rfl rfl
      obtain ⟨e41, x41⟩ := Rv.ev q41
      exact Rv.step_op (op := Go.Op.extract (Go.Operand.tmp 41) 2) (v := .bool true) (w1 := W) rfl rfl (fun d pos aft g => by unfold execOp; go_simp) ⟨_, rfl, rfl, .inr (Below.refl _ _), htr, fun _ ht => ht, fun L _ hJ => Mw.keep (by decide) (by decide) _ (Below.refl _ _) hJ⟩
    | 11, _ =>
      have hal : Below W.heap.size W (W.alloc nz) := (Below.refl _ _).alloc (Nat.le_refl _) _
      exact Rv.step_op (op := Go.Op.alloc 34) (ty := 0) (v := .pointer (some ⟨W.heap.size, 0, none⟩)) (w1 := W.alloc nz) rfl rfl (fun d pos aft g => by unfold execOp; go_simp) ⟨_, rfl, ⟨W.heap.size, rfl, heap_alloc_new W _, htr.size⟩, .inr hal, htr.trans (hal.mono htr.size), (fun _ ht => ht), fun L _ hJ => Mw.new hal (by simp) hJ⟩
    | 12, _ =>
      obtain ⟨g, q11, k11, h11⟩ : ∃ g : Nat, a.tmps.getD 11 undef = .pointer (some ⟨g, 0, none⟩) ∧ W.heap[g]? = some nz ∧ X.heap.size ≤ g := hdep 11 rfl rfl
      obtain ⟨e11, x11⟩ := Rv.ev q11
      obtain ⟨b49, n49⟩ : ∃ b : Bool, a.tmps.getD 41 undef = .tuple #[a.tmps.getD 49 undef, .bool b, .bool true] := hdep 8 rfl rfl
      obtain ⟨u41, b41, q41, q41'⟩ : ∃ (u : Value) (b : Bool), a.tmps.getD 41 undef = .tuple #[u, .bool b, .bool true] ∧ a.tmps.getD 48 undef = .tuple #[u, .bool b, .bool true] := hdep 7 rfl rfl
      obtain ⟨L, hL, hLd, hj0⟩ := hJ
      obtain ⟨g', qg, hgl⟩ := hj0.1 (hLd 11 rfl)
      obtain ⟨v4, b4, d, q4, m2, m3, m4, m5⟩ := hj0.2 (hLd 6 rfl)
      have m6 := m5 (hLd 11 rfl)
      have q4 : a.tmps.getD 48 undef = .tuple #[v4, .bool b4, .bool true] := q4
      have q8 : a.tmps.getD 11 undef = .pointer (some ⟨g, 0, none⟩) := q11
      have ev : v4 = a.tmps.getD 49 undef := by rw [n49] at q41; rw [q41'] at q4; injection q4 with q4; injection q4 with q4; injection q41 with q41; injection q41 with q41; simp only [List.cons.injEq, and_true] at q4 q41; exact q4.1.symm.trans q41.1.symm
      have hex := m6.five
      obtain ⟨Y1, e1, Y2, e2, ez, _⟩ := hex
      subst ez
      obtain ⟨e49, x49⟩ := Rv.ev ev.symm
      obtain ⟨s0, s1, s2, s3, s4⟩ := Rv.cells5 k11
      obtain ⟨z0, z1, z2, z3, z4⟩ := Rv.frozen5 k11
      have gs' := fun (V : World) j u => grown_set (Below.refl _ V) g j u
      have hgg := (grown_then (grown_then (grown_then (grown_then (gs' W 0 (.int .i64 d.k)) (gs' _ 1 (.int .u64 (nb d.k d.n)))) (gs' _ 2 (.string d.s))) (gs' _ 3 (.slice Y1 d.ns.length e1))) (gs' _ 4 (.slice Y2 d.is.length e2)))
      have hne : ∀ x, (Rv.vals (#[42, 43, 44, 45, 46, 47, 48, 41, 49, 50, 51, 11, 1012, 12, 13] : Array Nat) a) 11 ≠ .pointer (some ⟨x, 0, none⟩) → some x ≠ some g := fun x hx e => by injection e with e; subst e; exact hx q8
      have hnn := m6.grown hgg (fun x hx => hne x hx)
      have hjk := fun L' (hJ' : Mw (upd 0 t2 l t1) L' (Rv.vals (#[42, 43, 44, 45, 46, 47, 48, 41, 49, 50, 51, 11, 1012, 12, 13] : Array Nat) a) W) => Mw.store (d := d) (c := (upd 0 t2 l t1)) (i := 12) (by decide) (by decide) undef hgg.size q4 m2 m3 hnn hJ'
      clear q41 q41' n49 ev q4 hj0 m5 hL hLd qg
      exact Rv.step_skip (op := Go.Op.store 34 (Go.Operand.tmp 11) (Go.Operand.tmp 49)) (ty := 0) (w1 := (((((W.setCell ⟨g, 0, none⟩ (.int .i64 d.k)).setCell ⟨g, 1, none⟩ (.int .u64 (nb d.k d.n))).setCell ⟨g, 2, none⟩ (.string d.s)).setCell ⟨g, 3, none⟩ (.slice Y1 d.ns.length e1)).setCell ⟨g, 4, none⟩ (.slice Y2 d.is.length e2))) rfl rfl (fun d pos aft g => by unfold execOp; go_simp) ⟨undef, rfl, ⟨g, d, Y1, e1, Y2, e2, q8, h11, m2, m3, hnn.weak (fun _ _ _ => trivial), Rv.sets5 k11 _ _ _ _ _⟩, .inl ⟨rfl, trivial⟩, htr.grown hgg htr.size (fun k hk => by injection hk with hk; omega), (fun _ _ => trivial), fun L' _ hJ' => hjk L' hJ'⟩
    | 13, _ =>
      obtain ⟨u50, b50, q50a, q50⟩ : ∃ (u : Value) (b : Bool), a.tmps.getD 41 undef = .tuple #[u, .bool b, .bool true] ∧ a.tmps.getD 50 undef = .bool b := hdep 9 rfl rfl
      obtain ⟨e50, x50⟩ := Rv.ev q50
      exact Rv.step_op (op := Go.Op.assign (Go.Operand.tmp 50)) (ty := 4) (v := .bool b50) (w1 := W) rfl rfl (fun d pos aft g => by unfold execOp; go_simp) ⟨_, rfl, q50.symm, .inr (Below.refl _ _), htr, (fun _ ht => ht), fun L _ hJ => Mw.keep (by decide) (by decide) _ (Below.refl _ _) hJ⟩
    | 14, _ =>
      obtain ⟨e51, x51⟩ := Rv.ev (show a.tmps.getD 51 undef = .bool true from hdep 10 rfl rfl)
      exact Rv.step_op (op := Go.Op.assign (Go.Operand.tmp 51)) (v := .bool true) (w1 := W) rfl rfl (fun d pos aft g => by unfold execOp; go_simp) ⟨_, rfl, rfl, .inr (Below.refl _ _), htr, fun _ ht => ht, fun L _ hJ => Mw.keep (by decide) (by decide) _ (Below.refl _ _) hJ⟩
    | m + 15, h => exact absurd h (by show ¬ m + 15 < 15; omega)
  intro W f hf htr hJ
  have f0 : f 0 = .agg #[.int .i64 t1.k, .int .i64 t1.n, .string t1.s, .slice A1 t1.ns.length c1, .slice B1 t1.is.length d1] := hf 0 (by show 0 < 15; omega) rfl
  have f2 : f 2 = .slice A0 l.length c0 := hf 2 (by show 2 < 15; omega) rfl
  have f3 : f 3 = .string (bs (36 :: segs l)) := hf 3 (by show 3 < 15; omega) rfl
  have f4 : f 4 = .agg #[.int .i64 t2.k, .int .i64 t2.n, .string t2.s, .slice A2 t2.ns.length c2, .slice B2 t2.is.length d2] := hf 4 (by show 4 < 15; omega) rfl
  have HS6 := Lib.hid (show (fun f W => ∃ (u : Value) (b : Bool), f 6 = .tuple #[u, .bool b, .bool true]) f W from hf 6 (by show 6 < 15; omega) rfl)
  have HS7 := Lib.hid (show (fun f W => ∃ (u : Value) (b : Bool), f 7 = .tuple #[u, .bool b, .bool true] ∧ f 6 = .tuple #[u, .bool b, .bool true]) f W from hf 7 (by show 7 < 15; omega) rfl)
  have HS8 := Lib.hid (show (fun f W => ∃ b : Bool, f 7 = .tuple #[f 8, .bool b, .bool true]) f W from hf 8 (by show 8 < 15; omega) rfl)
  have HS9 := Lib.hid (show (fun f W => ∃ (u : Value) (b : Bool), f 7 = .tuple #[u, .bool b, .bool true] ∧ f 9 = .bool b) f W from hf 9 (by show 9 < 15; omega) rfl)
  have f10 : f 10 = .bool true := hf 10 (by show 10 < 15; omega) rfl
  have HS12 := Lib.hid (show (fun f W => ∃ (g : Nat) (d : J) (Y1 : Option Addr) (e1 : Nat) (Y2 : Option Addr) (e2 : Nat), f 11 = .pointer (some ⟨g, 0, none⟩) ∧ X.heap.size ≤ g ∧ eqJ d (upd 0 t2 l t1) = true ∧ Wg d ∧ NN (fun _ => True) W d (.agg #[.int .i64 d.k, .int .u64 (nb d.k d.n), .string d.s, .slice Y1 d.ns.length e1, .slice Y2 d.is.length e2]) ∧ W.heap[g]? = some (.cells #[.int .i64 d.k, .int .u64 (nb d.k d.n), .string d.s, .slice Y1 d.ns.length e1, .slice Y2 d.is.length e2] 34 (0, 0))) f W from hf 12 (by show 12 < 15; omega) rfl)
  have HS13 := Lib.hid (show (fun f W => f 13 = f 9) f W from hf 13 (by show 13 < 15; omega) rfl)
  have f14 : f 14 = .bool true := hf 14 (by show 14 < 15; omega) rfl
  clear hf
  refine (show ∀ (a : Act) (w : World), Code.wp _ _ _ a w → _ from by assumption) _ _ ?_
  refine Rv.fin_swap (L' := [(42, f 0), (43, f 1), (44, f 2), (45, f 3), (46, f 4), (47, f 5), (48, f 6), (41, f 7), (49, f 8), (50, f 9), (51, f 10), (11, f 11), (1012, f 12), (12, f 13), (13, f 14)]) rfl ?_
  rw [f0, f2, f3, f4, f10, f14]
  clear f0 f2 f3 f4 f10 f14
  simp only [Rv.fin, List.foldl_cons, List.foldl_nil, Act.put, List.setIfInBounds_toArray, List.set_cons_succ, List.set_cons_zero, List.set_nil]
  obtain ⟨g, d, Y1, e1, Y2, e2, f11, hgX, he, hwd, hnn, hgb⟩ := HS12.out
  rw [f11]
  clear HS12
  have HXW := Lib.hid (HXW.out.trans (htr.mono HXW.out.size))
  have HG1 := Lib.hid ((htr.block _ hg1).trans HG1.out)
  have HG2 := Lib.hid ((htr.block _ hg2).trans HG2.out)
  have HJ1 := Lib.hid (HJ1.out.below htr)
  have HJ2 := Lib.hid (HJ2.out.below htr)
  have HR := Lib.hid (HR.out.below htr)
  have HG := Lib.hid hgb
  have HE := Lib.hid he
  have HWD := Lib.hid hwd
  have HND := Lib.hid hnn
  clear htr f11 hgX he hwd hnn hgb hg1 hg2
  generalize f 1 = u1
  generalize f 5 = u5
  generalize f 6 = u6
  generalize f 7 = u7
  generalize f 8 = u8
  generalize f 9 = u9
  generalize f 12 = u12
  generalize f 13 = u13
  go_upto_region 8 with fail
  rename World => X1
  generalize X1 = X at *
  have hput := put_any (fun x => x < X.heap.size) t2 true l t1 (.agg #[.int .i64 t1.k, .int .i64 t1.n, .string t1.s, .slice A1 t1.ns.length c1, .slice B1 t1.is.length d1]) (.agg #[.int .i64 t2.k, .int .i64 t2.n, .string t2.s, .slice A2 t2.ns.length c2, .slice B2 t2.is.length d2]) A0 c0 X HL4.out HWY.out HW1.out (fun x h => h) (HJ1.out.weak (fun x h _ => h)) (HJ2.out.weak (fun x h _ => h)) HR.out
  rw [if_pos rfl] at hput
  have PUT := Lib.hid hput
  clear hput
  obtain ⟨y0, y1, y2, y3, y4⟩ := Rv.cells5 HG1.out
  obtain ⟨x0, x1, x2, x3, x4⟩ := Rv.cells5 HG2.out
  go_upto_region 9 with (go_at_call 11; (with_reducible refine PUT.out.mono ?_); rintro e w9 ⟨v9, b9, rfl, hj, hb⟩; obtain ⟨A9, c9, B9, d9, rfl, _⟩ := hj.five; have HJ9 := Lib.hid hj; have HB9 := Lib.hid hb; clear hj hb)
  clear y0 y1 y2 y3 y4 x0 x1 x2 x3 x4
  have hal := (Below.refl w9.heap.size w9).alloc (Nat.le_refl _) (.cells #[.int .i64 (updJ (fun _ => t2) (some t2) l t1).k, .int .i64 (updJ (fun _ => t2) (some t2) l t1).n, .string (updJ (fun _ => t2) (some t2) l t1).s, .slice A9 (updJ (fun _ => t2) (some t2) l t1).ns.length c9, .slice B9 (updJ (fun _ => t2) (some t2) l t1).is.length d9] 26)
  have hn9 := heap_alloc_new w9 (.cells #[.int .i64 (updJ (fun _ => t2) (some t2) l t1).k, .int .i64 (updJ (fun _ => t2) (some t2) l t1).n, .string (updJ (fun _ => t2) (some t2) l t1).s, .slice A9 (updJ (fun _ => t2) (some t2) l t1).ns.length c9, .slice B9 (updJ (fun _ => t2) (some t2) l t1).is.length d9] 26)
  have hb9 := HB9.out.trans (hal.mono HB9.out.size)
  have HG := Lib.hid ((hb9.block _ (Rv.lt_of_blk HG.out)).trans HG.out)
  have HND := Lib.hid (HND.out.below hb9)
  have HJ9 := Lib.hid (HJ9.out.below hal)
  have HXW := Lib.hid (HXW.out.trans (hb9.mono HXW.out.size))
  have HPT : Hid (upd 0 t2 l t1 = updJ (fun _ => t2) (some t2) l t1) := Lib.hid rfl
  have HWC := Lib.hid (upd_wg 0 t2 HW2.out l t1 HST.out HWY.out HW1.out)
  rw [HPT.out] at HE HWC
  clear HPT PUT HB9 HG1 HG2 HJ1 HJ2 HR hal hb9
  generalize updJ (fun _ => t2) (some t2) l t1 = c at *
  generalize w9.alloc (.cells #[.int .i64 c.k, .int .i64 c.n, .string c.s, .slice A9 c.ns.length c9, .slice B9 c.is.length d9] 26) = Y at *
  generalize w9.heap.size = g9 at *
  have SAME := Lib.hid (same_any _ d (Nat.le_refl _) c _ _ _ _ Y HWD.out HWC.out HE.out HND.out HJ9.out)
  obtain ⟨y0, y1, y2, y3, y4⟩ := Rv.cells5 HG.out
  obtain ⟨x0, x1, x2, x3, x4⟩ := Rv.cells5 hn9
  go_wp2_with (go_at_call 12; (with_reducible refine SAME.out.mono ?_); rintro e w10 ⟨rfl, hb⟩; have HBF := Lib.hid (HXW.out.trans (hb.mono HXW.out.size)); clear hb)
  go_ret
  exact ⟨rfl, HBF.out⟩
end Go.Proofs.YtmelgankbegjaaaGreatDoor.Js

namespace Go.Proofs.YtmelgankbegjaaaGreatDoor.fnJSSet
open Go.ChangeShapes Go.WideShapes Go.ChangeAt Go.RowKit B
open Go.ChangeMaps (open_string shut_string)
set_option linter.unusedVariables false
theorem own : ownKnob Tryz.prog.godebug = none := by kernel_rfl
theorem laidOut : laidOutB Tryz.prog = true := by kernel_rfl
set_option maxRecDepth 100000 in
theorem lifted (os : Os) (started : os.Started) (H : Type) (enc : TypeId × Value → H) :
    ReturnsInHanded {} Tryz.checked os 3 .any (fun w args => (Rows.fnJSSetSpec.pre enc Tryz.prog Tryz.f3 Rows.fnJSSetRow.domain false w args ∧ laidMetH Tryz.prog Rows.fnJSSetRow.laid w) ∧ sizedMet enc Tryz.prog Tryz.f3 (OpenSpec.ofChange Rows.fnJSSetSpec) false w args) (Rows.fnJSSetSpec.post enc Tryz.prog Tryz.f3 false true false false) := by
  refine returnsInHanded_of_change_and (C := Tryz.checked) (X := fun w _ => laidMetH Tryz.prog Rows.fnJSSetRow.laid w) (fun _ _ _ hh h => h.of_heap hh) own started (by kernel_rfl) Tryz.func3
    (ChangeSpec.witness_shaped (enc := enc) (C := Tryz.checked) (os := os) (X := fun w _ => laidMetH Tryz.prog Rows.fnJSSetRow.laid w) false (World.laidAll Tryz.prog os Rows.fnJSSetRow.laid) #[.slice none 0 0, .slice none 0 0, .slice none 0 0] 8 (World.laidAll_os _ _ _)
      (World.shaped_of_ZipB (by kernel_rfl) (by kernel_rfl)) (by kernel_rfl) (by kernel_rfl) (by kernel_rfl)
      (by rw [MakeChecks.laidMetH_plain _ _ _ (by kernel_rfl)]; exact laidMet_laidAll _ (by kernel_rfl) (by kernel_rfl))) ?_
  intro W base args ds gs before hval0 hW hcnd _ hL _
  have hval : ∀ (j : Nat) t v, Tryz.f3.params[j]? = some t → args[j]? = some v → Value.okWide Tryz.prog W .any base t v := hval0
  have hW' := hW
  obtain ⟨p, q, hA0, hV, rfl, hfz, hnd⟩ := hW
  have hA : DataW.TrodAll enc Tryz.prog W 0 (fun _ => true) true Tryz.f3.params.toList args.toList ds p := hA0
  rw [Tryz.params3] at hA hval
  obtain ⟨v0, vs0, d0, ds0, p0, q0, hargs, rfl, rfl, h0, r0⟩ := trodAll_cons hA
  obtain ⟨v1, vs1, d1, ds1, p1, q1, rfl, rfl, rfl, h1, r1⟩ := trodAll_cons r0
  obtain ⟨v2, vs2, d2, ds2, p2, q2, rfl, rfl, rfl, h2, r2⟩ := trodAll_cons r1
  obtain ⟨rfl, rfl, rfl⟩ := trodAll_nil r2
  obtain rfl : args = #[v0, v1, v2] := by cases args; simp_all
  have hV2 := hV
  obtain ⟨gg, gt, gcs, gfuel, gd, gp, rfl, _, _, _, _, rfl⟩ := trodVars_one hV
  obtain ⟨a0, len0, cap0, rfl⟩ := okWide_slice Tryz.underlying22 (hval 0 22 v0 rfl rfl)
  have k0 := h0
  have lt0 : ∀ x ∈ p0, x.block < W.heap.size := by obtain ⟨m, hm⟩ := k0; exact DataW.trod_lt m _ _ _ hm
  obtain ⟨z0, w0⟩ : ∃ zs, IsRow .u8 W a0 len0 cap0 zs := by
    obtain ⟨fuel, hf⟩ := h0
    rcases open_ints Tryz.underlying22 Tryz.underlying5 (by kernel_rfl) hf with ⟨hcs, _⟩ | ⟨x, l, c, zs, hcs, _, hl, hm, hz, _, hcell, hwz⟩
    · simp [Value.cells] at hcs
      obtain ⟨rfl, rfl, rfl⟩ := hcs
      exact ⟨[], .inl ⟨rfl, rfl, rfl, rfl⟩⟩
    · simp [Value.cells] at hcs
      obtain ⟨rfl, rfl, rfl⟩ := hcs
      exact ⟨zs, .inr ⟨_, rfl, hl, hm, by simpa using hz, hcell, hwz⟩⟩
  obtain ⟨a1, len1, cap1, rfl⟩ := okWide_slice Tryz.underlying22 (hval 1 22 v1 rfl rfl)
  have k1 := h1
  have lt1 : ∀ x ∈ p1, x.block < W.heap.size := by obtain ⟨m, hm⟩ := k1; exact DataW.trod_lt m _ _ _ hm
  obtain ⟨z1, w1⟩ : ∃ zs, IsRow .u8 W a1 len1 cap1 zs := by
    obtain ⟨fuel, hf⟩ := h1
    rcases open_ints Tryz.underlying22 Tryz.underlying5 (by kernel_rfl) hf with ⟨hcs, _⟩ | ⟨x, l, c, zs, hcs, _, hl, hm, hz, _, hcell, hwz⟩
    · simp [Value.cells] at hcs
      obtain ⟨rfl, rfl, rfl⟩ := hcs
      exact ⟨[], .inl ⟨rfl, rfl, rfl, rfl⟩⟩
    · simp [Value.cells] at hcs
      obtain ⟨rfl, rfl, rfl⟩ := hcs
      exact ⟨zs, .inr ⟨_, rfl, hl, hm, by simpa using hz, hcell, hwz⟩⟩
  obtain ⟨a2, len2, cap2, rfl⟩ := okWide_slice Tryz.underlying22 (hval 2 22 v2 rfl rfl)
  have k2 := h2
  have lt2 : ∀ x ∈ p2, x.block < W.heap.size := by obtain ⟨m, hm⟩ := k2; exact DataW.trod_lt m _ _ _ hm
  obtain ⟨z2, w2⟩ : ∃ zs, IsRow .u8 W a2 len2 cap2 zs := by
    obtain ⟨fuel, hf⟩ := h2
    rcases open_ints Tryz.underlying22 Tryz.underlying5 (by kernel_rfl) hf with ⟨hcs, _⟩ | ⟨x, l, c, zs, hcs, _, hl, hm, hz, _, hcell, hwz⟩
    · simp [Value.cells] at hcs
      obtain ⟨rfl, rfl, rfl⟩ := hcs
      exact ⟨[], .inl ⟨rfl, rfl, rfl, rfl⟩⟩
    · simp [Value.cells] at hcs
      obtain ⟨rfl, rfl, rfl⟩ := hcs
      exact ⟨zs, .inr ⟨_, rfl, hl, hm, by simpa using hz, hcell, hwz⟩⟩
  clear hA0 hval0
  refine (Js.law3_any a0 len0 cap0 z0 a1 len1 cap1 z1 a2 len2 cap2 z2 W w0 w1 w2 (Js.facts_of_laid hL).1 (Js.facts_of_laid hL).2.1).mono fun e W' ⟨he, bel⟩ => ?_
  subst he
  exact ⟨_, rfl, _, _, _, [], _, _, hW', trodAll_mk1 (shut_bool Tryz.underlying4 _), (trodAll_cons_mk (Below.trod laidOut (by kernel_rfl) (of_decide_eq_true (by kernel_rfl)) k0 bel lt0) (trodAll_cons_mk (Below.trod laidOut (by kernel_rfl) (of_decide_eq_true (by kernel_rfl)) k1 bel lt1) (trodAll_cons_mk (Below.trod laidOut (by kernel_rfl) (of_decide_eq_true (by kernel_rfl)) k2 bel lt2) trodAll_mk0))), (Below.trodVars laidOut bel (by kernel_rfl) hV2), bel.frame _, fun h => by cases h⟩
theorem over : Rows.fnJSSetRow.holds Tryz.pinned (OpenSpec.ofChange Rows.fnJSSetSpec) :=
  OpenClaim.holds_of_wide 3 Tryz.f3 rfl rfl rfl rfl rfl rfl rfl ⟨rfl, rfl, rfl, rfl, rfl⟩ rfl rfl rfl rfl rfl (by kernel_rfl) Tryz.func3 (by kernel_rfl)
    (of_decide_eq_true (by kernel_rfl)) (by unfold Func.isWrapper; first | (rw [if_pos (by decide +kernel)]; kernel_rfl) | (rw [if_neg (by decide +kernel)]; exact ⟨rfl, rfl⟩))
    (fun os started H enc _ => lifted os started H enc)
theorem proved : Rows.FnJSSetSaid := over
end Go.Proofs.YtmelgankbegjaaaGreatDoor.fnJSSet
namespace Go.Proofs.YtmelgankbegjaaaGreatDoor
/-- The tied card. -/
theorem fnJSSet_holds : Rows.FnJSSetCardSaid :=
  Claim7.holds_tied_plain_at .later [] [.data, .data, .data, .data, .sentinel, .sentinel, .listed, .data, .data, .pinned] true (true, "86861f665650765426c1abbbdea1523588b5e9a221e4e423eb87567ae80e110e") true
    fnJSSet.proved (fun _ h => by cases h) (by kernel_rfl) (fun _ h => by cases h) fnJSSet_row_tie rfl ⟨rfl, rfl⟩ (by kernel_rfl) rfl
    (fun f fn hf hfn => by
      obtain rfl : f = 3 := Option.some.inj ((show Tryz.prog.funcNamed "given.example/pub-abaculus/laws.FnJSSet" = some 3 by kernel_rfl).symm.trans hf) |>.symm
      obtain rfl : fn = Tryz.f3 := (Option.some.inj (Tryz.func3.symm.trans hfn)).symm
      exact ⟨by kernel_rfl, fun j t ht => by
        rw [Tryz.params3] at ht
        have hm : t ∈ [22, 22, 22] := by simpa using Array.mem_of_getElem? ht
        have hall : ([22, 22, 22].all fun u => !Tryz.prog.wantsStandIn u) = true := by kernel_rfl
        exact (show Tryz.prog.wantsStandIn t = false by simpa using List.all_eq_true.1 hall t hm)⟩)
    (by kernel_rfl)
end Go.Proofs.YtmelgankbegjaaaGreatDoor

/- A member that is put in the place of what is there. Conditions: those written at each lemma. -/
import Derived.Test.YtmelgankbegjaaaMl
set_option linter.unusedVariables false
set_option linter.unusedSimpArgs false
set_option maxRecDepth 100000
set_option maxHeartbeats 8000000
namespace Go.Proofs.Ytmelgankbegjaaa.Js
open Go.RowKit Go.Proofs.Ytmelgankbegjaaa.B

theorem put_found (E : Nat → Prop) (n : Int) (s : ByteArray) (ns : List ByteArray) (is : List J) (tx : J) (v vx : Value) (x : ByteArray) (bl ol i1 : Nat) (w : World) (hE : ∀ x, E x → x < w.heap.size) (hj : JN E w (.mk 5 n s ns is) v) (hx : JN E w tx vx)
    (h8 : is.length ≤ 8) (hnl : ns.length = is.length) (hi : i1 < is.length) (hK : idx x ns 0 = (i1 : Int)) (hbl : bl < w.heap.size) (hl : w.cell? ⟨bl, ol, none⟩ = some (.string x) ∧ w.cell? ⟨bl, ol + 1, none⟩ = some (.int .i64 0) ∧ w.cell? ⟨bl, ol + 2, none⟩ = some (.bool false)) :
    Calls Try.prog 25 #[v, .slice (some ⟨bl, ol, none⟩) 1 1, vx, .bool true, .bool true] w fun e w' => ∃ u, e = .returned (.tuple #[u, .bool true]) ∧ JN (fun x => E x ∨ w.heap.size ≤ x) w' (.mk 5 n s ns (is.set i1 tx)) u ∧ Below w.heap.size w w' := by
  have hj0 := hj
  obtain ⟨A, c, A2, c2, hs, rfl, hn, hI, hH⟩ := hj0
  obtain ⟨C, d, C2, d2, rfl, _⟩ := hx.five
  obtain ⟨b2, o2, A1, c1, A3, c3, ea, hb2, x0, x1, x2, x3, x4, hjt⟩ := row_item hI.1 hH rfl i1 hi
  have ea : A2 = some ⟨b2, o2, none⟩ := ea
  subst ea
  generalize hti : is[i1] = ti at *
  have HA := Lib.hid (old_blk (o := .cells #[.int .i64 0, .int .i64 0, .string ⟨#[]⟩, .slice none 0 0, .slice none 0 0] 26) (old_blk (o := .cells #[.int .i64 tx.k, .int .i64 tx.n, .string tx.s, .slice C tx.ns.length d, .slice C2 tx.is.length d2] 26) (heap_alloc_new w (.cells #[.int .i64 5, .int .i64 n, .string s, .slice A ns.length c, .slice (some ⟨b2, o2, none⟩) is.length c2] 26))))
  have HXB := Lib.hid (old_blk (o := .cells #[.int .i64 0, .int .i64 0, .string ⟨#[]⟩, .slice none 0 0, .slice none 0 0] 26) (show ((w.alloc (.cells #[.int .i64 5, .int .i64 n, .string s, .slice A ns.length c, .slice (some ⟨b2, o2, none⟩) is.length c2] 26)).alloc (.cells #[.int .i64 tx.k, .int .i64 tx.n, .string tx.s, .slice C tx.ns.length d, .slice C2 tx.is.length d2] 26)).heap[w.heap.size + 1]? = some (.cells #[.int .i64 tx.k, .int .i64 tx.n, .string tx.s, .slice C tx.ns.length d, .slice C2 tx.is.length d2] 26 (0, 0)) from by
    have := heap_alloc_new (w.alloc (.cells #[.int .i64 5, .int .i64 n, .string s, .slice A ns.length c, .slice (some ⟨b2, o2, none⟩) is.length c2] 26)) (.cells #[.int .i64 tx.k, .int .i64 tx.n, .string tx.s, .slice C tx.ns.length d, .slice C2 tx.is.length d2] 26)
    simpa using this))
  have HZ := Lib.hid (show (((w.alloc (.cells #[.int .i64 5, .int .i64 n, .string s, .slice A ns.length c, .slice (some ⟨b2, o2, none⟩) is.length c2] 26)).alloc (.cells #[.int .i64 tx.k, .int .i64 tx.n, .string tx.s, .slice C tx.ns.length d, .slice C2 tx.is.length d2] 26)).alloc (.cells #[.int .i64 0, .int .i64 0, .string ⟨#[]⟩, .slice none 0 0, .slice none 0 0] 26)).heap[w.heap.size + 1 + 1]? = some (.cells #[.int .i64 0, .int .i64 0, .string ⟨#[]⟩, .slice none 0 0, .slice none 0 0] 26 (0, 0)) from by
    have := heap_alloc_new ((w.alloc (.cells #[.int .i64 5, .int .i64 n, .string s, .slice A ns.length c, .slice (some ⟨b2, o2, none⟩) is.length c2] 26)).alloc (.cells #[.int .i64 tx.k, .int .i64 tx.n, .string tx.s, .slice C tx.ns.length d, .slice C2 tx.is.length d2] 26)) (.cells #[.int .i64 0, .int .i64 0, .string ⟨#[]⟩, .slice none 0 0, .slice none 0 0] 26)
    simpa using this)
  have hX : Below w.heap.size w (((w.alloc (.cells #[.int .i64 5, .int .i64 n, .string s, .slice A ns.length c, .slice (some ⟨b2, o2, none⟩) is.length c2] 26)).alloc (.cells #[.int .i64 tx.k, .int .i64 tx.n, .string tx.s, .slice C tx.ns.length d, .slice C2 tx.is.length d2] 26)).alloc (.cells #[.int .i64 0, .int .i64 0, .string ⟨#[]⟩, .slice none 0 0, .slice none 0 0] 26)) := (((Below.refl _ _).alloc (Nat.le_refl _) _).alloc (by simp) _).alloc (by simp; omega) _
  have HX := Lib.hid hX
  have HJ := Lib.hid hj
  have HJX := Lib.hid hx
  have HJT := Lib.hid hjt
  have HLW := Lib.hid (fun (W : World) (hb : Below w.heap.size w W) => show W.cell? ⟨bl, ol, none⟩ = some (.string x) ∧ W.cell? ⟨bl, ol + 1, none⟩ = some (.int .i64 0) ∧ W.cell? ⟨bl, ol + 2, none⟩ = some (.bool false) from
    ⟨(hb.cell (p := ⟨bl, ol, none⟩) hbl).trans hl.1, (hb.cell (p := ⟨bl, ol + 1, none⟩) hbl).trans hl.2.1, (hb.cell (p := ⟨bl, ol + 2, none⟩) hbl).trans hl.2.2⟩)
  have ITW := Lib.hid (fun (W : World) (hb : Below w.heap.size w W) => show W.cell? ⟨b2, o2 + i1 * 5, none⟩ = some (.int .i64 ti.k) ∧ W.cell? ⟨b2, o2 + i1 * 5 + 1, none⟩ = some (.int .i64 ti.n) ∧ W.cell? ⟨b2, o2 + i1 * 5 + 2, none⟩ = some (.string ti.s) ∧ W.cell? ⟨b2, o2 + i1 * 5 + 3, none⟩ = some (.slice A1 ti.ns.length c1) ∧ W.cell? ⟨b2, o2 + i1 * 5 + 4, none⟩ = some (.slice A3 ti.is.length c3) from
    ⟨(hb.cell (p := ⟨b2, o2 + i1 * 5, none⟩) hb2).trans x0, (hb.cell (p := ⟨b2, o2 + i1 * 5 + 1, none⟩) hb2).trans x1, (hb.cell (p := ⟨b2, o2 + i1 * 5 + 2, none⟩) hb2).trans x2, (hb.cell (p := ⟨b2, o2 + i1 * 5 + 3, none⟩) hb2).trans x3, (hb.cell (p := ⟨b2, o2 + i1 * 5 + 4, none⟩) hb2).trans x4⟩)
  have HIL := Lib.hid hi
  have HK := Lib.hid hK
  have hn8 : ns.length ≤ 8 := by omega
  have FIW := Lib.hid (fun (W : World) (hb : Below w.heap.size w W) => show Calls Try.prog 35 #[.agg #[.int .i64 5, .int .i64 n, .string s, .slice A ns.length c, .slice (some ⟨b2, o2, none⟩) is.length c2], .agg #[.string x, .int .i64 0, .bool false]] W fun e w' => e = .returned (.int .i64 (i1 : Int)) ∧ Below W.heap.size W w' from by
    have h := find_any (.mk 5 n s ns is) _ _ x W (hj.below hb) rfl hn8
    rw [show idx x (J.mk 5 n s ns is).ns 0 = (i1 : Int) from hK] at h
    exact h)
  have PNW := Lib.hid (fun (W : World) (hb : Below w.heap.size w W) => put_nil ti tx _ _ (.agg #[.int .i64 ti.k, .int .i64 ti.n, .string ti.s, .slice A1 ti.ns.length c1, .slice A3 ti.is.length c3]) (.agg #[.int .i64 tx.k, .int .i64 tx.n, .string tx.s, .slice C tx.ns.length d, .slice C2 tx.is.length d2]) (some ⟨bl, ol, none⟩) 0 W (hjt.below hb) (hx.below hb))
  clear hnl hj hx hn hI hH hX x0 x1 x2 x3 x4 hjt hl hK
  go_enter Try.func25, Try.ntmps25
  go_upto_region 5 with fail
  generalize ((w.alloc (.cells #[.int .i64 5, .int .i64 n, .string s, .slice A ns.length c, .slice (some ⟨b2, o2, none⟩) is.length c2] 26)).alloc (.cells #[.int .i64 tx.k, .int .i64 tx.n, .string tx.s, .slice C tx.ns.length d, .slice C2 tx.is.length d2] 26)).alloc (.cells #[.int .i64 0, .int .i64 0, .string ⟨#[]⟩, .slice none 0 0, .slice none 0 0] 26) = X at *
  have hga := Rv.lt_of_blk HA.out
  have FI := Lib.hid (fun (W : World) (hb : Below X.heap.size X W) => FIW.out W (HX.out.trans (hb.mono HX.out.size)))
  have HL := Lib.hid (fun (W : World) (hb : Below X.heap.size X W) => HLW.out W (HX.out.trans (hb.mono HX.out.size)))
  generalize hKi : (i1 : Int) = K at FI
  refine Rv.region_goods (n := 102) (by kernel_rfl) #[21, 22, 23, 24, 25, 12] #[] (fun i v W => v = (#[.agg #[.int .i64 5, .int .i64 n, .string s, .slice A ns.length c, .slice (some ⟨b2, o2, none⟩) is.length c2], .slice (some ⟨bl, ol, none⟩) 1 1, .pointer (some ⟨bl, ol, none⟩), .agg #[.string x, .int .i64 0, .bool false], .int .i64 K, .int .i64 K] : Array Value).getD i undef) (fun i v w w' h hb => ?_) (fun i h g b hg => ?_) rfl (by kernel_rfl) (by kernel_rfl) (fun i h hr w => ?_) ?_ ?_
  · exact h
  · match i, h, hg with
    | 0, _, hg => cases hg
    | 1, _, hg => cases hg
    | 2, _, hg => cases hg
    | 3, _, hg => cases hg
    | 4, _, hg => cases hg
    | 5, _, hg => cases hg
    | m + 6, h, _ => exact absurd h (by show ¬ m + 6 < 6; omega)
  · match i, h, hr with
    | 0, _, hr => exact Bool.noConfusion (show true = false from hr)
    | 1, _, hr => exact Bool.noConfusion (show true = false from hr)
    | 2, _, hr => exact Bool.noConfusion (show true = false from hr)
    | 3, _, hr => exact Bool.noConfusion (show true = false from hr)
    | 4, _, hr => exact Bool.noConfusion (show true = false from hr)
    | 5, _, hr => exact Bool.noConfusion (show true = false from hr)
    | m + 6, h, _ => exact absurd h (by show ¬ m + 6 < 6; omega)
  · intro i h a W hrun hbase hpre hdep htr
    obtain ⟨y0, y1, y2, y3, y4⟩ := Rv.cells5 ((htr.block _ hga).trans HA.out)
    obtain ⟨l0, l1, l2⟩ := HL.out W htr
    match i, h with
    | 0, _ =>
      obtain ⟨e5, x5⟩ := Rv.ev (show a.tmps.getD 5 undef = .pointer (some ⟨w.heap.size, 0, none⟩) from hbase 5 rfl)
      exact Rv.step_op (op := Go.Op.load 26 (Go.Operand.tmp 5)) (v := .agg #[.int .i64 5, .int .i64 n, .string s, .slice A ns.length c, .slice (some ⟨b2, o2, none⟩) is.length c2]) (w1 := W) rfl rfl (fun d pos aft g => by unfold execOp; go_simp) ⟨_, rfl, rfl, Below.refl _ _⟩
    | 1, _ =>
      obtain ⟨e1, x1⟩ := Rv.ev (show a.tmps.getD 1 undef = .slice (some ⟨bl, ol, none⟩) 1 1 from hbase 1 rfl)
      exact Rv.step_op (op := Go.Op.move (Go.Operand.tmp 1)) (v := .slice (some ⟨bl, ol, none⟩) 1 1) (w1 := W) rfl rfl (fun d pos aft g => by unfold execOp; go_simp) ⟨_, rfl, rfl, Below.refl _ _⟩
    | 2, _ =>
      obtain ⟨e22, x22⟩ := Rv.ev (show a.tmps.getD 22 undef = .slice (some ⟨bl, ol, none⟩) 1 1 from hdep 1 rfl)
      exact Rv.step_op (op := Go.Op.indexAddr 60 (Go.Operand.tmp 22) (Go.Operand.const (Go.Value.int Go.IntKind.i64 0))) (v := .pointer (some ⟨bl, ol, none⟩)) (w1 := W) rfl rfl (fun d pos aft g => by unfold execOp; go_simp) ⟨_, rfl, rfl, Below.refl _ _⟩
    | 3, _ =>
      obtain ⟨e23, x23⟩ := Rv.ev (show a.tmps.getD 23 undef = .pointer (some ⟨bl, ol, none⟩) from hdep 2 rfl)
      exact Rv.step_op (op := Go.Op.load 59 (Go.Operand.tmp 23)) (v := .agg #[.string x, .int .i64 0, .bool false]) (w1 := W) rfl rfl (fun d pos aft g => by unfold execOp; go_simp) ⟨_, rfl, rfl, Below.refl _ _⟩
    | 4, _ =>
      obtain ⟨e21, x21⟩ := Rv.ev (show a.tmps.getD 21 undef = .agg #[.int .i64 5, .int .i64 n, .string s, .slice A ns.length c, .slice (some ⟨b2, o2, none⟩) is.length c2] from hdep 0 rfl)
      obtain ⟨e24, x24⟩ := Rv.ev (show a.tmps.getD 24 undef = .agg #[.string x, .int .i64 0, .bool false] from hdep 3 rfl)
      have cf : ∀ x0 x1 W, (callFunc 35 #[x0, x1]).run Try.prog W = .ok (.enter 35 #[x0, x1]) W := fun _ _ _ => by kernel_rfl
      refine Rv.step_fn (op := Go.Op.call { callee := Go.Callee.value (Go.Operand.func 35), args := #[Go.Operand.tmp 21, Go.Operand.tmp 24], argTypes := #[26, 59] }) (f := 35) (args := #[.agg #[.int .i64 5, .int .i64 n, .string s, .slice A ns.length c, .slice (some ⟨b2, o2, none⟩) is.length c2], .agg #[.string x, .int .i64 0, .bool false]]) (R := fun v W' => v = .int .i64 K ∧ Below W.heap.size W W') rfl rfl (fun d pos aft g => by unfold execOp; go_simp) ((FI.out W htr).mono ?_) ?_
      · (rintro e W' ⟨rfl, hb⟩; exact ⟨_, rfl, rfl, hb⟩)
      · (rintro v W' ⟨rfl, hb⟩; exact ⟨_, rfl, rfl, hb⟩)
    | 5, _ =>
      obtain ⟨e25, x25⟩ := Rv.ev (show a.tmps.getD 25 undef = .int .i64 K from hdep 4 rfl)
      exact Rv.step_op (op := Go.Op.assign (Go.Operand.tmp 25)) (v := .int .i64 K) (w1 := W) rfl rfl (fun d pos aft g => by unfold execOp; go_simp) ⟨_, rfl, rfl, Below.refl _ _⟩
    | m + 6, h => exact absurd h (by show ¬ m + 6 < 6; omega)
  intro W f hf htr
  have f0 : f 0 = .agg #[.int .i64 5, .int .i64 n, .string s, .slice A ns.length c, .slice (some ⟨b2, o2, none⟩) is.length c2] := hf 0 (by show 0 < 6; omega)
  have f1 : f 1 = .slice (some ⟨bl, ol, none⟩) 1 1 := hf 1 (by show 1 < 6; omega)
  have f2 : f 2 = .pointer (some ⟨bl, ol, none⟩) := hf 2 (by show 2 < 6; omega)
  have f3 : f 3 = .agg #[.string x, .int .i64 0, .bool false] := hf 3 (by show 3 < 6; omega)
  have f4 : f 4 = .int .i64 K := hf 4 (by show 4 < 6; omega)
  have f5 : f 5 = .int .i64 K := hf 5 (by show 5 < 6; omega)
  refine (show ∀ (a : Act) (w : World), Code.wp _ _ _ a w → _ from by assumption) _ _ ?_
  refine Rv.fin_swap (L' := [(21, f 0), (22, f 1), (23, f 2), (24, f 3), (25, f 4), (12, f 5)]) rfl ?_
  rw [f0, f1, f2, f3, f4, f5]
  clear f0 f1 f2 f3 f4 f5
  simp only [Rv.fin, List.foldl_cons, List.foldl_nil, Act.put, List.setIfInBounds_toArray, List.set_cons_succ, List.set_cons_zero]
  subst hKi
  have HX := Lib.hid (HX.out.trans (htr.mono HX.out.size))
  have HA := Lib.hid ((htr.block _ hga).trans HA.out)
  have HXB := Lib.hid ((htr.block _ (Rv.lt_of_blk HXB.out)).trans HXB.out)
  have HZ := Lib.hid ((htr.block _ (Rv.lt_of_blk HZ.out)).trans HZ.out)
  clear hf htr FI HL hga FIW
  go_upto_region 7 with fail
  rename World => X1
  generalize X1 = X at *
  have hga := Rv.lt_of_blk HA.out
  have hgb := Rv.lt_of_blk HXB.out
  have hgz := Rv.lt_of_blk HZ.out
  have IT := Lib.hid (fun (W : World) (hb : Below X.heap.size X W) => ITW.out W (HX.out.trans (hb.mono HX.out.size)))
  have PN := Lib.hid (fun (W : World) (hb : Below X.heap.size X W) => PNW.out W (HX.out.trans (hb.mono HX.out.size)))
  refine Rv.region_fin (n := 102) (by kernel_rfl) #[29, 30, 31, 32, 33, 34, 35, 36, 37, 38, 39, 28, 40, 41, 13, 1015, 14] #[] (fun i f W => if i = 15 then (fun f W => ∃ (g : Nat), f 14 = .pointer (some ⟨g, 0, none⟩) ∧ W.heap[g]? = some (.cells #[.int .i64 tx.k, .int .i64 tx.n, .string tx.s, .slice C tx.ns.length d, .slice C2 tx.is.length d2] 26 (0, 0)) ∧ X.heap.size ≤ g) f W else if i = 14 then (fun f W => ∃ (g : Nat), f 14 = .pointer (some ⟨g, 0, none⟩) ∧ W.heap[g]? = some (.cells #[.int .i64 0, .int .i64 0, .string ⟨#[]⟩, .slice none 0 0, .slice none 0 0] 26 (0, 0)) ∧ X.heap.size ≤ g) f W else f i = (#[.pointer (some ⟨w.heap.size, 4, none⟩), .slice (some ⟨b2, o2, none⟩) is.length c2, .int .i64 (i1 : Int), .pointer (some ⟨b2, o2 + i1 * 5, none⟩), .agg #[.int .i64 ti.k, .int .i64 ti.n, .string ti.s, .slice A1 ti.ns.length c1, .slice A3 ti.is.length c3], .slice (some ⟨bl, ol, none⟩) 1 1, .slice (some ⟨bl, ol, none⟩) 0 0, .agg #[.int .i64 tx.k, .int .i64 tx.n, .string tx.s, .slice C tx.ns.length d, .slice C2 tx.is.length d2], .bool true, .bool true, .tuple #[.agg #[.int .i64 tx.k, .int .i64 tx.n, .string tx.s, .slice C tx.ns.length d, .slice C2 tx.is.length d2], .bool true], .tuple #[.agg #[.int .i64 tx.k, .int .i64 tx.n, .string tx.s, .slice C tx.ns.length d, .slice C2 tx.is.length d2], .bool true], .agg #[.int .i64 tx.k, .int .i64 tx.n, .string tx.s, .slice C tx.ns.length d, .slice C2 tx.is.length d2], .bool true, undef, undef, .bool true] : Array Value).getD i undef) (fun i j => (i == 15 && (j == 14))) (fun i => i == 15) (fun i f W W' => True) (fun W => Below X.heap.size X W) (fun _ => True) (fun _ _ _ => True) (fun _ _ _ _ _ _ _ _ => trivial) (fun i f f' w hi h hd hg => ?_) (fun i j f w w' hi hj hij hK hdp h hr => ?_) (fun i h g b hg => ?_) rfl (by kernel_rfl) (fun i h g b hg => ?_) ((Below.refl _ _).drew) (trivial) (fun _ => trivial) (fun i h hr f w hf => ?_) (fun _ _ _ _ _ _ _ _ => trivial) ?_ ?_
  · by_cases hi1015 : i = 15
    · subst hi1015
      rw [if_pos rfl] at hg ⊢
      obtain ⟨g, q1, q2⟩ := hg
      exact ⟨g, (hd 14 rfl).symm.trans q1, q2⟩
    rw [if_neg hi1015] at hg ⊢
    by_cases hi13 : i = 14
    · subst hi13
      rw [if_pos rfl] at hg ⊢
      obtain ⟨g, q1, q2⟩ := hg
      exact ⟨g, h.symm.trans q1, q2⟩
    rw [if_neg hi13] at hg ⊢
    rw [← h]; exact hg
  · by_cases hj1015 : j = 15
    · subst hj1015
      rw [if_pos rfl] at h ⊢
      rcases hr with ⟨hK1, hr⟩ | hr
      · have e : i = 15 := by simpa using hK1
        exact absurd e hij
      · obtain ⟨g, e, h1, h2⟩ := h
        exact ⟨g, e, (hr.block _ (Rv.lt_of_blk h1)).trans h1, h2⟩
    rw [if_neg hj1015] at h ⊢
    by_cases hj13 : j = 14
    · subst hj13
      rw [if_pos rfl] at h ⊢
      rcases hr with ⟨hK1, hr⟩ | hr
      · have e : i = 15 := by simpa using hK1
        subst e; exfalso; revert hK; decide
      · obtain ⟨g, e, h1, h2⟩ := h
        exact ⟨g, e, (hr.block _ (Rv.lt_of_blk h1)).trans h1, h2⟩
    rw [if_neg hj13] at h ⊢
    exact h
  · match i, h, hg with
    | 0, _, hg => cases hg
    | 1, _, hg => cases hg
    | 2, _, hg => cases hg
    | 3, _, hg => cases hg
    | 4, _, hg => cases hg
    | 5, _, hg => cases hg
    | 6, _, hg => cases hg
    | 7, _, hg => cases hg
    | 8, _, hg => cases hg
    | 9, _, hg => cases hg
    | 10, _, hg => cases hg
    | 11, _, hg => cases hg
    | 12, _, hg => cases hg
    | 13, _, hg => cases hg
    | 14, _, hg => cases hg
    | 15, _, hg => cases hg
    | 16, _, hg => cases hg
    | m + 17, h, _ => exact absurd h (by show ¬ m + 17 < 17; omega)
  · match i, h, hg with
    | 0, _, hg => cases hg
    | 1, _, hg => cases hg
    | 2, _, hg => cases hg
    | 3, _, hg => cases hg
    | 4, _, hg => cases hg
    | 5, _, hg => cases hg
    | 6, _, hg => cases hg
    | 7, _, hg => cases hg
    | 8, _, hg => cases hg
    | 9, _, hg => cases hg
    | 10, _, hg => cases hg
    | 11, _, hg => cases hg
    | 12, _, hg => cases hg
    | 13, _, hg => cases hg
    | 14, _, hg => cases hg
    | 15, _, hg => cases hg
    | 16, _, hg => cases hg
    | m + 17, h, _ => exact absurd h (by show ¬ m + 17 < 17; omega)
  · match i, h, hr, hf with
    | 0, _, hr, _ => exact Bool.noConfusion (show true = false from hr)
    | 1, _, hr, _ => exact Bool.noConfusion (show true = false from hr)
    | 2, _, hr, _ => exact Bool.noConfusion (show true = false from hr)
    | 3, _, hr, _ => exact Bool.noConfusion (show true = false from hr)
    | 4, _, hr, _ => exact Bool.noConfusion (show true = false from hr)
    | 5, _, hr, _ => exact Bool.noConfusion (show true = false from hr)
    | 6, _, hr, _ => exact Bool.noConfusion (show true = false from hr)
    | 7, _, hr, _ => exact Bool.noConfusion (show true = false from hr)
    | 8, _, hr, _ => exact Bool.noConfusion (show true = false from hr)
    | 9, _, hr, _ => exact Bool.noConfusion (show true = false from hr)
    | 10, _, hr, _ => exact Bool.noConfusion (show true = false from hr)
    | 11, _, hr, _ => exact Bool.noConfusion (show true = false from hr)
    | 12, _, hr, _ => exact Bool.noConfusion (show true = false from hr)
    | 13, _, hr, _ => exact Bool.noConfusion (show true = false from hr)
    | 14, _, hr, _ => exact Bool.noConfusion (show true = false from hr)
    | 15, _, hr, _ => exact Bool.noConfusion (show true = false from hr)
    | 16, _, hr, _ => exact Bool.noConfusion (show true = false from hr)
    | m + 17, h, _, _ => exact absurd h (by show ¬ m + 17 < 17; omega)
  · intro i h a W hrun hbase hpre hdep htr hta hJ
    obtain ⟨y0, y1, y2, y3, y4⟩ := Rv.cells5 ((htr.block _ hga).trans HA.out)
    obtain ⟨x0, x1, x2, x3, x4⟩ := Rv.cells5 ((htr.block _ hgb).trans HXB.out)
    obtain ⟨j0, j1, j2, j3, j4⟩ := IT.out W htr
    have hil := HIL.out
    match i, h with
    | 0, _ =>
      obtain ⟨e5, x5⟩ := Rv.ev (show a.tmps.getD 5 undef = .pointer (some ⟨w.heap.size, 0, none⟩) from hbase 5 rfl)
      exact Rv.step_op (op := Go.Op.fieldAddr 26 (Go.Operand.tmp 5) 4) (v := .pointer (some ⟨w.heap.size, 4, none⟩)) (w1 := W) rfl rfl (fun d pos aft g => by unfold execOp; go_simp) ⟨_, rfl, rfl, .inr (Below.refl _ _), htr, fun _ ht => ht, fun _ _ _ => trivial⟩
    | 1, _ =>
      obtain ⟨e29, x29⟩ := Rv.ev (show a.tmps.getD 29 undef = .pointer (some ⟨w.heap.size, 4, none⟩) from hdep 0 rfl rfl)
      exact Rv.step_op (op := Go.Op.load 24 (Go.Operand.tmp 29)) (v := .slice (some ⟨b2, o2, none⟩) is.length c2) (w1 := W) rfl rfl (fun d pos aft g => by unfold execOp; go_simp) ⟨_, rfl, rfl, .inr (Below.refl _ _), htr, fun _ ht => ht, fun _ _ _ => trivial⟩
    | 2, _ =>
      obtain ⟨e12, x12⟩ := Rv.ev (show a.tmps.getD 12 undef = .int .i64 (i1 : Int) from hbase 12 rfl)
      exact Rv.step_op (op := Go.Op.move (Go.Operand.tmp 12)) (v := .int .i64 (i1 : Int)) (w1 := W) rfl rfl (fun d pos aft g => by unfold execOp; go_simp) ⟨_, rfl, rfl, .inr (Below.refl _ _), htr, fun _ ht => ht, fun _ _ _ => trivial⟩
    | 3, _ =>
      obtain ⟨e30, x30⟩ := Rv.ev (show a.tmps.getD 30 undef = .slice (some ⟨b2, o2, none⟩) is.length c2 from hdep 1 rfl rfl)
      obtain ⟨e31, x31⟩ := Rv.ev (show a.tmps.getD 31 undef = .int .i64 (i1 : Int) from hdep 2 rfl rfl)
      exact Rv.step_op (op := Go.Op.indexAddr 24 (Go.Operand.tmp 30) (Go.Operand.tmp 31)) (v := .pointer (some ⟨b2, o2 + i1 * 5, none⟩)) (w1 := W) rfl rfl (fun d pos aft g => by unfold execOp; go_simp) ⟨_, rfl, rfl, .inr (Below.refl _ _), htr, fun _ ht => ht, fun _ _ _ => trivial⟩
    | 4, _ =>
      obtain ⟨e32, x32⟩ := Rv.ev (show a.tmps.getD 32 undef = .pointer (some ⟨b2, o2 + i1 * 5, none⟩) from hdep 3 rfl rfl)
      exact Rv.step_op (op := Go.Op.load 26 (Go.Operand.tmp 32)) (v := .agg #[.int .i64 ti.k, .int .i64 ti.n, .string ti.s, .slice A1 ti.ns.length c1, .slice A3 ti.is.length c3]) (w1 := W) rfl rfl (fun d pos aft g => by unfold execOp; go_simp) ⟨_, rfl, rfl, .inr (Below.refl _ _), htr, fun _ ht => ht, fun _ _ _ => trivial⟩
    | 5, _ =>
      obtain ⟨e1, x1⟩ := Rv.ev (show a.tmps.getD 1 undef = .slice (some ⟨bl, ol, none⟩) 1 1 from hbase 1 rfl)
      exact Rv.step_op (op := Go.Op.move (Go.Operand.tmp 1)) (v := .slice (some ⟨bl, ol, none⟩) 1 1) (w1 := W) rfl rfl (fun d pos aft g => by unfold execOp; go_simp) ⟨_, rfl, rfl, .inr (Below.refl _ _), htr, fun _ ht => ht, fun _ _ _ => trivial⟩
    | 6, _ =>
      obtain ⟨e34, x34⟩ := Rv.ev (show a.tmps.getD 34 undef = .slice (some ⟨bl, ol, none⟩) 1 1 from hdep 5 rfl rfl)
      exact Rv.step_op (op := Go.Op.slice 60 (Go.Operand.tmp 34) (some (Go.Operand.const (Go.Value.int Go.IntKind.i64 1))) none none) (v := .slice (some ⟨bl, ol, none⟩) 0 0) (w1 := W) rfl rfl (fun d pos aft g => by unfold execOp; go_simp) ⟨_, rfl, rfl, .inr (Below.refl _ _), htr, fun _ ht => ht, fun _ _ _ => trivial⟩
    | 7, _ =>
      obtain ⟨e7, x7⟩ := Rv.ev (show a.tmps.getD 7 undef = .pointer (some ⟨w.heap.size + 1, 0, none⟩) from hbase 7 rfl)
      exact Rv.step_op (op := Go.Op.load 26 (Go.Operand.tmp 7)) (v := .agg #[.int .i64 tx.k, .int .i64 tx.n, .string tx.s, .slice C tx.ns.length d, .slice C2 tx.is.length d2]) (w1 := W) rfl rfl (fun d pos aft g => by unfold execOp; go_simp) ⟨_, rfl, rfl, .inr (Below.refl _ _), htr, fun _ ht => ht, fun _ _ _ => trivial⟩
    | 8, _ =>
      obtain ⟨e3, x3⟩ := Rv.ev (show a.tmps.getD 3 undef = .bool true from hbase 3 rfl)
      exact Rv.step_op (op := Go.Op.move (Go.Operand.tmp 3)) (v := .bool true) (w1 := W) rfl rfl (fun d pos aft g => by unfold execOp; go_simp) ⟨_, rfl, rfl, .inr (Below.refl _ _), htr, fun _ ht => ht, fun _ _ _ => trivial⟩
    | 9, _ =>
      obtain ⟨e4, x4⟩ := Rv.ev (show a.tmps.getD 4 undef = .bool true from hbase 4 rfl)
      exact Rv.step_op (op := Go.Op.move (Go.Operand.tmp 4)) (v := .bool true) (w1 := W) rfl rfl (fun d pos aft g => by unfold execOp; go_simp) ⟨_, rfl, rfl, .inr (Below.refl _ _), htr, fun _ ht => ht, fun _ _ _ => trivial⟩
    | 10, _ =>
      obtain ⟨e33, x33⟩ := Rv.ev (show a.tmps.getD 33 undef = .agg #[.int .i64 ti.k, .int .i64 ti.n, .string ti.s, .slice A1 ti.ns.length c1, .slice A3 ti.is.length c3] from hdep 4 rfl rfl)
      obtain ⟨e35, x35⟩ := Rv.ev (show a.tmps.getD 35 undef = .slice (some ⟨bl, ol, none⟩) 0 0 from hdep 6 rfl rfl)
      obtain ⟨e36, x36⟩ := Rv.ev (show a.tmps.getD 36 undef = .agg #[.int .i64 tx.k, .int .i64 tx.n, .string tx.s, .slice C tx.ns.length d, .slice C2 tx.is.length d2] from hdep 7 rfl rfl)
      obtain ⟨e37, x37⟩ := Rv.ev (show a.tmps.getD 37 undef = .bool true from hdep 8 rfl rfl)
      obtain ⟨e38, x38⟩ := Rv.ev (show a.tmps.getD 38 undef = .bool true from hdep 9 rfl rfl)
      have cf : ∀ x0 x1 x2 x3 x4 W, (callFunc 25 #[x0, x1, x2, x3, x4]).run Try.prog W = .ok (.enter 25 #[x0, x1, x2, x3, x4]) W := fun _ _ _ _ _ _ => by kernel_rfl
      refine Rv.step_fn (op := Go.Op.call { callee := Go.Callee.value (Go.Operand.func 25), args := #[Go.Operand.tmp 33, Go.Operand.tmp 35, Go.Operand.tmp 36, Go.Operand.tmp 37, Go.Operand.tmp 38], argTypes := #[26, 60, 26, 4, 4] }) (f := 25) (args := #[.agg #[.int .i64 ti.k, .int .i64 ti.n, .string ti.s, .slice A1 ti.ns.length c1, .slice A3 ti.is.length c3], .slice (some ⟨bl, ol, none⟩) 0 0, .agg #[.int .i64 tx.k, .int .i64 tx.n, .string tx.s, .slice C tx.ns.length d, .slice C2 tx.is.length d2], .bool true, .bool true]) (R := fun v W' => v = .tuple #[.agg #[.int .i64 tx.k, .int .i64 tx.n, .string tx.s, .slice C tx.ns.length d, .slice C2 tx.is.length d2], .bool true] ∧ Below W.heap.size W W') rfl rfl (fun d pos aft g => by unfold execOp; go_simp) ((PN.out W htr).mono ?_) ?_
      · (rintro e W' ⟨rfl, hb⟩; exact ⟨_, rfl, rfl, hb⟩)
      · (rintro v W' ⟨rfl, hb⟩; exact ⟨_, rfl, rfl, .inr hb, (fun W W' ht hb => ht.trans (hb.mono ht.size)) W W' htr hb, fun _ ht => (fun _ _ _ _ => trivial) W W' ht hb, fun _ _ _ => trivial⟩)
    | 11, _ =>
      obtain ⟨e39, x39⟩ := Rv.ev (show a.tmps.getD 39 undef = .tuple #[.agg #[.int .i64 tx.k, .int .i64 tx.n, .string tx.s, .slice C tx.ns.length d, .slice C2 tx.is.length d2], .bool true] from hdep 10 rfl rfl)
      exact Rv.step_op (op := Go.Op.move (Go.Operand.tmp 39)) (v := .tuple #[.agg #[.int .i64 tx.k, .int .i64 tx.n, .string tx.s, .slice C tx.ns.length d, .slice C2 tx.is.length d2], .bool true]) (w1 := W) rfl rfl (fun d pos aft g => by unfold execOp; go_simp) ⟨_, rfl, rfl, .inr (Below.refl _ _), htr, fun _ ht => ht, fun _ _ _ => trivial⟩
    | 12, _ =>
      obtain ⟨e28, x28⟩ := Rv.ev (show a.tmps.getD 28 undef = .tuple #[.agg #[.int .i64 tx.k, .int .i64 tx.n, .string tx.s, .slice C tx.ns.length d, .slice C2 tx.is.length d2], .bool true] from hdep 11 rfl rfl)
      exact Rv.step_op (op := Go.Op.extract (Go.Operand.tmp 28) 0) (v := .agg #[.int .i64 tx.k, .int .i64 tx.n, .string tx.s, .slice C tx.ns.length d, .slice C2 tx.is.length d2]) (w1 := W) rfl rfl (fun d pos aft g => by unfold execOp; go_simp) ⟨_, rfl, rfl, .inr (Below.refl _ _), htr, fun _ ht => ht, fun _ _ _ => trivial⟩
    | 13, _ =>
      obtain ⟨e28, x28⟩ := Rv.ev (show a.tmps.getD 28 undef = .tuple #[.agg #[.int .i64 tx.k, .int .i64 tx.n, .string tx.s, .slice C tx.ns.length d, .slice C2 tx.is.length d2], .bool true] from hdep 11 rfl rfl)
      exact Rv.step_op (op := Go.Op.extract (Go.Operand.tmp 28) 1) (v := .bool true) (w1 := W) rfl rfl (fun d pos aft g => by unfold execOp; go_simp) ⟨_, rfl, rfl, .inr (Below.refl _ _), htr, fun _ ht => ht, fun _ _ _ => trivial⟩
    | 14, _ =>
      have hal : Below W.heap.size W (W.alloc (.cells #[.int .i64 0, .int .i64 0, .string ⟨#[]⟩, .slice none 0 0, .slice none 0 0] 26)) := (Below.refl _ _).alloc (Nat.le_refl _) _
      exact Rv.step_op (op := Go.Op.alloc 26) (ty := 0) (v := .pointer (some ⟨W.heap.size, 0, none⟩)) (w1 := W.alloc (.cells #[.int .i64 0, .int .i64 0, .string ⟨#[]⟩, .slice none 0 0, .slice none 0 0] 26)) rfl rfl (fun d pos aft g => by unfold execOp; go_simp) ⟨_, rfl, ⟨W.heap.size, rfl, heap_alloc_new W _, htr.size⟩, .inr hal, htr.trans (hal.mono htr.size), fun _ ht => ht, fun _ _ _ => trivial⟩
    | 15, _ =>
      obtain ⟨g, e13', k13, h13⟩ : ∃ (g : Nat), a.tmps.getD 13 undef = .pointer (some ⟨g, 0, none⟩) ∧ W.heap[g]? = some (.cells #[.int .i64 0, .int .i64 0, .string ⟨#[]⟩, .slice none 0 0, .slice none 0 0] 26 (0, 0)) ∧ X.heap.size ≤ g := hdep 14 rfl rfl
      obtain ⟨e13, x13⟩ := Rv.ev e13'
      obtain ⟨e40, x40⟩ := Rv.ev (show a.tmps.getD 40 undef = .agg #[.int .i64 tx.k, .int .i64 tx.n, .string tx.s, .slice C tx.ns.length d, .slice C2 tx.is.length d2] from hdep 12 rfl rfl)
      obtain ⟨s0, s1, s2, s3, s4⟩ := Rv.cells5 k13
      obtain ⟨z0, z1, z2, z3, z4⟩ := Rv.frozen5 k13
      have sb : ∀ (V : World) (j : Nat) (u : Value), Below X.heap.size W V → Below X.heap.size W (V.setCell ⟨g, j, none⟩ u) := fun V j u h => h.setCell h13 u
      exact Rv.step_skip (op := Go.Op.store 26 (Go.Operand.tmp 13) (Go.Operand.tmp 40)) (ty := 0) (w1 := (((((W.setCell ⟨g, 0, none⟩ (.int .i64 tx.k)).setCell ⟨g, 1, none⟩ (.int .i64 tx.n)).setCell ⟨g, 2, none⟩ (.string tx.s)).setCell ⟨g, 3, none⟩ (.slice C tx.ns.length d)).setCell ⟨g, 4, none⟩ (.slice C2 tx.is.length d2))) rfl rfl (fun d pos aft g => by unfold execOp; go_simp) ⟨undef, rfl, ⟨g, e13', Rv.sets5 k13 _ _ _ _ _, h13⟩, .inl ⟨rfl, trivial⟩, htr.trans (sb _ 4 (.slice C2 tx.is.length d2) (sb _ 3 (.slice C tx.ns.length d) (sb _ 2 (.string tx.s) (sb _ 1 (.int .i64 tx.n) (sb _ 0 (.int .i64 tx.k) (Below.refl X.heap.size W)))))), (fun h => by cases h), fun _ _ _ => trivial⟩
    | 16, _ =>
      obtain ⟨e41, x41⟩ := Rv.ev (show a.tmps.getD 41 undef = .bool true from hdep 13 rfl rfl)
      exact Rv.step_op (op := Go.Op.assign (Go.Operand.tmp 41)) (v := .bool true) (w1 := W) rfl rfl (fun d pos aft g => by unfold execOp; go_simp) ⟨_, rfl, rfl, .inr (Below.refl _ _), htr, fun _ ht => ht, fun _ _ _ => trivial⟩
    | m + 17, h => exact absurd h (by show ¬ m + 17 < 17; omega)
  intro W f hf htr hJ
  have f0 : f 0 = .pointer (some ⟨w.heap.size, 4, none⟩) := hf 0 (by show 0 < 17; omega) rfl
  have f1 : f 1 = .slice (some ⟨b2, o2, none⟩) is.length c2 := hf 1 (by show 1 < 17; omega) rfl
  have f2 : f 2 = .int .i64 (i1 : Int) := hf 2 (by show 2 < 17; omega) rfl
  have f3 : f 3 = .pointer (some ⟨b2, o2 + i1 * 5, none⟩) := hf 3 (by show 3 < 17; omega) rfl
  have f4 : f 4 = .agg #[.int .i64 ti.k, .int .i64 ti.n, .string ti.s, .slice A1 ti.ns.length c1, .slice A3 ti.is.length c3] := hf 4 (by show 4 < 17; omega) rfl
  have f5 : f 5 = .slice (some ⟨bl, ol, none⟩) 1 1 := hf 5 (by show 5 < 17; omega) rfl
  have f6 : f 6 = .slice (some ⟨bl, ol, none⟩) 0 0 := hf 6 (by show 6 < 17; omega) rfl
  have f7 : f 7 = .agg #[.int .i64 tx.k, .int .i64 tx.n, .string tx.s, .slice C tx.ns.length d, .slice C2 tx.is.length d2] := hf 7 (by show 7 < 17; omega) rfl
  have f8 : f 8 = .bool true := hf 8 (by show 8 < 17; omega) rfl
  have f9 : f 9 = .bool true := hf 9 (by show 9 < 17; omega) rfl
  have f10 : f 10 = .tuple #[.agg #[.int .i64 tx.k, .int .i64 tx.n, .string tx.s, .slice C tx.ns.length d, .slice C2 tx.is.length d2], .bool true] := hf 10 (by show 10 < 17; omega) rfl
  have f11 : f 11 = .tuple #[.agg #[.int .i64 tx.k, .int .i64 tx.n, .string tx.s, .slice C tx.ns.length d, .slice C2 tx.is.length d2], .bool true] := hf 11 (by show 11 < 17; omega) rfl
  have f12 : f 12 = .agg #[.int .i64 tx.k, .int .i64 tx.n, .string tx.s, .slice C tx.ns.length d, .slice C2 tx.is.length d2] := hf 12 (by show 12 < 17; omega) rfl
  have f13 : f 13 = .bool true := hf 13 (by show 13 < 17; omega) rfl
  have HS15 := Lib.hid (show (fun f W => ∃ (g : Nat), f 14 = .pointer (some ⟨g, 0, none⟩) ∧ W.heap[g]? = some (.cells #[.int .i64 tx.k, .int .i64 tx.n, .string tx.s, .slice C tx.ns.length d, .slice C2 tx.is.length d2] 26 (0, 0)) ∧ X.heap.size ≤ g) f W from hf 15 (by show 15 < 17; omega) rfl)
  have f16 : f 16 = .bool true := hf 16 (by show 16 < 17; omega) rfl
  clear hf
  refine (show ∀ (a : Act) (w : World), Code.wp _ _ _ a w → _ from by assumption) _ _ ?_
  refine Rv.fin_swap (L' := [(29, f 0), (30, f 1), (31, f 2), (32, f 3), (33, f 4), (34, f 5), (35, f 6), (36, f 7), (37, f 8), (38, f 9), (39, f 10), (28, f 11), (40, f 12), (41, f 13), (13, f 14), (1015, f 15), (14, f 16)]) rfl ?_
  rw [f0, f1, f2, f3, f4, f5, f6, f7, f8, f9, f10, f11, f12, f13, f16]
  clear f0 f1 f2 f3 f4 f5 f6 f7 f8 f9 f10 f11 f12 f13 f16
  simp only [Rv.fin, List.foldl_cons, List.foldl_nil, Act.put, List.setIfInBounds_toArray, List.set_cons_succ, List.set_cons_zero, List.set_nil]
  obtain ⟨g, q9, hg1, hg2⟩ := HS15.out
  rw [q9]
  have HX := Lib.hid (HX.out.trans (htr.mono HX.out.size))
  have HA := Lib.hid ((htr.block _ hga).trans HA.out)
  have HXB := Lib.hid ((htr.block _ hgb).trans HXB.out)
  have HZ := Lib.hid ((htr.block _ hgz).trans HZ.out)
  have HGG := Lib.hid hg1
  clear htr HS15 q9 IT PN
  obtain ⟨y0, y1, y2, y3, y4⟩ := Rv.cells5 HA.out
  obtain ⟨u0, u1, u2, u3, u4⟩ := Rv.cells5 HGG.out
  have hgz2 := Rv.lt_of_blk HZ.out
  have WA := Lib.hid (with_any E (.mk 5 n s ns is) tx _ _ i1 W (fun x hx => Nat.lt_of_lt_of_le (hE x hx) HX.out.size) (HJ.out.below HX.out) (HJX.out.below HX.out) hi h8)
  go_wp2_with (go_at_call 36; (with_reducible refine WA.out.mono ?_); rintro e w5 ⟨u, rfl, hu, hb⟩; obtain ⟨A9, c9, A8, c8, hs9, ez, hr⟩ := (show JN _ _ (.mk 5 n s ns (is.set i1 tx)) u from hu); rw [List.length_set] at ez; have HU := Lib.hid hu; rw [ez] at HU; subst ez; have HZ5 := Lib.hid ((hb.block _ hgz2).trans HZ.out); have HB5 := Lib.hid (HX.out.trans (hb.mono HX.out.size)); obtain ⟨s0, s1, s2, s3, s4⟩ := Rv.cells5 HZ5.out; obtain ⟨z0, z1, z2, z3, z4⟩ := Rv.frozen5 HZ5.out; clear hu hb hr)
  have gs := fun (W : World) j u => grown_set (Below.refl _ W) (w.heap.size + 1 + 1) j u
  have hgg := (grown_then (grown_then (grown_then (grown_then (gs w5 0 (.int .i64 5)) (gs _ 1 (.int .i64 n))) (gs _ 2 (.string s))) (gs _ 3 (.slice A9 ns.length c9))) (gs _ 4 (.slice A8 is.length c8)))
  have sb : ∀ (V : World) (j : Nat) (u : Value), Below w.heap.size w V → Below w.heap.size w (V.setCell ⟨w.heap.size + 1 + 1, j, none⟩ u) := fun V j u h => h.setCell (by show w.heap.size ≤ w.heap.size + 1 + 1; omega) u
  have HBF := Lib.hid (sb _ 4 (.slice A8 is.length c8) (sb _ 3 (.slice A9 ns.length c9) (sb _ 2 (.string s) (sb _ 1 (.int .i64 n) (sb _ 0 (.int .i64 5) HB5.out)))))
  have HJF := Lib.hid ((HU.out.grown hgg (fun x hx e => by injection e with e; rcases hx with hx | hx; have := hE _ hx; omega; omega)).weak (q := fun x => E x ∨ w.heap.size ≤ x) (fun x _ hx => hx.imp id (fun h => by have := HX.out.size; omega)))
  obtain ⟨q0, q1, q2, q3, q4⟩ := Rv.cells5 (Rv.sets5 HZ5.out (.int .i64 5) (.int .i64 n) (.string s) (.slice A9 ns.length c9) (.slice A8 is.length c8))
  clear y0 y1 y2 y3 y4 u0 u1 u2 u3 u4 s0 s1 s2 s3 s4 z0 z1 z2 z3 z4 gs hgg sb
  refine bodyPost_ret (v := .tuple #[.agg #[.int .i64 5, .int .i64 n, .string s, .slice A9 ns.length c9, .slice A8 is.length c8], .bool true]) ?_ rfl ⟨_, rfl, HJF.out, HBF.out⟩
  simp only [results, show Try.f25.results = #[.cell 10 26, .tmp 11] by kernel_rfl]
  go_simp
end Go.Proofs.Ytmelgankbegjaaa.Js

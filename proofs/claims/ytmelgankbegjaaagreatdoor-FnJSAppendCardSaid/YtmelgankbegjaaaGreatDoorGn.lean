/- Part n of the chain. Conditions: those written at each lemma. -/
import Derived.Test.YtmelgankbegjaaaGreatDoorGm
import Derived.Test.YtmelgankbegjaaaGreatDoorGh
set_option linter.unusedVariables false
set_option linter.unusedSimpArgs false
set_option maxRecDepth 100000
set_option maxHeartbeats 8000000
namespace Go.Proofs.YtmelgankbegjaaaGreatDoor.Js
open Go.RowKit Go.Proofs.YtmelgankbegjaaaGreatDoor.B

theorem put_new (E : Nat → Prop) (n : Int) (s : ByteArray) (ns : List ByteArray) (is : List J) (tx : J) (v vx : Value) (x : ByteArray) (si : Nat) (bl ol cl : Nat) (w : World) (hE : ∀ x, E x → x < w.heap.size) (hj : JN E w (.mk 5 n s ns is) v) (hx : JN E w tx vx)
    (h8 : is.length ≤ 8) (hn8 : ns.length ≤ 8) (hK : fI (.mk 5 n s ns is) ⟨x, si, false⟩ = -1) (hl : Rd w 3 (.slice (some ⟨bl, ol, none⟩) 1 cl) 1 (stc [⟨x, si, false⟩])) :
    Calls Tryz.prog 11 #[v, .slice (some ⟨bl, ol, none⟩) 1 cl, vx, .bool true, .bool true] w (OutP E (.mk 5 n s (ns ++ [x]) (is ++ [tx])) w) := by
  have hj0 := hj
  obtain ⟨A, c, A2, c2, hs, rfl, hn, hI, hH⟩ := hj0
  obtain ⟨C, d, C2, d2, rfl, _⟩ := hx.five
  obtain ⟨bl', ol', ea, hbl, l0, l1, l2⟩ := st_at (l := [(⟨x, si, false⟩ : Sp)]) hl 0 (by simp)
  (injection ea with ea); (injection ea with ea1 ea2 _); subst ea1; subst ea2
  rw [Nat.zero_mul, Nat.add_zero] at l0 l1 l2
  simp only [List.getElem_cons_zero] at l0 l1 l2
  have HA := Lib.hid (old_blk (o := .cells #[.int .i64 0, .int .i64 0, .string ⟨#[]⟩, .slice none 0 0, .slice none 0 0] 26) (old_blk (o := .cells #[.int .i64 tx.k, .int .i64 tx.n, .string tx.s, .slice C tx.ns.length d, .slice C2 tx.is.length d2] 26) (heap_alloc_new w (.cells #[.int .i64 5, .int .i64 n, .string s, .slice A ns.length c, .slice A2 is.length c2] 26))))
  have HXB := Lib.hid (old_blk (o := .cells #[.int .i64 0, .int .i64 0, .string ⟨#[]⟩, .slice none 0 0, .slice none 0 0] 26) (show ((w.alloc (.cells #[.int .i64 5, .int .i64 n, .string s, .slice A ns.length c, .slice A2 is.length c2] 26)).alloc (.cells #[.int .i64 tx.k, .int .i64 tx.n, .string tx.s, .slice C tx.ns.length d, .slice C2 tx.is.length d2] 26)).heap[w.heap.size + 1]? = some (.cells #[.int .i64 tx.k, .int .i64 tx.n, .string tx.s, .slice C tx.ns.length d, .slice C2 tx.is.length d2] 26 (0, 0)) from by
    have := heap_alloc_new (w.alloc (.cells #[.int .i64 5, .int .i64 n, .string s, .slice A ns.length c, .slice A2 is.length c2] 26)) (.cells #[.int .i64 tx.k, .int .i64 tx.n, .string tx.s, .slice C tx.ns.length d, .slice C2 tx.is.length d2] 26)
    simpa using this))
  have HZ := Lib.hid (show (((w.alloc (.cells #[.int .i64 5, .int .i64 n, .string s, .slice A ns.length c, .slice A2 is.length c2] 26)).alloc (.cells #[.int .i64 tx.k, .int .i64 tx.n, .string tx.s, .slice C tx.ns.length d, .slice C2 tx.is.length d2] 26)).alloc (.cells #[.int .i64 0, .int .i64 0, .string ⟨#[]⟩, .slice none 0 0, .slice none 0 0] 26)).heap[w.heap.size + 1 + 1]? = some (.cells #[.int .i64 0, .int .i64 0, .string ⟨#[]⟩, .slice none 0 0, .slice none 0 0] 26 (0, 0)) from by
    have := heap_alloc_new ((w.alloc (.cells #[.int .i64 5, .int .i64 n, .string s, .slice A ns.length c, .slice A2 is.length c2] 26)).alloc (.cells #[.int .i64 tx.k, .int .i64 tx.n, .string tx.s, .slice C tx.ns.length d, .slice C2 tx.is.length d2] 26)) (.cells #[.int .i64 0, .int .i64 0, .string ⟨#[]⟩, .slice none 0 0, .slice none 0 0] 26)
    simpa using this)
  have hX : Below w.heap.size w (((w.alloc (.cells #[.int .i64 5, .int .i64 n, .string s, .slice A ns.length c, .slice A2 is.length c2] 26)).alloc (.cells #[.int .i64 tx.k, .int .i64 tx.n, .string tx.s, .slice C tx.ns.length d, .slice C2 tx.is.length d2] 26)).alloc (.cells #[.int .i64 0, .int .i64 0, .string ⟨#[]⟩, .slice none 0 0, .slice none 0 0] 26)) := (((Below.refl _ _).alloc (Nat.le_refl _) _).alloc (by simp) _).alloc (by simp; omega) _
  have HX := Lib.hid hX
  have HJX := Lib.hid hx
  have HJ := Lib.hid hj
  have HHW := Lib.hid hH
  have HES := Lib.hid hE
  have HRN := Lib.hid (fun (W : World) (hb : Below w.heap.size w W) => hn.1.below hb)
  have HRI := Lib.hid (fun (W : World) (hb : Below w.heap.size w W) => hI.1.below hb)
  have HNR := Lib.hid hn
  have HFC := Lib.hid (flat_cells hH)
  have HXC := Lib.hid (show ∀ u ∈ ([.int .i64 tx.k, .int .i64 tx.n, .string tx.s, .slice C tx.ns.length d, .slice C2 tx.is.length d2] : List Value), u.oneCell' = true from by simp [Value.oneCell'])
  have HLW := Lib.hid (fun (W : World) (hb : Below w.heap.size w W) => show W.cell? ⟨bl, ol, none⟩ = some (.string x) ∧ W.cell? ⟨bl, ol + 1, none⟩ = some (.int .i64 (si : Int)) ∧ W.cell? ⟨bl, ol + 2, none⟩ = some (.bool false) from
    ⟨(hb.cell (p := ⟨bl, ol, none⟩) hbl).trans l0, (hb.cell (p := ⟨bl, ol + 1, none⟩) hbl).trans l1, (hb.cell (p := ⟨bl, ol + 2, none⟩) hbl).trans l2⟩)
  have FIW := Lib.hid (fun (W : World) (hb : Below w.heap.size w W) => show Calls Tryz.prog 24 #[.agg #[.int .i64 5, .int .i64 n, .string s, .slice A ns.length c, .slice A2 is.length c2], .agg #[.string x, .int .i64 (si : Int), .bool false]] W fun e w' => e = .returned (.int .i64 (-1)) ∧ Below W.heap.size W w' from by
    have h := find_sp (.mk 5 n s ns is) _ _ ⟨x, si, false⟩ W (hj.below hb) hn8 h8
    rwa [hK] at h)
  have HXS := Lib.hid (show w.heap.size + 1 + 1 + 1 ≤ (((w.alloc (.cells #[.int .i64 5, .int .i64 n, .string s, .slice A ns.length c, .slice A2 is.length c2] 26)).alloc (.cells #[.int .i64 tx.k, .int .i64 tx.n, .string tx.s, .slice C tx.ns.length d, .slice C2 tx.is.length d2] 26)).alloc (.cells #[.int .i64 0, .int .i64 0, .string ⟨#[]⟩, .slice none 0 0, .slice none 0 0] 26)).heap.size by simp)
  clear hj hx hn hI hH hX hl hK l0 l1 l2
  go_enter Tryz.func11, Tryz.ntmps11
  go_upto_region 5 with fail
  generalize ((w.alloc (.cells #[.int .i64 5, .int .i64 n, .string s, .slice A ns.length c, .slice A2 is.length c2] 26)).alloc (.cells #[.int .i64 tx.k, .int .i64 tx.n, .string tx.s, .slice C tx.ns.length d, .slice C2 tx.is.length d2] 26)).alloc (.cells #[.int .i64 0, .int .i64 0, .string ⟨#[]⟩, .slice none 0 0, .slice none 0 0] 26) = X at *
  have hga := Rv.lt_of_blk HA.out
  have hgb := Rv.lt_of_blk HXB.out
  have hgz := Rv.lt_of_blk HZ.out
  have FI := Lib.hid (fun (W : World) (hb : Below X.heap.size X W) => FIW.out W (HX.out.trans (hb.mono HX.out.size)))
  have HL := Lib.hid (fun (W : World) (hb : Below X.heap.size X W) => HLW.out W (HX.out.trans (hb.mono HX.out.size)))
  refine Rv.region_goods (n := 102) (by kernel_rfl) #[21, 22, 23, 24, 25, 12] #[] (fun i v W => v = (#[.agg #[.int .i64 5, .int .i64 n, .string s, .slice A ns.length c, .slice A2 is.length c2], .slice (some ⟨bl, ol, none⟩) 1 cl, .pointer (some ⟨bl, ol, none⟩), .agg #[.string x, .int .i64 (si : Int), .bool false], .int .i64 (-1), .int .i64 (-1)] : Array Value).getD i undef) (fun i v w w' h hb => ?_) (fun i h g b hg => ?_) rfl (by kernel_rfl) (by kernel_rfl) (fun i h hr w => ?_) ?_ ?_
  · exact h
  · match i, h, hg with
    | 0, _, hg => cases hg
    | 1, _, hg => cases hg
    | 2, _, hg => cases hg
    | 3, _, hg => cases hg
    | 4, _, hg => cases hg
    | 5, _, hg => cases hg
    | m + 6, h, _ => exact absurd h (by show ¬ m + 6 < 6; omega)
  · match i, h, hr with
    | 0, _, hr => exact Bool.noConfusion (show true = false from hr)
    | 1, _, hr => exact Bool.noConfusion (show true = false from hr)
    | 2, _, hr => exact Bool.noConfusion (show true = false from hr)
    | 3, _, hr => exact Bool.noConfusion (show true = false from hr)
    | 4, _, hr => exact Bool.noConfusion (show true = false from hr)
    | 5, _, hr => exact Bool.noConfusion (show true = false from hr)
    | m + 6, h, _ => exact absurd h (by show ¬ m + 6 < 6; omega)
  · intro i h a W hrun hbase hpre hdep htr
    obtain ⟨y0, y1, y2, y3, y4⟩ := Rv.cells5 ((htr.block _ hga).trans HA.out)
    obtain ⟨l0, l1, l2⟩ := HL.out W htr
    match i, h with
    | 0, _ =>
      obtain ⟨e5, x5⟩ := Rv.ev (show a.tmps.getD 5 undef = .pointer (some ⟨w.heap.size, 0, none⟩) from hbase 5 rfl)
      exact Rv.step_op (op := Go.Op.load 26 (Go.Operand.tmp 5)) (v := .agg #[.int .i64 5, .int .i64 n, .string s, .slice A ns.length c, .slice A2 is.length c2]) (w1 := W) rfl rfl (fun d pos aft g => by unfold execOp; go_simp) ⟨_, rfl, rfl, Below.refl _ _⟩
    | 1, _ =>
      obtain ⟨e1, x1⟩ := Rv.ev (show a.tmps.getD 1 undef = .slice (some ⟨bl, ol, none⟩) 1 cl from hbase 1 rfl)
      exact Rv.step_op (op := Go.Op.move (Go.Operand.tmp 1)) (v := .slice (some ⟨bl, ol, none⟩) 1 cl) (w1 := W) rfl rfl (fun d pos aft g => by unfold execOp; go_simp) ⟨_, rfl, rfl, Below.refl _ _⟩
    | 2, _ =>
      obtain ⟨e22, x22⟩ := Rv.ev (show a.tmps.getD 22 undef = .slice (some ⟨bl, ol, none⟩) 1 cl from hdep 1 rfl)
      exact Rv.step_op (op := Go.Op.indexAddr 28 (Go.Operand.tmp 22) (Go.Operand.const (Go.Value.int Go.IntKind.i64 0))) (v := .pointer (some ⟨bl, ol, none⟩)) (w1 := W) rfl rfl (fun d pos aft g => by unfold execOp; go_simp) ⟨_, rfl, rfl, Below.refl _ _⟩
    | 3, _ =>
      obtain ⟨e23, x23⟩ := Rv.ev (show a.tmps.getD 23 undef = .pointer (some ⟨bl, ol, none⟩) from hdep 2 rfl)
      exact Rv.step_op (op := Go.Op.load 51 (Go.Operand.tmp 23)) (v := .agg #[.string x, .int .i64 (si : Int), .bool false]) (w1 := W) rfl rfl (fun d pos aft g => by unfold execOp; go_simp) ⟨_, rfl, rfl, Below.refl _ _⟩
    | 4, _ =>
      obtain ⟨e21, x21⟩ := Rv.ev (show a.tmps.getD 21 undef = .agg #[.int .i64 5, .int .i64 n, .string s, .slice A ns.length c, .slice A2 is.length c2] from hdep 0 rfl)
      obtain ⟨e24, x24⟩ := Rv.ev (show a.tmps.getD 24 undef = .agg #[.string x, .int .i64 (si : Int), .bool false] from hdep 3 rfl)
      have cf : ∀ x0 x1 W, (callFunc 24 #[x0, x1]).run Tryz.prog W = .ok (.enter 24 #[x0, x1]) W := fun _ _ _ => by kernel_rfl
      refine Rv.step_fn (op := Go.Op.call { callee := Go.Callee.value (Go.Operand.func 24), args := #[Go.Operand.tmp 21, Go.Operand.tmp 24], argTypes := #[26, 51] }) (f := 24) (args := #[.agg #[.int .i64 5, .int .i64 n, .string s, .slice A ns.length c, .slice A2 is.length c2], .agg #[.string x, .int .i64 (si : Int), .bool false]]) (R := fun v W' => v = .int .i64 (-1) ∧ Below W.heap.size W W') rfl rfl (fun d pos aft g => by unfold execOp; go_simp) ((FI.out W htr).mono ?_) ?_
      · (rintro e W' ⟨rfl, hb⟩; exact ⟨_, rfl, rfl, hb⟩)
      · (rintro v W' ⟨rfl, hb⟩; exact ⟨_, rfl, rfl, hb⟩)
    | 5, _ =>
      obtain ⟨e25, x25⟩ := Rv.ev (show a.tmps.getD 25 undef = .int .i64 (-1) from hdep 4 rfl)
      exact Rv.step_op (op := Go.Op.assign (Go.Operand.tmp 25)) (v := .int .i64 (-1)) (w1 := W) rfl rfl (fun d pos aft g => by unfold execOp; go_simp) ⟨_, rfl, rfl, Below.refl _ _⟩
    | m + 6, h => exact absurd h (by show ¬ m + 6 < 6; omega)
  intro W f hf htr
  have f0 : f 0 = .agg #[.int .i64 5, .int .i64 n, .string s, .slice A ns.length c, .slice A2 is.length c2] := hf 0 (by show 0 < 6; omega)
  have f1 : f 1 = .slice (some ⟨bl, ol, none⟩) 1 cl := hf 1 (by show 1 < 6; omega)
  have f2 : f 2 = .pointer (some ⟨bl, ol, none⟩) := hf 2 (by show 2 < 6; omega)
  have f3 : f 3 = .agg #[.string x, .int .i64 (si : Int), .bool false] := hf 3 (by show 3 < 6; omega)
  have f4 : f 4 = .int .i64 (-1) := hf 4 (by show 4 < 6; omega)
  have f5 : f 5 = .int .i64 (-1) := hf 5 (by show 5 < 6; omega)
  refine (show ∀ (a : Act) (w : World), Code.wp _ _ _ a w → _ from by assumption) _ _ ?_
  refine Rv.fin_swap (L' := [(21, f 0), (22, f 1), (23, f 2), (24, f 3), (25, f 4), (12, f 5)]) rfl ?_
  rw [f0, f1, f2, f3, f4, f5]
  clear f0 f1 f2 f3 f4 f5
  simp only [Rv.fin, List.foldl_cons, List.foldl_nil, Act.put, List.setIfInBounds_toArray, List.set_cons_succ, List.set_cons_zero]
  have HX := Lib.hid (HX.out.trans (htr.mono HX.out.size))
  have HA := Lib.hid ((htr.block _ hga).trans HA.out)
  have HXB := Lib.hid ((htr.block _ hgb).trans HXB.out)
  have HZ := Lib.hid ((htr.block _ hgz).trans HZ.out)
  clear hf htr HL hga hgb hgz
  clear FI FIW
  go_upto_region 9 with fail
  rename World => X1
  generalize X1 = X at *
  have hga := Rv.lt_of_blk HA.out
  have hgb := Rv.lt_of_blk HXB.out
  have hgz := Rv.lt_of_blk HZ.out
  have HL := Lib.hid (fun (W : World) (hb : Below X.heap.size X W) => HLW.out W (HX.out.trans (hb.mono HX.out.size)))
  refine Rv.region_goods (n := 102) (by kernel_rfl) #[47, 48, 49, 50, 51, 52, 53, 54, 55, 56, 57, 58, 59, 60, 61, 62, 63, 64, 65, 66, 67, 68, 69, 70, 71, 72, 73, 74, 75] #[none, none, none, some false, none, none, none, some false, none, none, none, none, none, none, none, none, none, some false, none, none, none, none, none, some true] (fun i v W => v = (#[.slice (some ⟨bl, ol, none⟩) 1 cl, .int .i64 1, .bool false, .bool false, .bool true, .bool false, .bool false, .bool false, .slice (some ⟨bl, ol, none⟩) 1 cl, .pointer (some ⟨bl, ol, none⟩), .pointer (some ⟨bl, ol + 2, none⟩), .bool false, .pointer (some ⟨w.heap.size, 0, none⟩), .int .i64 5, .bool false, .bool false, .bool false, .bool false, .slice (some ⟨bl, ol, none⟩) 1 cl, .pointer (some ⟨bl, ol, none⟩), .pointer (some ⟨bl, ol + 2, none⟩), .bool false, .bool true, .bool true, .pointer (some ⟨w.heap.size, 0, none⟩), .int .i64 5, .bool false, .bool false, .bool false] : Array Value).getD i undef) (fun i v w w' h hb => ?_) (fun i h g b hg => ?_) rfl (by kernel_rfl) (by kernel_rfl) (fun i h hr w => ?_) ?_ ?_
  · exact h
  · match i, h, hg with
    | 0, _, hg => cases hg
    | 1, _, hg => cases hg
    | 2, _, hg => cases hg
    | 3, _, hg => cases hg
    | 4, _, hg => (cases hg; exact fun v w e => e)
    | 5, _, hg => (cases hg; exact fun v w e => e)
    | 6, _, hg => cases hg
    | 7, _, hg => cases hg
    | 8, _, hg => (cases hg; exact fun v w e => e)
    | 9, _, hg => (cases hg; exact fun v w e => e)
    | 10, _, hg => (cases hg; exact fun v w e => e)
    | 11, _, hg => (cases hg; exact fun v w e => e)
    | 12, _, hg => (cases hg; exact fun v w e => e)
    | 13, _, hg => (cases hg; exact fun v w e => e)
    | 14, _, hg => (cases hg; exact fun v w e => e)
    | 15, _, hg => (cases hg; exact fun v w e => e)
    | 16, _, hg => cases hg
    | 17, _, hg => cases hg
    | 18, _, hg => (cases hg; exact fun v w e => e)
    | 19, _, hg => (cases hg; exact fun v w e => e)
    | 20, _, hg => (cases hg; exact fun v w e => e)
    | 21, _, hg => (cases hg; exact fun v w e => e)
    | 22, _, hg => (cases hg; exact fun v w e => e)
    | 23, _, hg => (cases hg; exact fun v w e => e)
    | 24, _, hg => (cases hg; exact fun v w e => e)
    | 25, _, hg => (cases hg; exact fun v w e => e)
    | 26, _, hg => (cases hg; exact fun v w e => e)
    | 27, _, hg => (cases hg; exact fun v w e => e)
    | 28, _, hg => cases hg
    | m + 29, h, _ => exact absurd h (by show ¬ m + 29 < 29; omega)
  · match i, h, hr with
    | 0, _, hr => exact Bool.noConfusion (show true = false from hr)
    | 1, _, hr => exact Bool.noConfusion (show true = false from hr)
    | 2, _, hr => exact Bool.noConfusion (show true = false from hr)
    | 3, _, hr => exact Bool.noConfusion (show true = false from hr)
    | 4, _, hr => exact Bool.noConfusion (show true = false from hr)
    | 5, _, hr => exact Bool.noConfusion (show true = false from hr)
    | 6, _, hr => exact Bool.noConfusion (show true = false from hr)
    | 7, _, hr => exact Bool.noConfusion (show true = false from hr)
    | 8, _, hr => exact Bool.noConfusion (show true = false from hr)
    | 9, _, hr => exact Bool.noConfusion (show true = false from hr)
    | 10, _, hr => exact Bool.noConfusion (show true = false from hr)
    | 11, _, hr => exact Bool.noConfusion (show true = false from hr)
    | 12, _, hr => exact Bool.noConfusion (show true = false from hr)
    | 13, _, hr => exact Bool.noConfusion (show true = false from hr)
    | 14, _, hr => exact Bool.noConfusion (show true = false from hr)
    | 15, _, hr => exact Bool.noConfusion (show true = false from hr)
    | 16, _, hr => exact Bool.noConfusion (show true = false from hr)
    | 17, _, hr => exact Bool.noConfusion (show true = false from hr)
    | 18, _, hr => exact Bool.noConfusion (show true = false from hr)
    | 19, _, hr => exact Bool.noConfusion (show true = false from hr)
    | 20, _, hr => exact Bool.noConfusion (show true = false from hr)
    | 21, _, hr => exact Bool.noConfusion (show true = false from hr)
    | 22, _, hr => exact Bool.noConfusion (show true = false from hr)
    | 23, _, hr => exact Bool.noConfusion (show true = false from hr)
    | 24, _, hr => exact Bool.noConfusion (show true = false from hr)
    | 25, _, hr => exact Bool.noConfusion (show true = false from hr)
    | 26, _, hr => exact Bool.noConfusion (show true = false from hr)
    | 27, _, hr => exact Bool.noConfusion (show true = false from hr)
    | 28, _, hr => exact Bool.noConfusion (show true = false from hr)
    | m + 29, h, _ => exact absurd h (by show ¬ m + 29 < 29; omega)
  · intro i h a W hrun hbase hpre hdep htr
    obtain ⟨y0, y1, y2, y3, y4⟩ := Rv.cells5 ((htr.block _ hga).trans HA.out)
    obtain ⟨l0, l1, l2⟩ := HL.out W htr
    match i, h with
    | 0, _ =>
      obtain ⟨e1, x1⟩ := Rv.ev (show a.tmps.getD 1 undef = .slice (some ⟨bl, ol, none⟩) 1 cl from hbase 1 rfl)
      exact Rv.step_op (op := Go.Op.move (Go.Operand.tmp 1)) (v := .slice (some ⟨bl, ol, none⟩) 1 cl) (w1 := W) rfl rfl (fun d pos aft g => by unfold execOp; go_simp) ⟨_, rfl, rfl, Below.refl _ _⟩
    | 1, _ =>
      obtain ⟨e47, x47⟩ := Rv.ev (show a.tmps.getD 47 undef = .slice (some ⟨bl, ol, none⟩) 1 cl from hdep 0 rfl)
      exact Rv.step_op (op := Go.Op.call { callee := Go.Callee.builtin Go.Builtin.len, args := #[Go.Operand.tmp 47], argTypes := #[28] }) (v := .int .i64 1) (w1 := W) rfl rfl (fun d pos aft g => by unfold execOp; go_simp) ⟨_, rfl, rfl, Below.refl _ _⟩
    | 2, _ =>
      obtain ⟨e48, x48⟩ := Rv.ev (show a.tmps.getD 48 undef = .int .i64 1 from hdep 1 rfl)
      exact Rv.step_op (op := Go.Op.binOp Go.BinOp.gtr 3 (Go.Operand.tmp 48) (Go.Operand.const (Go.Value.int Go.IntKind.i64 1)) 3) (v := .bool false) (w1 := W) rfl rfl (fun d pos aft g => by unfold execOp; go_simp) ⟨_, rfl, rfl, Below.refl _ _⟩
    | 3, _ =>
      obtain ⟨e49, x49⟩ := Rv.ev (show a.tmps.getD 49 undef = .bool false from hdep 2 rfl)
      exact Rv.step_op (op := Go.Op.move (Go.Operand.tmp 49)) (v := .bool false) (w1 := W) rfl rfl (fun d pos aft g => by unfold execOp; go_simp) ⟨_, rfl, rfl, Below.refl _ _⟩
    | 4, _ =>
      obtain ⟨e4, x4⟩ := Rv.ev (show a.tmps.getD 4 undef = .bool true from hbase 4 rfl)
      exact Rv.step_op (op := Go.Op.move (Go.Operand.tmp 4)) (v := .bool true) (w1 := W) rfl rfl (fun d pos aft g => by unfold execOp; go_simp) ⟨_, rfl, rfl, Below.refl _ _⟩
    | 5, _ =>
      obtain ⟨e51, x51⟩ := Rv.ev (show a.tmps.getD 51 undef = .bool true from hdep 4 rfl)
      exact Rv.step_op (op := Go.Op.unOp Go.UnOp.not 4 (Go.Operand.tmp 51)) (v := .bool false) (w1 := W) rfl rfl (fun d pos aft g => by unfold execOp; go_simp) ⟨_, rfl, rfl, Below.refl _ _⟩
    | 6, _ =>
      obtain ⟨e50, x50⟩ := Rv.ev (show a.tmps.getD 50 undef = .bool false from hdep 3 rfl)
      obtain ⟨e52, x52⟩ := Rv.ev (show a.tmps.getD 52 undef = .bool false from hdep 5 rfl)
      exact Rv.step_op (op := Go.Op.pick (Go.Operand.tmp 50) (Go.Operand.const (Go.Value.bool true)) (Go.Operand.tmp 52)) (v := .bool false) (w1 := W) rfl rfl (fun d pos aft g => by unfold execOp; go_simp) ⟨_, rfl, rfl, Below.refl _ _⟩
    | 7, _ =>
      obtain ⟨e53, x53⟩ := Rv.ev (show a.tmps.getD 53 undef = .bool false from hdep 6 rfl)
      exact Rv.step_op (op := Go.Op.move (Go.Operand.tmp 53)) (v := .bool false) (w1 := W) rfl rfl (fun d pos aft g => by unfold execOp; go_simp) ⟨_, rfl, rfl, Below.refl _ _⟩
    | 8, _ =>
      obtain ⟨e1, x1⟩ := Rv.ev (show a.tmps.getD 1 undef = .slice (some ⟨bl, ol, none⟩) 1 cl from hbase 1 rfl)
      exact Rv.step_op (op := Go.Op.move (Go.Operand.tmp 1)) (v := .slice (some ⟨bl, ol, none⟩) 1 cl) (w1 := W) rfl rfl (fun d pos aft g => by unfold execOp; go_simp) ⟨_, rfl, rfl, Below.refl _ _⟩
    | 9, _ =>
      obtain ⟨e55, x55⟩ := Rv.ev (show a.tmps.getD 55 undef = .slice (some ⟨bl, ol, none⟩) 1 cl from hdep 8 rfl)
      exact Rv.step_op (op := Go.Op.indexAddr 28 (Go.Operand.tmp 55) (Go.Operand.const (Go.Value.int Go.IntKind.i64 0))) (v := .pointer (some ⟨bl, ol, none⟩)) (w1 := W) rfl rfl (fun d pos aft g => by unfold execOp; go_simp) ⟨_, rfl, rfl, Below.refl _ _⟩
    | 10, _ =>
      obtain ⟨e56, x56⟩ := Rv.ev (show a.tmps.getD 56 undef = .pointer (some ⟨bl, ol, none⟩) from hdep 9 rfl)
      exact Rv.step_op (op := Go.Op.fieldAddr 51 (Go.Operand.tmp 56) 2) (v := .pointer (some ⟨bl, ol + 2, none⟩)) (w1 := W) rfl rfl (fun d pos aft g => by unfold execOp; go_simp) ⟨_, rfl, rfl, Below.refl _ _⟩
    | 11, _ =>
      obtain ⟨e57, x57⟩ := Rv.ev (show a.tmps.getD 57 undef = .pointer (some ⟨bl, ol + 2, none⟩) from hdep 10 rfl)
      exact Rv.step_op (op := Go.Op.load 4 (Go.Operand.tmp 57)) (v := .bool false) (w1 := W) rfl rfl (fun d pos aft g => by unfold execOp; go_simp) ⟨_, rfl, rfl, Below.refl _ _⟩
    | 12, _ =>
      obtain ⟨e5, x5⟩ := Rv.ev (show a.tmps.getD 5 undef = .pointer (some ⟨w.heap.size, 0, none⟩) from hbase 5 rfl)
      exact Rv.step_op (op := Go.Op.fieldAddr 26 (Go.Operand.tmp 5) 0) (v := .pointer (some ⟨w.heap.size, 0, none⟩)) (w1 := W) rfl rfl (fun d pos aft g => by unfold execOp; go_simp) ⟨_, rfl, rfl, Below.refl _ _⟩
    | 13, _ =>
      obtain ⟨e59, x59⟩ := Rv.ev (show a.tmps.getD 59 undef = .pointer (some ⟨w.heap.size, 0, none⟩) from hdep 12 rfl)
      exact Rv.step_op (op := Go.Op.load 3 (Go.Operand.tmp 59)) (v := .int .i64 5) (w1 := W) rfl rfl (fun d pos aft g => by unfold execOp; go_simp) ⟨_, rfl, rfl, Below.refl _ _⟩
    | 14, _ =>
      obtain ⟨e60, x60⟩ := Rv.ev (show a.tmps.getD 60 undef = .int .i64 5 from hdep 13 rfl)
      exact Rv.step_op (op := Go.Op.binOp Go.BinOp.eql 3 (Go.Operand.tmp 60) (Go.Operand.const (Go.Value.int Go.IntKind.i64 4)) 3) (v := .bool false) (w1 := W) rfl rfl (fun d pos aft g => by unfold execOp; go_simp) ⟨_, rfl, rfl, Below.refl _ _⟩
    | 15, _ =>
      obtain ⟨e58, x58⟩ := Rv.ev (show a.tmps.getD 58 undef = .bool false from hdep 11 rfl)
      obtain ⟨e61, x61⟩ := Rv.ev (show a.tmps.getD 61 undef = .bool false from hdep 14 rfl)
      exact Rv.step_op (op := Go.Op.binOp Go.BinOp.neq 4 (Go.Operand.tmp 58) (Go.Operand.tmp 61) 4) (v := .bool false) (w1 := W) rfl rfl (fun d pos aft g => by unfold execOp; go_simp) ⟨_, rfl, rfl, Below.refl _ _⟩
    | 16, _ =>
      obtain ⟨e54, x54⟩ := Rv.ev (show a.tmps.getD 54 undef = .bool false from hdep 7 rfl)
      obtain ⟨e62, x62⟩ := Rv.ev (show a.tmps.getD 62 undef = .bool false from hdep 15 rfl)
      exact Rv.step_op (op := Go.Op.pick (Go.Operand.tmp 54) (Go.Operand.const (Go.Value.bool true)) (Go.Operand.tmp 62)) (v := .bool false) (w1 := W) rfl rfl (fun d pos aft g => by unfold execOp; go_simp) ⟨_, rfl, rfl, Below.refl _ _⟩
    | 17, _ =>
      obtain ⟨e63, x63⟩ := Rv.ev (show a.tmps.getD 63 undef = .bool false from hdep 16 rfl)
      exact Rv.step_op (op := Go.Op.move (Go.Operand.tmp 63)) (v := .bool false) (w1 := W) rfl rfl (fun d pos aft g => by unfold execOp; go_simp) ⟨_, rfl, rfl, Below.refl _ _⟩
    | 18, _ =>
      obtain ⟨e1, x1⟩ := Rv.ev (show a.tmps.getD 1 undef = .slice (some ⟨bl, ol, none⟩) 1 cl from hbase 1 rfl)
      exact Rv.step_op (op := Go.Op.move (Go.Operand.tmp 1)) (v := .slice (some ⟨bl, ol, none⟩) 1 cl) (w1 := W) rfl rfl (fun d pos aft g => by unfold execOp; go_simp) ⟨_, rfl, rfl, Below.refl _ _⟩
    | 19, _ =>
      obtain ⟨e65, x65⟩ := Rv.ev (show a.tmps.getD 65 undef = .slice (some ⟨bl, ol, none⟩) 1 cl from hdep 18 rfl)
      exact Rv.step_op (op := Go.Op.indexAddr 28 (Go.Operand.tmp 65) (Go.Operand.const (Go.Value.int Go.IntKind.i64 0))) (v := .pointer (some ⟨bl, ol, none⟩)) (w1 := W) rfl rfl (fun d pos aft g => by unfold execOp; go_simp) ⟨_, rfl, rfl, Below.refl _ _⟩
    | 20, _ =>
      obtain ⟨e66, x66⟩ := Rv.ev (show a.tmps.getD 66 undef = .pointer (some ⟨bl, ol, none⟩) from hdep 19 rfl)
      exact Rv.step_op (op := Go.Op.fieldAddr 51 (Go.Operand.tmp 66) 2) (v := .pointer (some ⟨bl, ol + 2, none⟩)) (w1 := W) rfl rfl (fun d pos aft g => by unfold execOp; go_simp) ⟨_, rfl, rfl, Below.refl _ _⟩
    | 21, _ =>
      obtain ⟨e67, x67⟩ := Rv.ev (show a.tmps.getD 67 undef = .pointer (some ⟨bl, ol + 2, none⟩) from hdep 20 rfl)
      exact Rv.step_op (op := Go.Op.load 4 (Go.Operand.tmp 67)) (v := .bool false) (w1 := W) rfl rfl (fun d pos aft g => by unfold execOp; go_simp) ⟨_, rfl, rfl, Below.refl _ _⟩
    | 22, _ =>
      obtain ⟨e68, x68⟩ := Rv.ev (show a.tmps.getD 68 undef = .bool false from hdep 21 rfl)
      exact Rv.step_op (op := Go.Op.unOp Go.UnOp.not 4 (Go.Operand.tmp 68)) (v := .bool true) (w1 := W) rfl rfl (fun d pos aft g => by unfold execOp; go_simp) ⟨_, rfl, rfl, Below.refl _ _⟩
    | 23, _ =>
      obtain ⟨e69, x69⟩ := Rv.ev (show a.tmps.getD 69 undef = .bool true from hdep 22 rfl)
      exact Rv.step_op (op := Go.Op.move (Go.Operand.tmp 69)) (v := .bool true) (w1 := W) rfl rfl (fun d pos aft g => by unfold execOp; go_simp) ⟨_, rfl, rfl, Below.refl _ _⟩
    | 24, _ =>
      obtain ⟨e5, x5⟩ := Rv.ev (show a.tmps.getD 5 undef = .pointer (some ⟨w.heap.size, 0, none⟩) from hbase 5 rfl)
      exact Rv.step_op (op := Go.Op.fieldAddr 26 (Go.Operand.tmp 5) 0) (v := .pointer (some ⟨w.heap.size, 0, none⟩)) (w1 := W) rfl rfl (fun d pos aft g => by unfold execOp; go_simp) ⟨_, rfl, rfl, Below.refl _ _⟩
    | 25, _ =>
      obtain ⟨e71, x71⟩ := Rv.ev (show a.tmps.getD 71 undef = .pointer (some ⟨w.heap.size, 0, none⟩) from hdep 24 rfl)
      exact Rv.step_op (op := Go.Op.load 3 (Go.Operand.tmp 71)) (v := .int .i64 5) (w1 := W) rfl rfl (fun d pos aft g => by unfold execOp; go_simp) ⟨_, rfl, rfl, Below.refl _ _⟩
    | 26, _ =>
      obtain ⟨e72, x72⟩ := Rv.ev (show a.tmps.getD 72 undef = .int .i64 5 from hdep 25 rfl)
      exact Rv.step_op (op := Go.Op.binOp Go.BinOp.neq 3 (Go.Operand.tmp 72) (Go.Operand.const (Go.Value.int Go.IntKind.i64 5)) 3) (v := .bool false) (w1 := W) rfl rfl (fun d pos aft g => by unfold execOp; go_simp) ⟨_, rfl, rfl, Below.refl _ _⟩
    | 27, _ =>
      obtain ⟨e70, x70⟩ := Rv.ev (show a.tmps.getD 70 undef = .bool true from hdep 23 rfl)
      obtain ⟨e73, x73⟩ := Rv.ev (show a.tmps.getD 73 undef = .bool false from hdep 26 rfl)
      exact Rv.step_op (op := Go.Op.pick (Go.Operand.tmp 70) (Go.Operand.tmp 73) (Go.Operand.const (Go.Value.bool false))) (v := .bool false) (w1 := W) rfl rfl (fun d pos aft g => by unfold execOp; go_simp) ⟨_, rfl, rfl, Below.refl _ _⟩
    | 28, _ =>
      obtain ⟨e64, x64⟩ := Rv.ev (show a.tmps.getD 64 undef = .bool false from hdep 17 rfl)
      obtain ⟨e74, x74⟩ := Rv.ev (show a.tmps.getD 74 undef = .bool false from hdep 27 rfl)
      exact Rv.step_op (op := Go.Op.pick (Go.Operand.tmp 64) (Go.Operand.const (Go.Value.bool true)) (Go.Operand.tmp 74)) (v := .bool false) (w1 := W) rfl rfl (fun d pos aft g => by unfold execOp; go_simp) ⟨_, rfl, rfl, Below.refl _ _⟩
    | m + 29, h => exact absurd h (by show ¬ m + 29 < 29; omega)
  intro W f hf htr
  have f0 : f 0 = .slice (some ⟨bl, ol, none⟩) 1 cl := hf 0 (by show 0 < 29; omega)
  have f1 : f 1 = .int .i64 1 := hf 1 (by show 1 < 29; omega)
  have f2 : f 2 = .bool false := hf 2 (by show 2 < 29; omega)
  have f3 : f 3 = .bool false := hf 3 (by show 3 < 29; omega)
  have f4 : f 4 = .bool true := hf 4 (by show 4 < 29; omega)
  have f5 : f 5 = .bool false := hf 5 (by show 5 < 29; omega)
  have f6 : f 6 = .bool false := hf 6 (by show 6 < 29; omega)
  have f7 : f 7 = .bool false := hf 7 (by show 7 < 29; omega)
  have f8 : f 8 = .slice (some ⟨bl, ol, none⟩) 1 cl := hf 8 (by show 8 < 29; omega)
  have f9 : f 9 = .pointer (some ⟨bl, ol, none⟩) := hf 9 (by show 9 < 29; omega)
  have f10 : f 10 = .pointer (some ⟨bl, ol + 2, none⟩) := hf 10 (by show 10 < 29; omega)
  have f11 : f 11 = .bool false := hf 11 (by show 11 < 29; omega)
  have f12 : f 12 = .pointer (some ⟨w.heap.size, 0, none⟩) := hf 12 (by show 12 < 29; omega)
  have f13 : f 13 = .int .i64 5 := hf 13 (by show 13 < 29; omega)
  have f14 : f 14 = .bool false := hf 14 (by show 14 < 29; omega)
  have f15 : f 15 = .bool false := hf 15 (by show 15 < 29; omega)
  have f16 : f 16 = .bool false := hf 16 (by show 16 < 29; omega)
  have f17 : f 17 = .bool false := hf 17 (by show 17 < 29; omega)
  have f18 : f 18 = .slice (some ⟨bl, ol, none⟩) 1 cl := hf 18 (by show 18 < 29; omega)
  have f19 : f 19 = .pointer (some ⟨bl, ol, none⟩) := hf 19 (by show 19 < 29; omega)
  have f20 : f 20 = .pointer (some ⟨bl, ol + 2, none⟩) := hf 20 (by show 20 < 29; omega)
  have f21 : f 21 = .bool false := hf 21 (by show 21 < 29; omega)
  have f22 : f 22 = .bool true := hf 22 (by show 22 < 29; omega)
  have f23 : f 23 = .bool true := hf 23 (by show 23 < 29; omega)
  have f24 : f 24 = .pointer (some ⟨w.heap.size, 0, none⟩) := hf 24 (by show 24 < 29; omega)
  have f25 : f 25 = .int .i64 5 := hf 25 (by show 25 < 29; omega)
  have f26 : f 26 = .bool false := hf 26 (by show 26 < 29; omega)
  have f27 : f 27 = .bool false := hf 27 (by show 27 < 29; omega)
  have f28 : f 28 = .bool false := hf 28 (by show 28 < 29; omega)
  refine (show ∀ (a : Act) (w : World), Code.wp _ _ _ a w → _ from by assumption) _ _ ?_
  refine Rv.fin_swap (L' := [(47, f 0), (48, f 1), (49, f 2), (50, f 3), (51, f 4), (52, f 5), (53, f 6), (54, f 7), (55, f 8), (56, f 9), (57, f 10), (58, f 11), (59, f 12), (60, f 13), (61, f 14), (62, f 15), (63, f 16), (64, f 17), (65, f 18), (66, f 19), (67, f 20), (68, f 21), (69, f 22), (70, f 23), (71, f 24), (72, f 25), (73, f 26), (74, f 27), (75, f 28)]) rfl ?_
  rw [f0, f1, f2, f3, f4, f5, f6, f7, f8, f9, f10, f11, f12, f13, f14, f15, f16, f17, f18, f19, f20, f21, f22, f23, f24, f25, f26, f27, f28]
  clear f0 f1 f2 f3 f4 f5 f6 f7 f8 f9 f10 f11 f12 f13 f14 f15 f16 f17 f18 f19 f20 f21 f22 f23 f24 f25 f26 f27 f28
  simp only [Rv.fin, List.foldl_cons, List.foldl_nil, Act.put, List.setIfInBounds_toArray, List.set_cons_succ, List.set_cons_zero]
  have HX := Lib.hid (HX.out.trans (htr.mono HX.out.size))
  have HA := Lib.hid ((htr.block _ hga).trans HA.out)
  have HXB := Lib.hid ((htr.block _ hgb).trans HXB.out)
  have HZ := Lib.hid ((htr.block _ hgz).trans HZ.out)
  clear hf htr HL hga hgb hgz
  go_upto_region 11 with fail
  rename World => X1
  generalize X1 = X at *
  have hga := Rv.lt_of_blk HA.out
  have hgb := Rv.lt_of_blk HXB.out
  have hgz := Rv.lt_of_blk HZ.out
  have HL := Lib.hid (fun (W : World) (hb : Below X.heap.size X W) => HLW.out W (HX.out.trans (hb.mono HX.out.size)))
  refine Rv.region_fin2 (n := 102) (by kernel_rfl) #[77, 78, 79, 80, 81, 82, 83, 84, 1008] #[] (fun i f W => if i = 8 then (fun f W => ∃ (A9 : Option Addr) (c9 : Nat), W.heap[w.heap.size]? = some (.cells #[.int .i64 5, .int .i64 n, .string s, .slice A ns.length c, .slice A9 (is.length + 1) c9] 26 (0, 0)) ∧ W.ownsRow X.heap.size 26 5 (.slice A9 (is.length + 1) c9) (is.length + 1) ((flat hs) ++ ([.int .i64 tx.k, .int .i64 tx.n, .string tx.s, .slice C tx.ns.length d, .slice C2 tx.is.length d2] : List Value))) f W else if i = 6 then (fun f W => ∃ (A9 : Option Addr) (c9 : Nat), f 6 = .slice A9 (is.length + 1) c9 ∧ W.ownsRow X.heap.size 26 5 (.slice A9 (is.length + 1) c9) (is.length + 1) ((flat hs) ++ ([.int .i64 tx.k, .int .i64 tx.n, .string tx.s, .slice C tx.ns.length d, .slice C2 tx.is.length d2] : List Value))) f W else if i = 5 then (fun f W => ∃ (gl : Nat), f 5 = .slice (some ⟨gl, 0, none⟩) 1 1 ∧ Rd W 5 (.slice (some ⟨gl, 0, none⟩) 1 1) 1 ([.int .i64 tx.k, .int .i64 tx.n, .string tx.s, .slice C tx.ns.length d, .slice C2 tx.is.length d2] : List Value)) f W else if i = 3 then (fun f W => ∃ (A9 : Option Addr) (c9 : Nat), f 3 = .slice A9 is.length c9 ∧ W.ownsRow X.heap.size 26 5 (.slice A9 is.length c9) is.length (flat hs)) f W else if i = 0 then (fun f W => ∃ (g4 : Nat), f 0 = .slice (some ⟨g4, 0, none⟩) 0 0 ∧ W.heap[g4]? = some (.cells #[] 26 (0, 0)) ∧ X.heap.size ≤ g4) f W else f i = (#[undef, .pointer (some ⟨w.heap.size, 4, none⟩), .slice A2 is.length c2, undef, .agg #[.int .i64 tx.k, .int .i64 tx.n, .string tx.s, .slice C tx.ns.length d, .slice C2 tx.is.length d2], undef, undef, .pointer (some ⟨w.heap.size, 4, none⟩), undef] : Array Value).getD i undef) (fun i j => (i == 6 && (j == 0 || j == 3 || j == 5)) || (i == 8 && (j == 0 || j == 3 || j == 5 || j == 6))) (fun i => i == 6 || i == 8) (fun i => i == 8) (fun i f W W' => True) (fun W => Below w.heap.size w W ∧ Same (fun b => b ≠ w.heap.size) X W) (fun W => Below X.heap.size X W) (fun _ _ _ => True) (fun _ _ _ _ _ _ _ _ => trivial) (fun i f f' w hi h hd hg => ?_) (fun i j f w w' hi hj hij hK hdp h hr => ?_) (fun i h g b hg => ?_) rfl (by kernel_rfl) (fun i h g b hg => ?_) (⟨HX.out.drew, Nat.le_refl _, fun _ _ _ => rfl⟩) ((Below.refl _ _).drew) (fun _ => trivial) (fun i h hr f w hf => ?_) (fun _ _ _ _ _ _ _ _ => trivial) ?_ ?_
  · by_cases hi1008 : i = 8
    · subst hi1008
      rw [if_pos rfl] at hg ⊢
      exact hg
    rw [if_neg hi1008] at hg ⊢
    by_cases hi83 : i = 6
    · subst hi83
      rw [if_pos rfl] at hg ⊢
      obtain ⟨A9, c9, q1, q2⟩ := hg
      exact ⟨A9, c9, h.symm.trans q1, q2⟩
    rw [if_neg hi83] at hg ⊢
    by_cases hi82 : i = 5
    · subst hi82
      rw [if_pos rfl] at hg ⊢
      obtain ⟨gl, q1, q2⟩ := hg
      exact ⟨gl, h.symm.trans q1, q2⟩
    rw [if_neg hi82] at hg ⊢
    by_cases hi80 : i = 3
    · subst hi80
      rw [if_pos rfl] at hg ⊢
      obtain ⟨A9, c9, q1, q2⟩ := hg
      exact ⟨A9, c9, h.symm.trans q1, q2⟩
    rw [if_neg hi80] at hg ⊢
    by_cases hi77 : i = 0
    · subst hi77
      rw [if_pos rfl] at hg ⊢
      obtain ⟨g4, q1, q2⟩ := hg
      exact ⟨g4, h.symm.trans q1, q2⟩
    rw [if_neg hi77] at hg ⊢
    rw [← h]; exact hg
  · by_cases hj1008 : j = 8
    · subst hj1008
      rw [if_pos rfl] at h ⊢
      rcases hr with ⟨hK1, hr⟩ | hr
      · have hi2 : i = 6 ∨ i = 8 := by simpa [or_assoc] using hK1
        rcases hi2 with e | e
        · subst e; exfalso; revert hdp; decide
        · exact absurd e hij
      · obtain ⟨A9, c9, h1, h2⟩ := h
        exact ⟨A9, c9, (hr.block _ (Rv.lt_of_blk h1)).trans h1, own_below h2 hr⟩
    rw [if_neg hj1008] at h ⊢
    by_cases hj83 : j = 6
    · subst hj83
      rw [if_pos rfl] at h ⊢
      rcases hr with ⟨hK1, hr⟩ | hr
      · have hi2 : i = 6 ∨ i = 8 := by simpa [or_assoc] using hK1
        rcases hi2 with e | e
        · exact absurd e hij
        · subst e; exfalso; revert hK; decide
      · obtain ⟨A9, c9, e, h1⟩ := h
        exact ⟨A9, c9, e, own_below h1 hr⟩
    rw [if_neg hj83] at h ⊢
    by_cases hj82 : j = 5
    · subst hj82
      rw [if_pos rfl] at h ⊢
      rcases hr with ⟨hK1, hr⟩ | hr
      · have hi2 : i = 6 ∨ i = 8 := by simpa [or_assoc] using hK1
        rcases hi2 with e | e
        · subst e; exfalso; revert hK; decide
        · subst e; exfalso; revert hK; decide
      · obtain ⟨gl, e, h1⟩ := h
        exact ⟨gl, e, h1.below hr⟩
    rw [if_neg hj82] at h ⊢
    by_cases hj80 : j = 3
    · subst hj80
      rw [if_pos rfl] at h ⊢
      rcases hr with ⟨hK1, hr⟩ | hr
      · have hi2 : i = 6 ∨ i = 8 := by simpa [or_assoc] using hK1
        rcases hi2 with e | e
        · subst e; exfalso; revert hK; decide
        · subst e; exfalso; revert hK; decide
      · obtain ⟨A9, c9, e, h1⟩ := h
        exact ⟨A9, c9, e, own_below h1 hr⟩
    rw [if_neg hj80] at h ⊢
    by_cases hj77 : j = 0
    · subst hj77
      rw [if_pos rfl] at h ⊢
      rcases hr with ⟨hK1, hr⟩ | hr
      · have hi2 : i = 6 ∨ i = 8 := by simpa [or_assoc] using hK1
        rcases hi2 with e | e
        · subst e; exfalso; revert hK; decide
        · subst e; exfalso; revert hK; decide
      · obtain ⟨g4, e, h1, h2⟩ := h
        exact ⟨g4, e, (hr.block _ (Rv.lt_of_blk h1)).trans h1, h2⟩
    rw [if_neg hj77] at h ⊢
    exact h
  · match i, h, hg with
    | 0, _, hg => cases hg
    | 1, _, hg => cases hg
    | 2, _, hg => cases hg
    | 3, _, hg => cases hg
    | 4, _, hg => cases hg
    | 5, _, hg => cases hg
    | 6, _, hg => cases hg
    | 7, _, hg => cases hg
    | 8, _, hg => cases hg
    | m + 9, h, _ => exact absurd h (by show ¬ m + 9 < 9; omega)
  · match i, h, hg with
    | 0, _, hg => cases hg
    | 1, _, hg => cases hg
    | 2, _, hg => cases hg
    | 3, _, hg => cases hg
    | 4, _, hg => cases hg
    | 5, _, hg => cases hg
    | 6, _, hg => cases hg
    | 7, _, hg => cases hg
    | 8, _, hg => cases hg
    | m + 9, h, _ => exact absurd h (by show ¬ m + 9 < 9; omega)
  · match i, h, hr, hf with
    | 0, _, hr, _ => exact Bool.noConfusion (show true = false from hr)
    | 1, _, hr, _ => exact Bool.noConfusion (show true = false from hr)
    | 2, _, hr, _ => exact Bool.noConfusion (show true = false from hr)
    | 3, _, hr, _ => exact Bool.noConfusion (show true = false from hr)
    | 4, _, hr, _ => exact Bool.noConfusion (show true = false from hr)
    | 5, _, hr, _ => exact Bool.noConfusion (show true = false from hr)
    | 6, _, hr, _ => exact Bool.noConfusion (show true = false from hr)
    | 7, _, hr, _ => exact Bool.noConfusion (show true = false from hr)
    | 8, _, hr, _ => exact Bool.noConfusion (show true = false from hr)
    | m + 9, h, _, _ => exact absurd h (by show ¬ m + 9 < 9; omega)
  · intro i h a W hrun hbase hpre hdep htr hta hJ
    match i, h with
    | 0, _ =>
      have hal : Below W.heap.size W (W.alloc (.cells #[] 26)) := (Below.refl _ _).alloc (Nat.le_refl _) _
      exact Rv.step_op (op := Go.Op.buildSlice 24 0 #[]) (ty := 24) (v := .slice (some ⟨W.heap.size, 0, none⟩) 0 0) (w1 := W.alloc (.cells #[] 26)) rfl rfl (fun d pos aft g => by unfold execOp; go_simp) ⟨_, rfl, ⟨W.heap.size, rfl, heap_alloc_new W _, (hta (by decide)).size⟩, .inr hal, ⟨htr.1.trans (hal.mono htr.1.size), htr.2.trans (Same.below hal)⟩, (fun _ ht => ht.trans (hal.mono ht.size)), fun _ _ _ => trivial⟩
    | 1, _ =>
      obtain ⟨e5, x5⟩ := Rv.ev (show a.tmps.getD 5 undef = .pointer (some ⟨w.heap.size, 0, none⟩) from hbase 5 rfl)
      exact Rv.step_op (op := Go.Op.fieldAddr 26 (Go.Operand.tmp 5) 4) (v := .pointer (some ⟨w.heap.size, 4, none⟩)) (w1 := W) rfl rfl (fun d pos aft g => by unfold execOp; go_simp) ⟨_, rfl, rfl, .inr (Below.refl _ _), htr, fun _ ht => ht, fun _ _ _ => trivial⟩
    | 2, _ =>
      obtain ⟨e78, x78⟩ := Rv.ev (show a.tmps.getD 78 undef = .pointer (some ⟨w.heap.size, 4, none⟩) from hdep 1 rfl rfl)
      obtain ⟨y0, y1, y2, y3, y4⟩ := Rv.cells5 (((hta (by decide)).block _ hga).trans HA.out)
      exact Rv.step_op (op := Go.Op.load 24 (Go.Operand.tmp 78)) (v := .slice A2 is.length c2) (w1 := W) rfl rfl (fun d pos aft g => by unfold execOp; go_simp) ⟨_, rfl, rfl, .inr (Below.refl _ _), htr, fun _ ht => ht, fun _ _ _ => trivial⟩
    | 3, _ =>
      obtain ⟨g4, eA, k4, h4⟩ : ∃ (g4 : Nat), a.tmps.getD 77 undef = .slice (some ⟨g4, 0, none⟩) 0 0 ∧ W.heap[g4]? = some (.cells #[] 26 (0, 0)) ∧ X.heap.size ≤ g4 := hdep 0 rfl rfl
      obtain ⟨e77, x77⟩ := Rv.ev eA
      obtain ⟨e79, x79⟩ := Rv.ev (show a.tmps.getD 79 undef = .slice A2 is.length c2 from hdep 2 rfl rfl)
      have hrd := HRI.out W htr.1
      obtain ⟨A9, c9, w9, hrun, ho9, hal⟩ := app_empty (P := Tryz.prog) W 24 24 26 (.agg #[.int .i64 0, .int .i64 0, .string ⟨#[]⟩, .slice none 0 0, .slice none 0 0]) 5 80 Tryz.underlying24 info26 rfl (by omega) g4 X.heap.size k4 h4 (hta (by decide)).size _ _ _ hrd HFC.out (by omega)
      exact Rv.step_op (op := Go.Op.call { callee := Go.Callee.builtin Go.Builtin.append, args := #[Go.Operand.tmp 77, Go.Operand.tmp 79], argTypes := #[24, 24] }) (ty := 24) (v := .slice A9 is.length c9) (w1 := w9) rfl rfl (fun d pos aft g => by unfold execOp; simp only [resolve, invoke, builtin, Sem.run_bind, Sem.run_pure, Result.andThen_ok, List.map_toArray, List.map_cons, List.map_nil, e77, e79, hrun]) ⟨_, rfl, ⟨A9, c9, rfl, ho9⟩, .inr hal, ⟨htr.1.trans (hal.mono htr.1.size), htr.2.trans (Same.below hal)⟩, (fun _ ht => ht.trans (hal.mono ht.size)), fun _ _ _ => trivial⟩
    | 4, _ =>
      obtain ⟨e7, x7⟩ := Rv.ev (show a.tmps.getD 7 undef = .pointer (some ⟨w.heap.size + 1, 0, none⟩) from hbase 7 rfl)
      obtain ⟨x0, x1, x2, x3, x4⟩ := Rv.cells5 (((hta (by decide)).block _ hgb).trans HXB.out)
      exact Rv.step_op (op := Go.Op.load 26 (Go.Operand.tmp 7)) (v := .agg #[.int .i64 tx.k, .int .i64 tx.n, .string tx.s, .slice C tx.ns.length d, .slice C2 tx.is.length d2]) (w1 := W) rfl rfl (fun d pos aft g => by unfold execOp; go_simp) ⟨_, rfl, rfl, .inr (Below.refl _ _), htr, fun _ ht => ht, fun _ _ _ => trivial⟩
    | 5, _ =>
      obtain ⟨e81, x81⟩ := Rv.ev (show a.tmps.getD 81 undef = .agg #[.int .i64 tx.k, .int .i64 tx.n, .string tx.s, .slice C tx.ns.length d, .slice C2 tx.is.length d2] from hdep 4 rfl rfl)
      have hal : Below W.heap.size W (W.alloc (.cells #[.int .i64 tx.k, .int .i64 tx.n, .string tx.s, .slice C tx.ns.length d, .slice C2 tx.is.length d2] 26)) := (Below.refl _ _).alloc (Nat.le_refl _) _
      exact Rv.step_op (op := Go.Op.buildSlice 24 1 #[(0, Go.Operand.tmp 81)]) (ty := 24) (v := .slice (some ⟨W.heap.size, 0, none⟩) 1 1) (w1 := W.alloc (.cells #[.int .i64 tx.k, .int .i64 tx.n, .string tx.s, .slice C tx.ns.length d, .slice C2 tx.is.length d2] 26)) rfl rfl (fun d pos aft g => by unfold execOp; go_simp) ⟨_, rfl, ⟨W.heap.size, rfl, Rd.of_own (World.ownsRow_lit (base := W.heap.size) (e := 26) (size := 5) W #[.int .i64 tx.k, .int .i64 tx.n, .string tx.s, .slice C tx.ns.length d, .slice C2 tx.is.length d2] 1 (Nat.le_refl _) (by simp [maxLen]) rfl)⟩, .inr hal, ⟨htr.1.trans (hal.mono htr.1.size), htr.2.trans (Same.below hal)⟩, (fun _ ht => ht.trans (hal.mono ht.size)), fun _ _ _ => trivial⟩
    | 6, _ =>
      obtain ⟨A9, c9, eB, k9⟩ : ∃ (A9 : Option Addr) (c9 : Nat), a.tmps.getD 80 undef = .slice A9 is.length c9 ∧ W.ownsRow X.heap.size 26 5 (.slice A9 is.length c9) is.length (flat hs) := hdep 3 rfl rfl
      obtain ⟨e80, x80⟩ := Rv.ev eB
      obtain ⟨gl, eC, kl⟩ : ∃ (gl : Nat), a.tmps.getD 82 undef = .slice (some ⟨gl, 0, none⟩) 1 1 ∧ Rd W 5 (.slice (some ⟨gl, 0, none⟩) 1 1) 1 ([.int .i64 tx.k, .int .i64 tx.n, .string tx.s, .slice C tx.ns.length d, .slice C2 tx.is.length d2] : List Value) := hdep 5 rfl rfl
      obtain ⟨e82, x82⟩ := Rv.ev eC
      have hx := (hta (by decide)).size
      obtain ⟨v', w', hrun, k2, k3, k4⟩ := run_append_rd (P := Tryz.prog) W X.heap.size 24 24 26 (.agg #[.int .i64 0, .int .i64 0, .string ⟨#[]⟩, .slice none 0 0, .slice none 0 0]) 5 80 Tryz.underlying24 info26 rfl (by omega) (by omega) _ _ _ k9 _ _ _ kl HXC.out (by omega) hx
      obtain ⟨A8, c8, rfl, _⟩ := (Rd.of_own k2).shape
      have hob : ∀ k, (Value.slice A9 is.length c9).ownBlock = some k → X.heap.size ≤ k := fun k hk => (k9.lt k hk).1
      exact Rv.step_op (op := Go.Op.call { callee := Go.Callee.builtin Go.Builtin.append, args := #[Go.Operand.tmp 80, Go.Operand.tmp 82], argTypes := #[24, 24] }) (ty := 24) (v := .slice A8 (is.length + 1) c8) (w1 := w') rfl rfl (fun d pos aft g => by unfold execOp; simp only [resolve, invoke, builtin, Sem.run_bind, Sem.run_pure, Result.andThen_ok, List.map_toArray, List.map_cons, List.map_nil, e80, e82, hrun]) ⟨_, rfl, ⟨A8, c8, rfl, k2⟩, .inl ⟨rfl, trivial⟩, ⟨htr.1.grown k3 htr.1.size (fun k hk => by have := hob k hk; have := HX.out.size; omega), Nat.le_trans hx k3.size, fun b hb hp => (k3.block b (Nat.lt_of_lt_of_le hb hx) (fun e => by have := hob b e.symm; omega)).trans (htr.2.2 b hb hp)⟩, (fun _ ht => ht.grown k3 ht.size hob), fun _ _ _ => trivial⟩
    | 7, _ =>
      obtain ⟨e5, x5⟩ := Rv.ev (show a.tmps.getD 5 undef = .pointer (some ⟨w.heap.size, 0, none⟩) from hbase 5 rfl)
      exact Rv.step_op (op := Go.Op.fieldAddr 26 (Go.Operand.tmp 5) 4) (v := .pointer (some ⟨w.heap.size, 4, none⟩)) (w1 := W) rfl rfl (fun d pos aft g => by unfold execOp; go_simp) ⟨_, rfl, rfl, .inr (Below.refl _ _), htr, fun _ ht => ht, fun _ _ _ => trivial⟩
    | 8, _ =>
      obtain ⟨e84, x84⟩ := Rv.ev (show a.tmps.getD 84 undef = .pointer (some ⟨w.heap.size, 4, none⟩) from hdep 7 rfl rfl)
      obtain ⟨A9, c9, eD, k9⟩ : ∃ (A9 : Option Addr) (c9 : Nat), a.tmps.getD 83 undef = .slice A9 (is.length + 1) c9 ∧ W.ownsRow X.heap.size 26 5 (.slice A9 (is.length + 1) c9) (is.length + 1) ((flat hs) ++ ([.int .i64 tx.k, .int .i64 tx.n, .string tx.s, .slice C tx.ns.length d, .slice C2 tx.is.length d2] : List Value)) := hdep 6 rfl rfl
      obtain ⟨e83, x83⟩ := Rv.ev eD
      have hq := ((hta (by decide)).block _ hga).trans HA.out
      obtain ⟨y0, y1, y2, y3, y4⟩ := Rv.cells5 hq
      obtain ⟨z0, z1, z2, z3, z4⟩ := Rv.frozen5 hq
      have gs := grown_set (Below.refl _ W) w.heap.size 4 (.slice A9 (is.length + 1) c9)
      exact Rv.step_skip (op := Go.Op.store 24 (Go.Operand.tmp 84) (Go.Operand.tmp 83)) (ty := 0) (w1 := W.setCell ⟨w.heap.size, 4, none⟩ (.slice A9 (is.length + 1) c9)) rfl rfl (fun d pos aft g => by unfold execOp; go_simp) ⟨undef, rfl, ⟨A9, c9, Rv.set_cell1 4 (.slice A9 (is.length + 1) c9) hq, own_kept k9 gs (fun k hk e => by have := (k9.lt k hk).1; injection e with e; omega)⟩, .inl ⟨rfl, trivial⟩, ⟨htr.1.grown gs htr.1.size (fun k hk => by injection hk with hk; omega), htr.2.trans (.grown gs (fun b hb e => by injection e with e; exact hb e))⟩, (fun h _ => by cases h), fun _ _ _ => trivial⟩
    | m + 9, h => exact absurd h (by show ¬ m + 9 < 9; omega)
  intro W f hf htr hJ
  have f1 : f 1 = .pointer (some ⟨w.heap.size, 4, none⟩) := hf 1 (by show 1 < 9; omega) rfl
  have f2 : f 2 = .slice A2 is.length c2 := hf 2 (by show 2 < 9; omega) rfl
  have f4 : f 4 = .agg #[.int .i64 tx.k, .int .i64 tx.n, .string tx.s, .slice C tx.ns.length d, .slice C2 tx.is.length d2] := hf 4 (by show 4 < 9; omega) rfl
  have f7 : f 7 = .pointer (some ⟨w.heap.size, 4, none⟩) := hf 7 (by show 7 < 9; omega) rfl
  have HS8 := Lib.hid (show (fun f W => ∃ (A9 : Option Addr) (c9 : Nat), W.heap[w.heap.size]? = some (.cells #[.int .i64 5, .int .i64 n, .string s, .slice A ns.length c, .slice A9 (is.length + 1) c9] 26 (0, 0)) ∧ W.ownsRow X.heap.size 26 5 (.slice A9 (is.length + 1) c9) (is.length + 1) ((flat hs) ++ ([.int .i64 tx.k, .int .i64 tx.n, .string tx.s, .slice C tx.ns.length d, .slice C2 tx.is.length d2] : List Value))) f W from hf 8 (by show 8 < 9; omega) rfl)
  clear hf
  refine (show ∀ (a : Act) (w : World), Code.wp _ _ _ a w → _ from by assumption) _ _ ?_
  refine Rv.fin_swap (L' := [(77, f 0), (78, f 1), (79, f 2), (80, f 3), (81, f 4), (82, f 5), (83, f 6), (84, f 7), (1008, f 8)]) rfl ?_
  rw [f1, f2, f4, f7]
  clear f1 f2 f4 f7
  simp only [Rv.fin, List.foldl_cons, List.foldl_nil, Act.put, List.setIfInBounds_toArray, List.set_cons_succ, List.set_cons_zero, List.set_nil]
  obtain ⟨A7, c7, hb7, hr7⟩ := HS8.out
  have HX := Lib.hid htr.1
  have HA := Lib.hid hb7
  have HXB := Lib.hid ((htr.2.2 _ hgb (by omega)).trans HXB.out)
  have HZ := Lib.hid ((htr.2.2 _ hgz (by omega)).trans HZ.out)
  have HI7 := Lib.hid (fun k (hk : (Value.slice A7 (is.length + 1) c7).ownBlock = some k) => by have := (hr7.lt k hk).1; exact (show w.heap.size + 1 + 1 < k by omega))
  have HR7 := Lib.hid (row_base hr7 (w.heap.size + 1) (fun k hk => by have := (hr7.lt k hk).1; omega))
  clear htr HS8 hb7 hr7 hga hgb hgz HL
  generalize f 0 = u0
  generalize f 3 = u3
  generalize f 5 = u5
  generalize f 6 = u6
  obtain ⟨l0, l1, l2⟩ := HLW.out W HX.out
  go_upto_region 13 with fail
  clear l0 l1 l2
  rename World => X1
  generalize X1 = X at *
  have hga := Rv.lt_of_blk HA.out
  have hgb := Rv.lt_of_blk HXB.out
  have hgz := Rv.lt_of_blk HZ.out
  have HL := Lib.hid (fun (W : World) (hb : Below X.heap.size X W) => HLW.out W (HX.out.trans (hb.mono HX.out.size)))
  refine Rv.region_fin2 (n := 102) (by kernel_rfl) #[90, 91, 92, 93, 94, 95, 96, 97, 98, 99, 100, 1011] #[] (fun i f W => if i = 11 then (fun f W => ∃ (A9 : Option Addr) (c9 : Nat), W.heap[w.heap.size]? = some (.cells #[.int .i64 5, .int .i64 n, .string s, .slice A9 (ns.length + 1) c9, .slice A7 (is.length + 1) c7] 26 (0, 0)) ∧ W.ownsRow X.heap.size 9 1 (.slice A9 (ns.length + 1) c9) (ns.length + 1) ((strs ns) ++ ([.string x] : List Value))) f W else if i = 9 then (fun f W => ∃ (A9 : Option Addr) (c9 : Nat), f 9 = .slice A9 (ns.length + 1) c9 ∧ W.ownsRow X.heap.size 9 1 (.slice A9 (ns.length + 1) c9) (ns.length + 1) ((strs ns) ++ ([.string x] : List Value))) f W else if i = 8 then (fun f W => ∃ (gl : Nat), f 8 = .slice (some ⟨gl, 0, none⟩) 1 1 ∧ Rd W 1 (.slice (some ⟨gl, 0, none⟩) 1 1) 1 ([.string x] : List Value)) f W else if i = 3 then (fun f W => ∃ (A9 : Option Addr) (c9 : Nat), f 3 = .slice A9 ns.length c9 ∧ W.ownsRow X.heap.size 9 1 (.slice A9 ns.length c9) ns.length (strs ns)) f W else if i = 0 then (fun f W => ∃ (g4 : Nat), f 0 = .slice (some ⟨g4, 0, none⟩) 0 0 ∧ W.heap[g4]? = some (.cells #[] 9 (0, 0)) ∧ X.heap.size ≤ g4) f W else f i = (#[undef, .pointer (some ⟨w.heap.size, 3, none⟩), .slice A ns.length c, undef, .slice (some ⟨bl, ol, none⟩) 1 cl, .pointer (some ⟨bl, ol, none⟩), .pointer (some ⟨bl, ol, none⟩), .string x, undef, undef, .pointer (some ⟨w.heap.size, 3, none⟩), undef] : Array Value).getD i undef) (fun i j => (i == 9 && (j == 0 || j == 3 || j == 8)) || (i == 11 && (j == 0 || j == 3 || j == 8 || j == 9))) (fun i => i == 9 || i == 11) (fun i => i == 11) (fun i f W W' => True) (fun W => Below w.heap.size w W ∧ Same (fun b => b ≠ w.heap.size) X W) (fun W => Below X.heap.size X W) (fun _ _ _ => True) (fun _ _ _ _ _ _ _ _ => trivial) (fun i f f' w hi h hd hg => ?_) (fun i j f w w' hi hj hij hK hdp h hr => ?_) (fun i h g b hg => ?_) rfl (by kernel_rfl) (fun i h g b hg => ?_) (⟨HX.out.drew, Nat.le_refl _, fun _ _ _ => rfl⟩) ((Below.refl _ _).drew) (fun _ => trivial) (fun i h hr f w hf => ?_) (fun _ _ _ _ _ _ _ _ => trivial) ?_ ?_
  · by_cases hi1011 : i = 11
    · subst hi1011
      rw [if_pos rfl] at hg ⊢
      exact hg
    rw [if_neg hi1011] at hg ⊢
    by_cases hi99 : i = 9
    · subst hi99
      rw [if_pos rfl] at hg ⊢
      obtain ⟨A9, c9, q1, q2⟩ := hg
      exact ⟨A9, c9, h.symm.trans q1, q2⟩
    rw [if_neg hi99] at hg ⊢
    by_cases hi98 : i = 8
    · subst hi98
      rw [if_pos rfl] at hg ⊢
      obtain ⟨gl, q1, q2⟩ := hg
      exact ⟨gl, h.symm.trans q1, q2⟩
    rw [if_neg hi98] at hg ⊢
    by_cases hi93 : i = 3
    · subst hi93
      rw [if_pos rfl] at hg ⊢
      obtain ⟨A9, c9, q1, q2⟩ := hg
      exact ⟨A9, c9, h.symm.trans q1, q2⟩
    rw [if_neg hi93] at hg ⊢
    by_cases hi90 : i = 0
    · subst hi90
      rw [if_pos rfl] at hg ⊢
      obtain ⟨g4, q1, q2⟩ := hg
      exact ⟨g4, h.symm.trans q1, q2⟩
    rw [if_neg hi90] at hg ⊢
    rw [← h]; exact hg
  · by_cases hj1011 : j = 11
    · subst hj1011
      rw [if_pos rfl] at h ⊢
      rcases hr with ⟨hK1, hr⟩ | hr
      · have hi2 : i = 9 ∨ i = 11 := by simpa [or_assoc] using hK1
        rcases hi2 with e | e
        · subst e; exfalso; revert hdp; decide
        · exact absurd e hij
      · obtain ⟨A9, c9, h1, h2⟩ := h
        exact ⟨A9, c9, (hr.block _ (Rv.lt_of_blk h1)).trans h1, own_below h2 hr⟩
    rw [if_neg hj1011] at h ⊢
    by_cases hj99 : j = 9
    · subst hj99
      rw [if_pos rfl] at h ⊢
      rcases hr with ⟨hK1, hr⟩ | hr
      · have hi2 : i = 9 ∨ i = 11 := by simpa [or_assoc] using hK1
        rcases hi2 with e | e
        · exact absurd e hij
        · subst e; exfalso; revert hK; decide
      · obtain ⟨A9, c9, e, h1⟩ := h
        exact ⟨A9, c9, e, own_below h1 hr⟩
    rw [if_neg hj99] at h ⊢
    by_cases hj98 : j = 8
    · subst hj98
      rw [if_pos rfl] at h ⊢
      rcases hr with ⟨hK1, hr⟩ | hr
      · have hi2 : i = 9 ∨ i = 11 := by simpa [or_assoc] using hK1
        rcases hi2 with e | e
        · subst e; exfalso; revert hK; decide
        · subst e; exfalso; revert hK; decide
      · obtain ⟨gl, e, h1⟩ := h
        exact ⟨gl, e, h1.below hr⟩
    rw [if_neg hj98] at h ⊢
    by_cases hj93 : j = 3
    · subst hj93
      rw [if_pos rfl] at h ⊢
      rcases hr with ⟨hK1, hr⟩ | hr
      · have hi2 : i = 9 ∨ i = 11 := by simpa [or_assoc] using hK1
        rcases hi2 with e | e
        · subst e; exfalso; revert hK; decide
        · subst e; exfalso; revert hK; decide
      · obtain ⟨A9, c9, e, h1⟩ := h
        exact ⟨A9, c9, e, own_below h1 hr⟩
    rw [if_neg hj93] at h ⊢
    by_cases hj90 : j = 0
    · subst hj90
      rw [if_pos rfl] at h ⊢
      rcases hr with ⟨hK1, hr⟩ | hr
      · have hi2 : i = 9 ∨ i = 11 := by simpa [or_assoc] using hK1
        rcases hi2 with e | e
        · subst e; exfalso; revert hK; decide
        · subst e; exfalso; revert hK; decide
      · obtain ⟨g4, e, h1, h2⟩ := h
        exact ⟨g4, e, (hr.block _ (Rv.lt_of_blk h1)).trans h1, h2⟩
    rw [if_neg hj90] at h ⊢
    exact h
  · match i, h, hg with
    | 0, _, hg => cases hg
    | 1, _, hg => cases hg
    | 2, _, hg => cases hg
    | 3, _, hg => cases hg
    | 4, _, hg => cases hg
    | 5, _, hg => cases hg
    | 6, _, hg => cases hg
    | 7, _, hg => cases hg
    | 8, _, hg => cases hg
    | 9, _, hg => cases hg
    | 10, _, hg => cases hg
    | 11, _, hg => cases hg
    | m + 12, h, _ => exact absurd h (by show ¬ m + 12 < 12; omega)
  · match i, h, hg with
    | 0, _, hg => cases hg
    | 1, _, hg => cases hg
    | 2, _, hg => cases hg
    | 3, _, hg => cases hg
    | 4, _, hg => cases hg
    | 5, _, hg => cases hg
    | 6, _, hg => cases hg
    | 7, _, hg => cases hg
    | 8, _, hg => cases hg
    | 9, _, hg => cases hg
    | 10, _, hg => cases hg
    | 11, _, hg => cases hg
    | m + 12, h, _ => exact absurd h (by show ¬ m + 12 < 12; omega)
  · match i, h, hr, hf with
    | 0, _, hr, _ => exact Bool.noConfusion (show true = false from hr)
    | 1, _, hr, _ => exact Bool.noConfusion (show true = false from hr)
    | 2, _, hr, _ => exact Bool.noConfusion (show true = false from hr)
    | 3, _, hr, _ => exact Bool.noConfusion (show true = false from hr)
    | 4, _, hr, _ => exact Bool.noConfusion (show true = false from hr)
    | 5, _, hr, _ => exact Bool.noConfusion (show true = false from hr)
    | 6, _, hr, _ => exact Bool.noConfusion (show true = false from hr)
    | 7, _, hr, _ => exact Bool.noConfusion (show true = false from hr)
    | 8, _, hr, _ => exact Bool.noConfusion (show true = false from hr)
    | 9, _, hr, _ => exact Bool.noConfusion (show true = false from hr)
    | 10, _, hr, _ => exact Bool.noConfusion (show true = false from hr)
    | 11, _, hr, _ => exact Bool.noConfusion (show true = false from hr)
    | m + 12, h, _, _ => exact absurd h (by show ¬ m + 12 < 12; omega)
  · intro i h a W hrun hbase hpre hdep htr hta hJ
    obtain ⟨l0, l1, l2⟩ := HLW.out W htr.1
    match i, h with
    | 0, _ =>
      have hal : Below W.heap.size W (W.alloc (.cells #[] 9)) := (Below.refl _ _).alloc (Nat.le_refl _) _
      exact Rv.step_op (op := Go.Op.buildSlice 23 0 #[]) (ty := 23) (v := .slice (some ⟨W.heap.size, 0, none⟩) 0 0) (w1 := W.alloc (.cells #[] 9)) rfl rfl (fun d pos aft g => by unfold execOp; go_simp) ⟨_, rfl, ⟨W.heap.size, rfl, heap_alloc_new W _, (hta (by decide)).size⟩, .inr hal, ⟨htr.1.trans (hal.mono htr.1.size), htr.2.trans (Same.below hal)⟩, (fun _ ht => ht.trans (hal.mono ht.size)), fun _ _ _ => trivial⟩
    | 1, _ =>
      obtain ⟨e5, x5⟩ := Rv.ev (show a.tmps.getD 5 undef = .pointer (some ⟨w.heap.size, 0, none⟩) from hbase 5 rfl)
      exact Rv.step_op (op := Go.Op.fieldAddr 26 (Go.Operand.tmp 5) 3) (v := .pointer (some ⟨w.heap.size, 3, none⟩)) (w1 := W) rfl rfl (fun d pos aft g => by unfold execOp; go_simp) ⟨_, rfl, rfl, .inr (Below.refl _ _), htr, fun _ ht => ht, fun _ _ _ => trivial⟩
    | 2, _ =>
      obtain ⟨e91, x91⟩ := Rv.ev (show a.tmps.getD 91 undef = .pointer (some ⟨w.heap.size, 3, none⟩) from hdep 1 rfl rfl)
      obtain ⟨y0, y1, y2, y3, y4⟩ := Rv.cells5 (((hta (by decide)).block _ hga).trans HA.out)
      exact Rv.step_op (op := Go.Op.load 23 (Go.Operand.tmp 91)) (v := .slice A ns.length c) (w1 := W) rfl rfl (fun d pos aft g => by unfold execOp; go_simp) ⟨_, rfl, rfl, .inr (Below.refl _ _), htr, fun _ ht => ht, fun _ _ _ => trivial⟩
    | 3, _ =>
      obtain ⟨g4, eA, k4, h4⟩ : ∃ (g4 : Nat), a.tmps.getD 90 undef = .slice (some ⟨g4, 0, none⟩) 0 0 ∧ W.heap[g4]? = some (.cells #[] 9 (0, 0)) ∧ X.heap.size ≤ g4 := hdep 0 rfl rfl
      obtain ⟨e90, x90⟩ := Rv.ev eA
      obtain ⟨e92, x92⟩ := Rv.ev (show a.tmps.getD 92 undef = .slice A ns.length c from hdep 2 rfl rfl)
      have hrd := HRN.out W htr.1
      obtain ⟨A9, c9, w9, hrun, ho9, hal⟩ := app_empty (P := Tryz.prog) W 23 23 9 (.string ⟨#[]⟩) 1 16 Tryz.underlying23 info9 rfl (by omega) g4 X.heap.size k4 h4 (hta (by decide)).size _ _ _ hrd (by intro u hu; obtain ⟨z, _, rfl⟩ := List.mem_map.1 hu; rfl) (by omega)
      exact Rv.step_op (op := Go.Op.call { callee := Go.Callee.builtin Go.Builtin.append, args := #[Go.Operand.tmp 90, Go.Operand.tmp 92], argTypes := #[23, 23] }) (ty := 23) (v := .slice A9 ns.length c9) (w1 := w9) rfl rfl (fun d pos aft g => by unfold execOp; simp only [resolve, invoke, builtin, Sem.run_bind, Sem.run_pure, Result.andThen_ok, List.map_toArray, List.map_cons, List.map_nil, e90, e92, hrun]) ⟨_, rfl, ⟨A9, c9, rfl, ho9⟩, .inr hal, ⟨htr.1.trans (hal.mono htr.1.size), htr.2.trans (Same.below hal)⟩, (fun _ ht => ht.trans (hal.mono ht.size)), fun _ _ _ => trivial⟩
    | 4, _ =>
      obtain ⟨e1, x1⟩ := Rv.ev (show a.tmps.getD 1 undef = .slice (some ⟨bl, ol, none⟩) 1 cl from hbase 1 rfl)
      exact Rv.step_op (op := Go.Op.move (Go.Operand.tmp 1)) (v := .slice (some ⟨bl, ol, none⟩) 1 cl) (w1 := W) rfl rfl (fun d pos aft g => by unfold execOp; go_simp) ⟨_, rfl, rfl, .inr (Below.refl _ _), htr, fun _ ht => ht, fun _ _ _ => trivial⟩
    | 5, _ =>
      obtain ⟨e94, x94⟩ := Rv.ev (show a.tmps.getD 94 undef = .slice (some ⟨bl, ol, none⟩) 1 cl from hdep 4 rfl rfl)
      exact Rv.step_op (op := Go.Op.indexAddr 28 (Go.Operand.tmp 94) (Go.Operand.const (Go.Value.int Go.IntKind.i64 0))) (v := .pointer (some ⟨bl, ol, none⟩)) (w1 := W) rfl rfl (fun d pos aft g => by unfold execOp; go_simp) ⟨_, rfl, rfl, .inr (Below.refl _ _), htr, fun _ ht => ht, fun _ _ _ => trivial⟩
    | 6, _ =>
      obtain ⟨e95, x95⟩ := Rv.ev (show a.tmps.getD 95 undef = .pointer (some ⟨bl, ol, none⟩) from hdep 5 rfl rfl)
      exact Rv.step_op (op := Go.Op.fieldAddr 51 (Go.Operand.tmp 95) 0) (v := .pointer (some ⟨bl, ol, none⟩)) (w1 := W) rfl rfl (fun d pos aft g => by unfold execOp; go_simp) ⟨_, rfl, rfl, .inr (Below.refl _ _), htr, fun _ ht => ht, fun _ _ _ => trivial⟩
    | 7, _ =>
      obtain ⟨e96, x96⟩ := Rv.ev (show a.tmps.getD 96 undef = .pointer (some ⟨bl, ol, none⟩) from hdep 6 rfl rfl)
      exact Rv.step_op (op := Go.Op.load 9 (Go.Operand.tmp 96)) (v := .string x) (w1 := W) rfl rfl (fun d pos aft g => by unfold execOp; go_simp) ⟨_, rfl, rfl, .inr (Below.refl _ _), htr, fun _ ht => ht, fun _ _ _ => trivial⟩
    | 8, _ =>
      obtain ⟨e97, x97⟩ := Rv.ev (show a.tmps.getD 97 undef = .string x from hdep 7 rfl rfl)
      have hal : Below W.heap.size W (W.alloc (.cells #[.string x] 9)) := (Below.refl _ _).alloc (Nat.le_refl _) _
      exact Rv.step_op (op := Go.Op.buildSlice 23 1 #[(0, Go.Operand.tmp 97)]) (ty := 23) (v := .slice (some ⟨W.heap.size, 0, none⟩) 1 1) (w1 := W.alloc (.cells #[.string x] 9)) rfl rfl (fun d pos aft g => by unfold execOp; go_simp) ⟨_, rfl, ⟨W.heap.size, rfl, Rd.of_own (World.ownsRow_lit (base := W.heap.size) (e := 9) (size := 1) W #[.string x] 1 (Nat.le_refl _) (by simp [maxLen]) rfl)⟩, .inr hal, ⟨htr.1.trans (hal.mono htr.1.size), htr.2.trans (Same.below hal)⟩, (fun _ ht => ht.trans (hal.mono ht.size)), fun _ _ _ => trivial⟩
    | 9, _ =>
      obtain ⟨A9, c9, eB, k9⟩ : ∃ (A9 : Option Addr) (c9 : Nat), a.tmps.getD 93 undef = .slice A9 ns.length c9 ∧ W.ownsRow X.heap.size 9 1 (.slice A9 ns.length c9) ns.length (strs ns) := hdep 3 rfl rfl
      obtain ⟨e93, x93⟩ := Rv.ev eB
      obtain ⟨gl, eC, kl⟩ : ∃ (gl : Nat), a.tmps.getD 98 undef = .slice (some ⟨gl, 0, none⟩) 1 1 ∧ Rd W 1 (.slice (some ⟨gl, 0, none⟩) 1 1) 1 ([.string x] : List Value) := hdep 8 rfl rfl
      obtain ⟨e98, x98⟩ := Rv.ev eC
      have hx := (hta (by decide)).size
      obtain ⟨v', w', hrun, k2, k3, k4⟩ := run_append_rd (P := Tryz.prog) W X.heap.size 23 23 9 (.string ⟨#[]⟩) 1 16 Tryz.underlying23 info9 rfl (by omega) (by omega) _ _ _ k9 _ _ _ kl (by intro u hu; rw [List.mem_singleton.1 hu]; rfl) (by omega) hx
      obtain ⟨A8, c8, rfl, _⟩ := (Rd.of_own k2).shape
      have hob : ∀ k, (Value.slice A9 ns.length c9).ownBlock = some k → X.heap.size ≤ k := fun k hk => (k9.lt k hk).1
      exact Rv.step_op (op := Go.Op.call { callee := Go.Callee.builtin Go.Builtin.append, args := #[Go.Operand.tmp 93, Go.Operand.tmp 98], argTypes := #[23, 23] }) (ty := 23) (v := .slice A8 (ns.length + 1) c8) (w1 := w') rfl rfl (fun d pos aft g => by unfold execOp; simp only [resolve, invoke, builtin, Sem.run_bind, Sem.run_pure, Result.andThen_ok, List.map_toArray, List.map_cons, List.map_nil, e93, e98, hrun]) ⟨_, rfl, ⟨A8, c8, rfl, k2⟩, .inl ⟨rfl, trivial⟩, ⟨htr.1.grown k3 htr.1.size (fun k hk => by have := hob k hk; have := HX.out.size; omega), Nat.le_trans hx k3.size, fun b hb hp => (k3.block b (Nat.lt_of_lt_of_le hb hx) (fun e => by have := hob b e.symm; omega)).trans (htr.2.2 b hb hp)⟩, (fun _ ht => ht.grown k3 ht.size hob), fun _ _ _ => trivial⟩
    | 10, _ =>
      obtain ⟨e5, x5⟩ := Rv.ev (show a.tmps.getD 5 undef = .pointer (some ⟨w.heap.size, 0, none⟩) from hbase 5 rfl)
      exact Rv.step_op (op := Go.Op.fieldAddr 26 (Go.Operand.tmp 5) 3) (v := .pointer (some ⟨w.heap.size, 3, none⟩)) (w1 := W) rfl rfl (fun d pos aft g => by unfold execOp; go_simp) ⟨_, rfl, rfl, .inr (Below.refl _ _), htr, fun _ ht => ht, fun _ _ _ => trivial⟩
    | 11, _ =>
      obtain ⟨e100, x100⟩ := Rv.ev (show a.tmps.getD 100 undef = .pointer (some ⟨w.heap.size, 3, none⟩) from hdep 10 rfl rfl)
      obtain ⟨A9, c9, eD, k9⟩ : ∃ (A9 : Option Addr) (c9 : Nat), a.tmps.getD 99 undef = .slice A9 (ns.length + 1) c9 ∧ W.ownsRow X.heap.size 9 1 (.slice A9 (ns.length + 1) c9) (ns.length + 1) ((strs ns) ++ ([.string x] : List Value)) := hdep 9 rfl rfl
      obtain ⟨e99, x99⟩ := Rv.ev eD
      have hq := ((hta (by decide)).block _ hga).trans HA.out
      obtain ⟨y0, y1, y2, y3, y4⟩ := Rv.cells5 hq
      obtain ⟨z0, z1, z2, z3, z4⟩ := Rv.frozen5 hq
      have gs := grown_set (Below.refl _ W) w.heap.size 3 (.slice A9 (ns.length + 1) c9)
      exact Rv.step_skip (op := Go.Op.store 23 (Go.Operand.tmp 100) (Go.Operand.tmp 99)) (ty := 0) (w1 := W.setCell ⟨w.heap.size, 3, none⟩ (.slice A9 (ns.length + 1) c9)) rfl rfl (fun d pos aft g => by unfold execOp; go_simp) ⟨undef, rfl, ⟨A9, c9, Rv.set_cell1 3 (.slice A9 (ns.length + 1) c9) hq, own_kept k9 gs (fun k hk e => by have := (k9.lt k hk).1; injection e with e; omega)⟩, .inl ⟨rfl, trivial⟩, ⟨htr.1.grown gs htr.1.size (fun k hk => by injection hk with hk; omega), htr.2.trans (.grown gs (fun b hb e => by injection e with e; exact hb e))⟩, (fun h _ => by cases h), fun _ _ _ => trivial⟩
    | m + 12, h => exact absurd h (by show ¬ m + 12 < 12; omega)
  intro W f hf htr hJ
  have f1 : f 1 = .pointer (some ⟨w.heap.size, 3, none⟩) := hf 1 (by show 1 < 12; omega) rfl
  have f2 : f 2 = .slice A ns.length c := hf 2 (by show 2 < 12; omega) rfl
  have f4 : f 4 = .slice (some ⟨bl, ol, none⟩) 1 cl := hf 4 (by show 4 < 12; omega) rfl
  have f5 : f 5 = .pointer (some ⟨bl, ol, none⟩) := hf 5 (by show 5 < 12; omega) rfl
  have f6 : f 6 = .pointer (some ⟨bl, ol, none⟩) := hf 6 (by show 6 < 12; omega) rfl
  have f7 : f 7 = .string x := hf 7 (by show 7 < 12; omega) rfl
  have f10 : f 10 = .pointer (some ⟨w.heap.size, 3, none⟩) := hf 10 (by show 10 < 12; omega) rfl
  have HS11 := Lib.hid (show (fun f W => ∃ (A9 : Option Addr) (c9 : Nat), W.heap[w.heap.size]? = some (.cells #[.int .i64 5, .int .i64 n, .string s, .slice A9 (ns.length + 1) c9, .slice A7 (is.length + 1) c7] 26 (0, 0)) ∧ W.ownsRow X.heap.size 9 1 (.slice A9 (ns.length + 1) c9) (ns.length + 1) ((strs ns) ++ ([.string x] : List Value))) f W from hf 11 (by show 11 < 12; omega) rfl)
  clear hf
  refine (show ∀ (a : Act) (w : World), Code.wp _ _ _ a w → _ from by assumption) _ _ ?_
  refine Rv.fin_swap (L' := [(90, f 0), (91, f 1), (92, f 2), (93, f 3), (94, f 4), (95, f 5), (96, f 6), (97, f 7), (98, f 8), (99, f 9), (100, f 10), (1011, f 11)]) rfl ?_
  rw [f1, f2, f4, f5, f6, f7, f10]
  clear f1 f2 f4 f5 f6 f7 f10
  simp only [Rv.fin, List.foldl_cons, List.foldl_nil, Act.put, List.setIfInBounds_toArray, List.set_cons_succ, List.set_cons_zero, List.set_nil]
  obtain ⟨A9, c9, hb9, hr9⟩ := HS11.out
  have HXF := Lib.hid htr.1
  have HZF := Lib.hid ((htr.2.2 _ hgz (by omega)).trans HZ.out)
  have HRI7 := Lib.hid (row_same HR7.out (p := fun b => b ≠ w.heap.size) (fun k hk => by have := (HR7.out.lt k hk).1; omega) htr.2)
  have HRN9 := Lib.hid (row_base hr9 (w.heap.size + 1) (fun k hk => by have := (hr9.lt k hk).1; omega))
  have HNE := Lib.hid (fun k (hk : (Value.slice A9 (ns.length + 1) c9).ownBlock = some k) => by have := (hr9.lt k hk).1; exact (show w.heap.size + 1 + 1 < k by omega))
  have HNE2 := Lib.hid (fun k (hk : (Value.slice A7 (is.length + 1) c7).ownBlock = some k) => HI7.out k hk)
  obtain ⟨y0, y1, y2, y3, y4⟩ := Rv.cells5 hb9
  obtain ⟨s0, s1, s2, s3, s4⟩ := Rv.cells5 HZF.out
  obtain ⟨z0, z1, z2, z3, z4⟩ := Rv.frozen5 HZF.out
  go_wp2
  have gs := fun (W : World) j u => grown_set (Below.refl _ W) (w.heap.size + 1 + 1) j u
  have hgg := (grown_then (grown_then (grown_then (grown_then (gs W 0 (.int .i64 5)) (gs _ 1 (.int .i64 n))) (gs _ 2 (.string s))) (gs _ 3 (.slice A9 (ns.length + 1) c9))) (gs _ 4 (.slice A7 (is.length + 1) c7)))
  have sb : ∀ (V : World) (j : Nat) (u : Value), Below w.heap.size w V → Below w.heap.size w (V.setCell ⟨w.heap.size + 1 + 1, j, none⟩ u) := fun V j u h => h.setCell (by show w.heap.size ≤ w.heap.size + 1 + 1; omega) u
  have hbf := (sb _ 4 (.slice A7 (is.length + 1) c7) (sb _ 3 (.slice A9 (ns.length + 1) c9) (sb _ 2 (.string s) (sb _ 1 (.int .i64 n) (sb _ 0 (.int .i64 5) HXF.out)))))
  have hon := own_kept HRN9.out hgg (fun k hk e => by have := HNE.out k hk; injection e with e; omega)
  have hoi := own_kept HRI7.out hgg (fun k hk e => by have := HNE2.out k hk; injection e with e; omega)
  have HJF := Lib.hid (show JN (fun x => E x ∨ w.heap.size ≤ x) _ (.mk 5 n s (ns ++ [x]) (is ++ [tx])) (.agg #[.int .i64 5, .int .i64 n, .string s, .slice A9 (ns.length + 1) c9, .slice A7 (is.length + 1) c7]) from
    ⟨A9, c9, A7, c7, hs ++ [.agg #[.int .i64 tx.k, .int .i64 tx.n, .string tx.s, .slice C tx.ns.length d, .slice C2 tx.is.length d2]], by rw [List.length_append, List.length_append]; rfl, by
      rw [show (ns ++ [x]).length = ns.length + 1 by simp, show strs (ns ++ [x]) = strs ns ++ [.string x] by simp]
      exact (Rp.own hon).weak (fun x _ hx => .inr (by have := hx.1; omega)), by
      rw [show (is ++ [tx]).length = is.length + 1 by simp, show flat (hs ++ [.agg #[.int .i64 tx.k, .int .i64 tx.n, .string tx.s, .slice C tx.ns.length d, .slice C2 tx.is.length d2]]) = flat hs ++ ([.int .i64 tx.k, .int .i64 tx.n, .string tx.s, .slice C tx.ns.length d, .slice C2 tx.is.length d2] : List Value) by simp [flat, Value.cells]]
      exact (Rp.own hoi).weak (fun x _ hx => .inr (by have := hx.1; omega)), ((HHW.out.below hbf).weak (q := fun x => E x ∨ w.heap.size ≤ x) (fun _ _ h => .inl h)).push ((HJX.out.below hbf).weak (fun _ _ h => .inl h))⟩)
  clear hon hoi
  have HBF := Lib.hid hbf
  obtain ⟨q0, q1, q2, q3, q4⟩ := Rv.cells5 (Rv.sets5 HZF.out (.int .i64 5) (.int .i64 n) (.string s) (.slice A9 (ns.length + 1) c9) (.slice A7 (is.length + 1) c7))
  clear y0 y1 y2 y3 y4 s0 s1 s2 s3 s4 z0 z1 z2 z3 z4 gs hgg sb hbf
  refine bodyPost_ret (v := .tuple #[.agg #[.int .i64 5, .int .i64 n, .string s, .slice A9 (ns.length + 1) c9, .slice A7 (is.length + 1) c7], .bool true]) ?_ rfl ⟨_, _, rfl, HJF.out, HBF.out⟩
  simp only [results, show Tryz.f11.results = #[.cell 10 26, .tmp 11] by kernel_rfl]
  go_simp
theorem put_item (E : Nat → Prop) (n : Int) (s : ByteArray) (ns : List ByteArray) (is : List J) (tx : J) (v vx : Value) (x : ByteArray) (si : Nat) (bl ol cl : Nat) (w : World) (hE : ∀ x, E x → x < w.heap.size) (hj : JN E w (.mk 4 n s ns is) v) (hx : JN E w tx vx)
    (h8 : is.length ≤ 8) (hn8 : ns.length ≤ 8) (hK : fI (.mk 4 n s ns is) ⟨x, si, true⟩ = -1) (hl : Rd w 3 (.slice (some ⟨bl, ol, none⟩) 1 cl) 1 (stc [⟨x, si, true⟩])) :
    Calls Tryz.prog 11 #[v, .slice (some ⟨bl, ol, none⟩) 1 cl, vx, .bool true, .bool true] w (OutP E (.mk 4 n s ns (is ++ [tx])) w) := by
  have hj0 := hj
  obtain ⟨A, c, A2, c2, hs, rfl, hn, hI, hH⟩ := hj0
  obtain ⟨C, d, C2, d2, rfl, _⟩ := hx.five
  obtain ⟨bl', ol', ea, hbl, l0, l1, l2⟩ := st_at (l := [(⟨x, si, true⟩ : Sp)]) hl 0 (by simp)
  (injection ea with ea); (injection ea with ea1 ea2 _); subst ea1; subst ea2
  rw [Nat.zero_mul, Nat.add_zero] at l0 l1 l2
  simp only [List.getElem_cons_zero] at l0 l1 l2
  have HA := Lib.hid (old_blk (o := .cells #[.int .i64 0, .int .i64 0, .string ⟨#[]⟩, .slice none 0 0, .slice none 0 0] 26) (old_blk (o := .cells #[.int .i64 tx.k, .int .i64 tx.n, .string tx.s, .slice C tx.ns.length d, .slice C2 tx.is.length d2] 26) (heap_alloc_new w (.cells #[.int .i64 4, .int .i64 n, .string s, .slice A ns.length c, .slice A2 is.length c2] 26))))
  have HXB := Lib.hid (old_blk (o := .cells #[.int .i64 0, .int .i64 0, .string ⟨#[]⟩, .slice none 0 0, .slice none 0 0] 26) (show ((w.alloc (.cells #[.int .i64 4, .int .i64 n, .string s, .slice A ns.length c, .slice A2 is.length c2] 26)).alloc (.cells #[.int .i64 tx.k, .int .i64 tx.n, .string tx.s, .slice C tx.ns.length d, .slice C2 tx.is.length d2] 26)).heap[w.heap.size + 1]? = some (.cells #[.int .i64 tx.k, .int .i64 tx.n, .string tx.s, .slice C tx.ns.length d, .slice C2 tx.is.length d2] 26 (0, 0)) from by
    have := heap_alloc_new (w.alloc (.cells #[.int .i64 4, .int .i64 n, .string s, .slice A ns.length c, .slice A2 is.length c2] 26)) (.cells #[.int .i64 tx.k, .int .i64 tx.n, .string tx.s, .slice C tx.ns.length d, .slice C2 tx.is.length d2] 26)
    simpa using this))
  have HZ := Lib.hid (show (((w.alloc (.cells #[.int .i64 4, .int .i64 n, .string s, .slice A ns.length c, .slice A2 is.length c2] 26)).alloc (.cells #[.int .i64 tx.k, .int .i64 tx.n, .string tx.s, .slice C tx.ns.length d, .slice C2 tx.is.length d2] 26)).alloc (.cells #[.int .i64 0, .int .i64 0, .string ⟨#[]⟩, .slice none 0 0, .slice none 0 0] 26)).heap[w.heap.size + 1 + 1]? = some (.cells #[.int .i64 0, .int .i64 0, .string ⟨#[]⟩, .slice none 0 0, .slice none 0 0] 26 (0, 0)) from by
    have := heap_alloc_new ((w.alloc (.cells #[.int .i64 4, .int .i64 n, .string s, .slice A ns.length c, .slice A2 is.length c2] 26)).alloc (.cells #[.int .i64 tx.k, .int .i64 tx.n, .string tx.s, .slice C tx.ns.length d, .slice C2 tx.is.length d2] 26)) (.cells #[.int .i64 0, .int .i64 0, .string ⟨#[]⟩, .slice none 0 0, .slice none 0 0] 26)
    simpa using this)
  have hX : Below w.heap.size w (((w.alloc (.cells #[.int .i64 4, .int .i64 n, .string s, .slice A ns.length c, .slice A2 is.length c2] 26)).alloc (.cells #[.int .i64 tx.k, .int .i64 tx.n, .string tx.s, .slice C tx.ns.length d, .slice C2 tx.is.length d2] 26)).alloc (.cells #[.int .i64 0, .int .i64 0, .string ⟨#[]⟩, .slice none 0 0, .slice none 0 0] 26)) := (((Below.refl _ _).alloc (Nat.le_refl _) _).alloc (by simp) _).alloc (by simp; omega) _
  have HX := Lib.hid hX
  have HJX := Lib.hid hx
  have HJ := Lib.hid hj
  have HHW := Lib.hid hH
  have HES := Lib.hid hE
  have HRN := Lib.hid (fun (W : World) (hb : Below w.heap.size w W) => hn.1.below hb)
  have HRI := Lib.hid (fun (W : World) (hb : Below w.heap.size w W) => hI.1.below hb)
  have HNR := Lib.hid hn
  have HFC := Lib.hid (flat_cells hH)
  have HXC := Lib.hid (show ∀ u ∈ ([.int .i64 tx.k, .int .i64 tx.n, .string tx.s, .slice C tx.ns.length d, .slice C2 tx.is.length d2] : List Value), u.oneCell' = true from by simp [Value.oneCell'])
  have HLW := Lib.hid (fun (W : World) (hb : Below w.heap.size w W) => show W.cell? ⟨bl, ol, none⟩ = some (.string x) ∧ W.cell? ⟨bl, ol + 1, none⟩ = some (.int .i64 (si : Int)) ∧ W.cell? ⟨bl, ol + 2, none⟩ = some (.bool true) from
    ⟨(hb.cell (p := ⟨bl, ol, none⟩) hbl).trans l0, (hb.cell (p := ⟨bl, ol + 1, none⟩) hbl).trans l1, (hb.cell (p := ⟨bl, ol + 2, none⟩) hbl).trans l2⟩)
  have FIW := Lib.hid (fun (W : World) (hb : Below w.heap.size w W) => show Calls Tryz.prog 24 #[.agg #[.int .i64 4, .int .i64 n, .string s, .slice A ns.length c, .slice A2 is.length c2], .agg #[.string x, .int .i64 (si : Int), .bool true]] W fun e w' => e = .returned (.int .i64 (-1)) ∧ Below W.heap.size W w' from by
    have h := find_sp (.mk 4 n s ns is) _ _ ⟨x, si, true⟩ W (hj.below hb) hn8 h8
    rwa [hK] at h)
  have HXS := Lib.hid (show w.heap.size + 1 + 1 + 1 ≤ (((w.alloc (.cells #[.int .i64 4, .int .i64 n, .string s, .slice A ns.length c, .slice A2 is.length c2] 26)).alloc (.cells #[.int .i64 tx.k, .int .i64 tx.n, .string tx.s, .slice C tx.ns.length d, .slice C2 tx.is.length d2] 26)).alloc (.cells #[.int .i64 0, .int .i64 0, .string ⟨#[]⟩, .slice none 0 0, .slice none 0 0] 26)).heap.size by simp)
  clear hj hx hn hI hH hX hl hK l0 l1 l2
  go_enter Tryz.func11, Tryz.ntmps11
  go_upto_region 5 with fail
  generalize ((w.alloc (.cells #[.int .i64 4, .int .i64 n, .string s, .slice A ns.length c, .slice A2 is.length c2] 26)).alloc (.cells #[.int .i64 tx.k, .int .i64 tx.n, .string tx.s, .slice C tx.ns.length d, .slice C2 tx.is.length d2] 26)).alloc (.cells #[.int .i64 0, .int .i64 0, .string ⟨#[]⟩, .slice none 0 0, .slice none 0 0] 26) = X at *
  have hga := Rv.lt_of_blk HA.out
  have hgb := Rv.lt_of_blk HXB.out
  have hgz := Rv.lt_of_blk HZ.out
  have FI := Lib.hid (fun (W : World) (hb : Below X.heap.size X W) => FIW.out W (HX.out.trans (hb.mono HX.out.size)))
  have HL := Lib.hid (fun (W : World) (hb : Below X.heap.size X W) => HLW.out W (HX.out.trans (hb.mono HX.out.size)))
  refine Rv.region_goods (n := 102) (by kernel_rfl) #[21, 22, 23, 24, 25, 12] #[] (fun i v W => v = (#[.agg #[.int .i64 4, .int .i64 n, .string s, .slice A ns.length c, .slice A2 is.length c2], .slice (some ⟨bl, ol, none⟩) 1 cl, .pointer (some ⟨bl, ol, none⟩), .agg #[.string x, .int .i64 (si : Int), .bool true], .int .i64 (-1), .int .i64 (-1)] : Array Value).getD i undef) (fun i v w w' h hb => ?_) (fun i h g b hg => ?_) rfl (by kernel_rfl) (by kernel_rfl) (fun i h hr w => ?_) ?_ ?_
  · exact h
  · match i, h, hg with
    | 0, _, hg => cases hg
    | 1, _, hg => cases hg
    | 2, _, hg => cases hg
    | 3, _, hg => cases hg
    | 4, _, hg => cases hg
    | 5, _, hg => cases hg
    | m + 6, h, _ => exact absurd h (by show ¬ m + 6 < 6; omega)
  · match i, h, hr with
    | 0, _, hr => exact Bool.noConfusion (show true = false from hr)
    | 1, _, hr => exact Bool.noConfusion (show true = false from hr)
    | 2, _, hr => exact Bool.noConfusion (show true = false from hr)
    | 3, _, hr => exact Bool.noConfusion (show true = false from hr)
    | 4, _, hr => exact Bool.noConfusion (show true = false from hr)
    | 5, _, hr => exact Bool.noConfusion (show true = false from hr)
    | m + 6, h, _ => exact absurd h (by show ¬ m + 6 < 6; omega)
  · intro i h a W hrun hbase hpre hdep htr
    obtain ⟨y0, y1, y2, y3, y4⟩ := Rv.cells5 ((htr.block _ hga).trans HA.out)
    obtain ⟨l0, l1, l2⟩ := HL.out W htr
    match i, h with
    | 0, _ =>
      obtain ⟨e5, x5⟩ := Rv.ev (show a.tmps.getD 5 undef = .pointer (some ⟨w.heap.size, 0, none⟩) from hbase 5 rfl)
      exact Rv.step_op (op := Go.Op.load 26 (Go.Operand.tmp 5)) (v := .agg #[.int .i64 4, .int .i64 n, .string s, .slice A ns.length c, .slice A2 is.length c2]) (w1 := W) rfl rfl (fun d pos aft g => by unfold execOp; go_simp) ⟨_, rfl, rfl, Below.refl _ _⟩
    | 1, _ =>
      obtain ⟨e1, x1⟩ := Rv.ev (show a.tmps.getD 1 undef = .slice (some ⟨bl, ol, none⟩) 1 cl from hbase 1 rfl)
      exact Rv.step_op (op := Go.Op.move (Go.Operand.tmp 1)) (v := .slice (some ⟨bl, ol, none⟩) 1 cl) (w1 := W) rfl rfl (fun d pos aft g => by unfold execOp; go_simp) ⟨_, rfl, rfl, Below.refl _ _⟩
    | 2, _ =>
      obtain ⟨e22, x22⟩ := Rv.ev (show a.tmps.getD 22 undef = .slice (some ⟨bl, ol, none⟩) 1 cl from hdep 1 rfl)
      exact Rv.step_op (op := Go.Op.indexAddr 28 (Go.Operand.tmp 22) (Go.Operand.const (Go.Value.int Go.IntKind.i64 0))) (v := .pointer (some ⟨bl, ol, none⟩)) (w1 := W) rfl rfl (fun d pos aft g => by unfold execOp; go_simp) ⟨_, rfl, rfl, Below.refl _ _⟩
    | 3, _ =>
      obtain ⟨e23, x23⟩ := Rv.ev (show a.tmps.getD 23 undef = .pointer (some ⟨bl, ol, none⟩) from hdep 2 rfl)
      exact Rv.step_op (op := Go.Op.load 51 (Go.Operand.tmp 23)) (v := .agg #[.string x, .int .i64 (si : Int), .bool true]) (w1 := W) rfl rfl (fun d pos aft g => by unfold execOp; go_simp) ⟨_, rfl, rfl, Below.refl _ _⟩
    | 4, _ =>
      obtain ⟨e21, x21⟩ := Rv.ev (show a.tmps.getD 21 undef = .agg #[.int .i64 4, .int .i64 n, .string s, .slice A ns.length c, .slice A2 is.length c2] from hdep 0 rfl)
      obtain ⟨e24, x24⟩ := Rv.ev (show a.tmps.getD 24 undef = .agg #[.string x, .int .i64 (si : Int), .bool true] from hdep 3 rfl)
      have cf : ∀ x0 x1 W, (callFunc 24 #[x0, x1]).run Tryz.prog W = .ok (.enter 24 #[x0, x1]) W := fun _ _ _ => by kernel_rfl
      refine Rv.step_fn (op := Go.Op.call { callee := Go.Callee.value (Go.Operand.func 24), args := #[Go.Operand.tmp 21, Go.Operand.tmp 24], argTypes := #[26, 51] }) (f := 24) (args := #[.agg #[.int .i64 4, .int .i64 n, .string s, .slice A ns.length c, .slice A2 is.length c2], .agg #[.string x, .int .i64 (si : Int), .bool true]]) (R := fun v W' => v = .int .i64 (-1) ∧ Below W.heap.size W W') rfl rfl (fun d pos aft g => by unfold execOp; go_simp) ((FI.out W htr).mono ?_) ?_
      · (rintro e W' ⟨rfl, hb⟩; exact ⟨_, rfl, rfl, hb⟩)
      · (rintro v W' ⟨rfl, hb⟩; exact ⟨_, rfl, rfl, hb⟩)
    | 5, _ =>
      obtain ⟨e25, x25⟩ := Rv.ev (show a.tmps.getD 25 undef = .int .i64 (-1) from hdep 4 rfl)
      exact Rv.step_op (op := Go.Op.assign (Go.Operand.tmp 25)) (v := .int .i64 (-1)) (w1 := W) rfl rfl (fun d pos aft g => by unfold execOp; go_simp) ⟨_, rfl, rfl, Below.refl _ _⟩
    | m + 6, h => exact absurd h (by show ¬ m + 6 < 6; omega)
  intro W f hf htr
  have f0 : f 0 = .agg #[.int .i64 4, .int .i64 n, .string s, .slice A ns.length c, .slice A2 is.length c2] := hf 0 (by show 0 < 6; omega)
  have f1 : f 1 = .slice (some ⟨bl, ol, none⟩) 1 cl := hf 1 (by show 1 < 6; omega)
  have f2 : f 2 = .pointer (some ⟨bl, ol, none⟩) := hf 2 (by show 2 < 6; omega)
  have f3 : f 3 = .agg #[.string x, .int .i64 (si : Int), .bool true] := hf 3 (by show 3 < 6; omega)
  have f4 : f 4 = .int .i64 (-1) := hf 4 (by show 4 < 6; omega)
  have f5 : f 5 = .int .i64 (-1) := hf 5 (by show 5 < 6; omega)
  refine (show ∀ (a : Act) (w : World), Code.wp _ _ _ a w → _ from by assumption) _ _ ?_
  refine Rv.fin_swap (L' := [(21, f 0), (22, f 1), (23, f 2), (24, f 3), (25, f 4), (12, f 5)]) rfl ?_
  rw [f0, f1, f2, f3, f4, f5]
  clear f0 f1 f2 f3 f4 f5
  simp only [Rv.fin, List.foldl_cons, List.foldl_nil, Act.put, List.setIfInBounds_toArray, List.set_cons_succ, List.set_cons_zero]
  have HX := Lib.hid (HX.out.trans (htr.mono HX.out.size))
  have HA := Lib.hid ((htr.block _ hga).trans HA.out)
  have HXB := Lib.hid ((htr.block _ hgb).trans HXB.out)
  have HZ := Lib.hid ((htr.block _ hgz).trans HZ.out)
  clear hf htr HL hga hgb hgz
  clear FI FIW
  go_upto_region 9 with fail
  rename World => X1
  generalize X1 = X at *
  have hga := Rv.lt_of_blk HA.out
  have hgb := Rv.lt_of_blk HXB.out
  have hgz := Rv.lt_of_blk HZ.out
  have HL := Lib.hid (fun (W : World) (hb : Below X.heap.size X W) => HLW.out W (HX.out.trans (hb.mono HX.out.size)))
  refine Rv.region_goods (n := 102) (by kernel_rfl) #[47, 48, 49, 50, 51, 52, 53, 54, 55, 56, 57, 58, 59, 60, 61, 62, 63, 64, 65, 66, 67, 68, 69, 70, 71, 72, 73, 74, 75] #[none, none, none, some false, none, none, none, some false, none, none, none, none, none, none, none, none, none, some false, none, none, none, none, none, some false] (fun i v W => v = (#[.slice (some ⟨bl, ol, none⟩) 1 cl, .int .i64 1, .bool false, .bool false, .bool true, .bool false, .bool false, .bool false, .slice (some ⟨bl, ol, none⟩) 1 cl, .pointer (some ⟨bl, ol, none⟩), .pointer (some ⟨bl, ol + 2, none⟩), .bool true, .pointer (some ⟨w.heap.size, 0, none⟩), .int .i64 4, .bool true, .bool false, .bool false, .bool false, .slice (some ⟨bl, ol, none⟩) 1 cl, .pointer (some ⟨bl, ol, none⟩), .pointer (some ⟨bl, ol + 2, none⟩), .bool true, .bool false, .bool false, undef, undef, undef, .bool false, .bool false] : Array Value).getD i undef) (fun i v w w' h hb => ?_) (fun i h g b hg => ?_) rfl (by kernel_rfl) (by kernel_rfl) (fun i h hr w => ?_) ?_ ?_
  · exact h
  · match i, h, hg with
    | 0, _, hg => cases hg
    | 1, _, hg => cases hg
    | 2, _, hg => cases hg
    | 3, _, hg => cases hg
    | 4, _, hg => (cases hg; exact fun v w e => e)
    | 5, _, hg => (cases hg; exact fun v w e => e)
    | 6, _, hg => cases hg
    | 7, _, hg => cases hg
    | 8, _, hg => (cases hg; exact fun v w e => e)
    | 9, _, hg => (cases hg; exact fun v w e => e)
    | 10, _, hg => (cases hg; exact fun v w e => e)
    | 11, _, hg => (cases hg; exact fun v w e => e)
    | 12, _, hg => (cases hg; exact fun v w e => e)
    | 13, _, hg => (cases hg; exact fun v w e => e)
    | 14, _, hg => (cases hg; exact fun v w e => e)
    | 15, _, hg => (cases hg; exact fun v w e => e)
    | 16, _, hg => cases hg
    | 17, _, hg => cases hg
    | 18, _, hg => (cases hg; exact fun v w e => e)
    | 19, _, hg => (cases hg; exact fun v w e => e)
    | 20, _, hg => (cases hg; exact fun v w e => e)
    | 21, _, hg => (cases hg; exact fun v w e => e)
    | 22, _, hg => (cases hg; exact fun v w e => e)
    | 23, _, hg => (cases hg; exact fun v w e => e)
    | 24, _, hg => (cases hg; exact fun v w e => e)
    | 25, _, hg => (cases hg; exact fun v w e => e)
    | 26, _, hg => (cases hg; exact fun v w e => e)
    | 27, _, hg => (cases hg; exact fun v w e => e)
    | 28, _, hg => cases hg
    | m + 29, h, _ => exact absurd h (by show ¬ m + 29 < 29; omega)
  · match i, h, hr with
    | 0, _, hr => exact Bool.noConfusion (show true = false from hr)
    | 1, _, hr => exact Bool.noConfusion (show true = false from hr)
    | 2, _, hr => exact Bool.noConfusion (show true = false from hr)
    | 3, _, hr => exact Bool.noConfusion (show true = false from hr)
    | 4, _, hr => exact Bool.noConfusion (show true = false from hr)
    | 5, _, hr => exact Bool.noConfusion (show true = false from hr)
    | 6, _, hr => exact Bool.noConfusion (show true = false from hr)
    | 7, _, hr => exact Bool.noConfusion (show true = false from hr)
    | 8, _, hr => exact Bool.noConfusion (show true = false from hr)
    | 9, _, hr => exact Bool.noConfusion (show true = false from hr)
    | 10, _, hr => exact Bool.noConfusion (show true = false from hr)
    | 11, _, hr => exact Bool.noConfusion (show true = false from hr)
    | 12, _, hr => exact Bool.noConfusion (show true = false from hr)
    | 13, _, hr => exact Bool.noConfusion (show true = false from hr)
    | 14, _, hr => exact Bool.noConfusion (show true = false from hr)
    | 15, _, hr => exact Bool.noConfusion (show true = false from hr)
    | 16, _, hr => exact Bool.noConfusion (show true = false from hr)
    | 17, _, hr => exact Bool.noConfusion (show true = false from hr)
    | 18, _, hr => exact Bool.noConfusion (show true = false from hr)
    | 19, _, hr => exact Bool.noConfusion (show true = false from hr)
    | 20, _, hr => exact Bool.noConfusion (show true = false from hr)
    | 21, _, hr => exact Bool.noConfusion (show true = false from hr)
    | 22, _, hr => exact Bool.noConfusion (show true = false from hr)
    | 23, _, hr => exact Bool.noConfusion (show true = false from hr)
    | 24, _, hr => rfl
    | 25, _, hr => rfl
    | 26, _, hr => rfl
    | 27, _, hr => exact Bool.noConfusion (show true = false from hr)
    | 28, _, hr => exact Bool.noConfusion (show true = false from hr)
    | m + 29, h, _ => exact absurd h (by show ¬ m + 29 < 29; omega)
  · intro i h a W hrun hbase hpre hdep htr
    obtain ⟨y0, y1, y2, y3, y4⟩ := Rv.cells5 ((htr.block _ hga).trans HA.out)
    obtain ⟨l0, l1, l2⟩ := HL.out W htr
    match i, h with
    | 0, _ =>
      obtain ⟨e1, x1⟩ := Rv.ev (show a.tmps.getD 1 undef = .slice (some ⟨bl, ol, none⟩) 1 cl from hbase 1 rfl)
      exact Rv.step_op (op := Go.Op.move (Go.Operand.tmp 1)) (v := .slice (some ⟨bl, ol, none⟩) 1 cl) (w1 := W) rfl rfl (fun d pos aft g => by unfold execOp; go_simp) ⟨_, rfl, rfl, Below.refl _ _⟩
    | 1, _ =>
      obtain ⟨e47, x47⟩ := Rv.ev (show a.tmps.getD 47 undef = .slice (some ⟨bl, ol, none⟩) 1 cl from hdep 0 rfl)
      exact Rv.step_op (op := Go.Op.call { callee := Go.Callee.builtin Go.Builtin.len, args := #[Go.Operand.tmp 47], argTypes := #[28] }) (v := .int .i64 1) (w1 := W) rfl rfl (fun d pos aft g => by unfold execOp; go_simp) ⟨_, rfl, rfl, Below.refl _ _⟩
    | 2, _ =>
      obtain ⟨e48, x48⟩ := Rv.ev (show a.tmps.getD 48 undef = .int .i64 1 from hdep 1 rfl)
      exact Rv.step_op (op := Go.Op.binOp Go.BinOp.gtr 3 (Go.Operand.tmp 48) (Go.Operand.const (Go.Value.int Go.IntKind.i64 1)) 3) (v := .bool false) (w1 := W) rfl rfl (fun d pos aft g => by unfold execOp; go_simp) ⟨_, rfl, rfl, Below.refl _ _⟩
    | 3, _ =>
      obtain ⟨e49, x49⟩ := Rv.ev (show a.tmps.getD 49 undef = .bool false from hdep 2 rfl)
      exact Rv.step_op (op := Go.Op.move (Go.Operand.tmp 49)) (v := .bool false) (w1 := W) rfl rfl (fun d pos aft g => by unfold execOp; go_simp) ⟨_, rfl, rfl, Below.refl _ _⟩
    | 4, _ =>
      obtain ⟨e4, x4⟩ := Rv.ev (show a.tmps.getD 4 undef = .bool true from hbase 4 rfl)
      exact Rv.step_op (op := Go.Op.move (Go.Operand.tmp 4)) (v := .bool true) (w1 := W) rfl rfl (fun d pos aft g => by unfold execOp; go_simp) ⟨_, rfl, rfl, Below.refl _ _⟩
    | 5, _ =>
      obtain ⟨e51, x51⟩ := Rv.ev (show a.tmps.getD 51 undef = .bool true from hdep 4 rfl)
      exact Rv.step_op (op := Go.Op.unOp Go.UnOp.not 4 (Go.Operand.tmp 51)) (v := .bool false) (w1 := W) rfl rfl (fun d pos aft g => by unfold execOp; go_simp) ⟨_, rfl, rfl, Below.refl _ _⟩
    | 6, _ =>
      obtain ⟨e50, x50⟩ := Rv.ev (show a.tmps.getD 50 undef = .bool false from hdep 3 rfl)
      obtain ⟨e52, x52⟩ := Rv.ev (show a.tmps.getD 52 undef = .bool false from hdep 5 rfl)
      exact Rv.step_op (op := Go.Op.pick (Go.Operand.tmp 50) (Go.Operand.const (Go.Value.bool true)) (Go.Operand.tmp 52)) (v := .bool false) (w1 := W) rfl rfl (fun d pos aft g => by unfold execOp; go_simp) ⟨_, rfl, rfl, Below.refl _ _⟩
    | 7, _ =>
      obtain ⟨e53, x53⟩ := Rv.ev (show a.tmps.getD 53 undef = .bool false from hdep 6 rfl)
      exact Rv.step_op (op := Go.Op.move (Go.Operand.tmp 53)) (v := .bool false) (w1 := W) rfl rfl (fun d pos aft g => by unfold execOp; go_simp) ⟨_, rfl, rfl, Below.refl _ _⟩
    | 8, _ =>
      obtain ⟨e1, x1⟩ := Rv.ev (show a.tmps.getD 1 undef = .slice (some ⟨bl, ol, none⟩) 1 cl from hbase 1 rfl)
      exact Rv.step_op (op := Go.Op.move (Go.Operand.tmp 1)) (v := .slice (some ⟨bl, ol, none⟩) 1 cl) (w1 := W) rfl rfl (fun d pos aft g => by unfold execOp; go_simp) ⟨_, rfl, rfl, Below.refl _ _⟩
    | 9, _ =>
      obtain ⟨e55, x55⟩ := Rv.ev (show a.tmps.getD 55 undef = .slice (some ⟨bl, ol, none⟩) 1 cl from hdep 8 rfl)
      exact Rv.step_op (op := Go.Op.indexAddr 28 (Go.Operand.tmp 55) (Go.Operand.const (Go.Value.int Go.IntKind.i64 0))) (v := .pointer (some ⟨bl, ol, none⟩)) (w1 := W) rfl rfl (fun d pos aft g => by unfold execOp; go_simp) ⟨_, rfl, rfl, Below.refl _ _⟩
    | 10, _ =>
      obtain ⟨e56, x56⟩ := Rv.ev (show a.tmps.getD 56 undef = .pointer (some ⟨bl, ol, none⟩) from hdep 9 rfl)
      exact Rv.step_op (op := Go.Op.fieldAddr 51 (Go.Operand.tmp 56) 2) (v := .pointer (some ⟨bl, ol + 2, none⟩)) (w1 := W) rfl rfl (fun d pos aft g => by unfold execOp; go_simp) ⟨_, rfl, rfl, Below.refl _ _⟩
    | 11, _ =>
      obtain ⟨e57, x57⟩ := Rv.ev (show a.tmps.getD 57 undef = .pointer (some ⟨bl, ol + 2, none⟩) from hdep 10 rfl)
      exact Rv.step_op (op := Go.Op.load 4 (Go.Operand.tmp 57)) (v := .bool true) (w1 := W) rfl rfl (fun d pos aft g => by unfold execOp; go_simp) ⟨_, rfl, rfl, Below.refl _ _⟩
    | 12, _ =>
      obtain ⟨e5, x5⟩ := Rv.ev (show a.tmps.getD 5 undef = .pointer (some ⟨w.heap.size, 0, none⟩) from hbase 5 rfl)
      exact Rv.step_op (op := Go.Op.fieldAddr 26 (Go.Operand.tmp 5) 0) (v := .pointer (some ⟨w.heap.size, 0, none⟩)) (w1 := W) rfl rfl (fun d pos aft g => by unfold execOp; go_simp) ⟨_, rfl, rfl, Below.refl _ _⟩
    | 13, _ =>
      obtain ⟨e59, x59⟩ := Rv.ev (show a.tmps.getD 59 undef = .pointer (some ⟨w.heap.size, 0, none⟩) from hdep 12 rfl)
      exact Rv.step_op (op := Go.Op.load 3 (Go.Operand.tmp 59)) (v := .int .i64 4) (w1 := W) rfl rfl (fun d pos aft g => by unfold execOp; go_simp) ⟨_, rfl, rfl, Below.refl _ _⟩
    | 14, _ =>
      obtain ⟨e60, x60⟩ := Rv.ev (show a.tmps.getD 60 undef = .int .i64 4 from hdep 13 rfl)
      exact Rv.step_op (op := Go.Op.binOp Go.BinOp.eql 3 (Go.Operand.tmp 60) (Go.Operand.const (Go.Value.int Go.IntKind.i64 4)) 3) (v := .bool true) (w1 := W) rfl rfl (fun d pos aft g => by unfold execOp; go_simp) ⟨_, rfl, rfl, Below.refl _ _⟩
    | 15, _ =>
      obtain ⟨e58, x58⟩ := Rv.ev (show a.tmps.getD 58 undef = .bool true from hdep 11 rfl)
      obtain ⟨e61, x61⟩ := Rv.ev (show a.tmps.getD 61 undef = .bool true from hdep 14 rfl)
      exact Rv.step_op (op := Go.Op.binOp Go.BinOp.neq 4 (Go.Operand.tmp 58) (Go.Operand.tmp 61) 4) (v := .bool false) (w1 := W) rfl rfl (fun d pos aft g => by unfold execOp; go_simp) ⟨_, rfl, rfl, Below.refl _ _⟩
    | 16, _ =>
      obtain ⟨e54, x54⟩ := Rv.ev (show a.tmps.getD 54 undef = .bool false from hdep 7 rfl)
      obtain ⟨e62, x62⟩ := Rv.ev (show a.tmps.getD 62 undef = .bool false from hdep 15 rfl)
      exact Rv.step_op (op := Go.Op.pick (Go.Operand.tmp 54) (Go.Operand.const (Go.Value.bool true)) (Go.Operand.tmp 62)) (v := .bool false) (w1 := W) rfl rfl (fun d pos aft g => by unfold execOp; go_simp) ⟨_, rfl, rfl, Below.refl _ _⟩
    | 17, _ =>
      obtain ⟨e63, x63⟩ := Rv.ev (show a.tmps.getD 63 undef = .bool false from hdep 16 rfl)
      exact Rv.step_op (op := Go.Op.move (Go.Operand.tmp 63)) (v := .bool false) (w1 := W) rfl rfl (fun d pos aft g => by unfold execOp; go_simp) ⟨_, rfl, rfl, Below.refl _ _⟩
    | 18, _ =>
      obtain ⟨e1, x1⟩ := Rv.ev (show a.tmps.getD 1 undef = .slice (some ⟨bl, ol, none⟩) 1 cl from hbase 1 rfl)
      exact Rv.step_op (op := Go.Op.move (Go.Operand.tmp 1)) (v := .slice (some ⟨bl, ol, none⟩) 1 cl) (w1 := W) rfl rfl (fun d pos aft g => by unfold execOp; go_simp) ⟨_, rfl, rfl, Below.refl _ _⟩
    | 19, _ =>
      obtain ⟨e65, x65⟩ := Rv.ev (show a.tmps.getD 65 undef = .slice (some ⟨bl, ol, none⟩) 1 cl from hdep 18 rfl)
      exact Rv.step_op (op := Go.Op.indexAddr 28 (Go.Operand.tmp 65) (Go.Operand.const (Go.Value.int Go.IntKind.i64 0))) (v := .pointer (some ⟨bl, ol, none⟩)) (w1 := W) rfl rfl (fun d pos aft g => by unfold execOp; go_simp) ⟨_, rfl, rfl, Below.refl _ _⟩
    | 20, _ =>
      obtain ⟨e66, x66⟩ := Rv.ev (show a.tmps.getD 66 undef = .pointer (some ⟨bl, ol, none⟩) from hdep 19 rfl)
      exact Rv.step_op (op := Go.Op.fieldAddr 51 (Go.Operand.tmp 66) 2) (v := .pointer (some ⟨bl, ol + 2, none⟩)) (w1 := W) rfl rfl (fun d pos aft g => by unfold execOp; go_simp) ⟨_, rfl, rfl, Below.refl _ _⟩
    | 21, _ =>
      obtain ⟨e67, x67⟩ := Rv.ev (show a.tmps.getD 67 undef = .pointer (some ⟨bl, ol + 2, none⟩) from hdep 20 rfl)
      exact Rv.step_op (op := Go.Op.load 4 (Go.Operand.tmp 67)) (v := .bool true) (w1 := W) rfl rfl (fun d pos aft g => by unfold execOp; go_simp) ⟨_, rfl, rfl, Below.refl _ _⟩
    | 22, _ =>
      obtain ⟨e68, x68⟩ := Rv.ev (show a.tmps.getD 68 undef = .bool true from hdep 21 rfl)
      exact Rv.step_op (op := Go.Op.unOp Go.UnOp.not 4 (Go.Operand.tmp 68)) (v := .bool false) (w1 := W) rfl rfl (fun d pos aft g => by unfold execOp; go_simp) ⟨_, rfl, rfl, Below.refl _ _⟩
    | 23, _ =>
      obtain ⟨e69, x69⟩ := Rv.ev (show a.tmps.getD 69 undef = .bool false from hdep 22 rfl)
      exact Rv.step_op (op := Go.Op.move (Go.Operand.tmp 69)) (v := .bool false) (w1 := W) rfl rfl (fun d pos aft g => by unfold execOp; go_simp) ⟨_, rfl, rfl, Below.refl _ _⟩
    | 24, _ => exact Bool.noConfusion (show false = true from hrun)
    | 25, _ => exact Bool.noConfusion (show false = true from hrun)
    | 26, _ => exact Bool.noConfusion (show false = true from hrun)
    | 27, _ =>
      obtain ⟨e70, x70⟩ := Rv.ev (show a.tmps.getD 70 undef = .bool false from hdep 23 rfl)
      obtain ⟨e73, x73⟩ := Rv.ev (show a.tmps.getD 73 undef = undef from hdep 26 rfl)
      exact Rv.step_op (op := Go.Op.pick (Go.Operand.tmp 70) (Go.Operand.tmp 73) (Go.Operand.const (Go.Value.bool false))) (v := .bool false) (w1 := W) rfl rfl (fun d pos aft g => by unfold execOp; go_simp) ⟨_, rfl, rfl, Below.refl _ _⟩
    | 28, _ =>
      obtain ⟨e64, x64⟩ := Rv.ev (show a.tmps.getD 64 undef = .bool false from hdep 17 rfl)
      obtain ⟨e74, x74⟩ := Rv.ev (show a.tmps.getD 74 undef = .bool false from hdep 27 rfl)
      exact Rv.step_op (op := Go.Op.pick (Go.Operand.tmp 64) (Go.Operand.const (Go.Value.bool true)) (Go.Operand.tmp 74)) (v := .bool false) (w1 := W) rfl rfl (fun d pos aft g => by unfold execOp; go_simp) ⟨_, rfl, rfl, Below.refl _ _⟩
    | m + 29, h => exact absurd h (by show ¬ m + 29 < 29; omega)
  intro W f hf htr
  have f0 : f 0 = .slice (some ⟨bl, ol, none⟩) 1 cl := hf 0 (by show 0 < 29; omega)
  have f1 : f 1 = .int .i64 1 := hf 1 (by show 1 < 29; omega)
  have f2 : f 2 = .bool false := hf 2 (by show 2 < 29; omega)
  have f3 : f 3 = .bool false := hf 3 (by show 3 < 29; omega)
  have f4 : f 4 = .bool true := hf 4 (by show 4 < 29; omega)
  have f5 : f 5 = .bool false := hf 5 (by show 5 < 29; omega)
  have f6 : f 6 = .bool false := hf 6 (by show 6 < 29; omega)
  have f7 : f 7 = .bool false := hf 7 (by show 7 < 29; omega)
  have f8 : f 8 = .slice (some ⟨bl, ol, none⟩) 1 cl := hf 8 (by show 8 < 29; omega)
  have f9 : f 9 = .pointer (some ⟨bl, ol, none⟩) := hf 9 (by show 9 < 29; omega)
  have f10 : f 10 = .pointer (some ⟨bl, ol + 2, none⟩) := hf 10 (by show 10 < 29; omega)
  have f11 : f 11 = .bool true := hf 11 (by show 11 < 29; omega)
  have f12 : f 12 = .pointer (some ⟨w.heap.size, 0, none⟩) := hf 12 (by show 12 < 29; omega)
  have f13 : f 13 = .int .i64 4 := hf 13 (by show 13 < 29; omega)
  have f14 : f 14 = .bool true := hf 14 (by show 14 < 29; omega)
  have f15 : f 15 = .bool false := hf 15 (by show 15 < 29; omega)
  have f16 : f 16 = .bool false := hf 16 (by show 16 < 29; omega)
  have f17 : f 17 = .bool false := hf 17 (by show 17 < 29; omega)
  have f18 : f 18 = .slice (some ⟨bl, ol, none⟩) 1 cl := hf 18 (by show 18 < 29; omega)
  have f19 : f 19 = .pointer (some ⟨bl, ol, none⟩) := hf 19 (by show 19 < 29; omega)
  have f20 : f 20 = .pointer (some ⟨bl, ol + 2, none⟩) := hf 20 (by show 20 < 29; omega)
  have f21 : f 21 = .bool true := hf 21 (by show 21 < 29; omega)
  have f22 : f 22 = .bool false := hf 22 (by show 22 < 29; omega)
  have f23 : f 23 = .bool false := hf 23 (by show 23 < 29; omega)
  have f24 : f 24 = undef := hf 24 (by show 24 < 29; omega)
  have f25 : f 25 = undef := hf 25 (by show 25 < 29; omega)
  have f26 : f 26 = undef := hf 26 (by show 26 < 29; omega)
  have f27 : f 27 = .bool false := hf 27 (by show 27 < 29; omega)
  have f28 : f 28 = .bool false := hf 28 (by show 28 < 29; omega)
  refine (show ∀ (a : Act) (w : World), Code.wp _ _ _ a w → _ from by assumption) _ _ ?_
  refine Rv.fin_swap (L' := [(47, f 0), (48, f 1), (49, f 2), (50, f 3), (51, f 4), (52, f 5), (53, f 6), (54, f 7), (55, f 8), (56, f 9), (57, f 10), (58, f 11), (59, f 12), (60, f 13), (61, f 14), (62, f 15), (63, f 16), (64, f 17), (65, f 18), (66, f 19), (67, f 20), (68, f 21), (69, f 22), (70, f 23), (71, f 24), (72, f 25), (73, f 26), (74, f 27), (75, f 28)]) rfl ?_
  rw [f0, f1, f2, f3, f4, f5, f6, f7, f8, f9, f10, f11, f12, f13, f14, f15, f16, f17, f18, f19, f20, f21, f22, f23, f24, f25, f26, f27, f28]
  clear f0 f1 f2 f3 f4 f5 f6 f7 f8 f9 f10 f11 f12 f13 f14 f15 f16 f17 f18 f19 f20 f21 f22 f23 f24 f25 f26 f27 f28
  simp only [Rv.fin, List.foldl_cons, List.foldl_nil, Act.put, List.setIfInBounds_toArray, List.set_cons_succ, List.set_cons_zero]
  have HX := Lib.hid (HX.out.trans (htr.mono HX.out.size))
  have HA := Lib.hid ((htr.block _ hga).trans HA.out)
  have HXB := Lib.hid ((htr.block _ hgb).trans HXB.out)
  have HZ := Lib.hid ((htr.block _ hgz).trans HZ.out)
  clear hf htr HL hga hgb hgz
  go_upto_region 11 with fail
  rename World => X1
  generalize X1 = X at *
  have hga := Rv.lt_of_blk HA.out
  have hgb := Rv.lt_of_blk HXB.out
  have hgz := Rv.lt_of_blk HZ.out
  have HL := Lib.hid (fun (W : World) (hb : Below X.heap.size X W) => HLW.out W (HX.out.trans (hb.mono HX.out.size)))
  refine Rv.region_fin2 (n := 102) (by kernel_rfl) #[77, 78, 79, 80, 81, 82, 83, 84, 1008] #[] (fun i f W => if i = 8 then (fun f W => ∃ (A9 : Option Addr) (c9 : Nat), W.heap[w.heap.size]? = some (.cells #[.int .i64 4, .int .i64 n, .string s, .slice A ns.length c, .slice A9 (is.length + 1) c9] 26 (0, 0)) ∧ W.ownsRow X.heap.size 26 5 (.slice A9 (is.length + 1) c9) (is.length + 1) ((flat hs) ++ ([.int .i64 tx.k, .int .i64 tx.n, .string tx.s, .slice C tx.ns.length d, .slice C2 tx.is.length d2] : List Value))) f W else if i = 6 then (fun f W => ∃ (A9 : Option Addr) (c9 : Nat), f 6 = .slice A9 (is.length + 1) c9 ∧ W.ownsRow X.heap.size 26 5 (.slice A9 (is.length + 1) c9) (is.length + 1) ((flat hs) ++ ([.int .i64 tx.k, .int .i64 tx.n, .string tx.s, .slice C tx.ns.length d, .slice C2 tx.is.length d2] : List Value))) f W else if i = 5 then (fun f W => ∃ (gl : Nat), f 5 = .slice (some ⟨gl, 0, none⟩) 1 1 ∧ Rd W 5 (.slice (some ⟨gl, 0, none⟩) 1 1) 1 ([.int .i64 tx.k, .int .i64 tx.n, .string tx.s, .slice C tx.ns.length d, .slice C2 tx.is.length d2] : List Value)) f W else if i = 3 then (fun f W => ∃ (A9 : Option Addr) (c9 : Nat), f 3 = .slice A9 is.length c9 ∧ W.ownsRow X.heap.size 26 5 (.slice A9 is.length c9) is.length (flat hs)) f W else if i = 0 then (fun f W => ∃ (g4 : Nat), f 0 = .slice (some ⟨g4, 0, none⟩) 0 0 ∧ W.heap[g4]? = some (.cells #[] 26 (0, 0)) ∧ X.heap.size ≤ g4) f W else f i = (#[undef, .pointer (some ⟨w.heap.size, 4, none⟩), .slice A2 is.length c2, undef, .agg #[.int .i64 tx.k, .int .i64 tx.n, .string tx.s, .slice C tx.ns.length d, .slice C2 tx.is.length d2], undef, undef, .pointer (some ⟨w.heap.size, 4, none⟩), undef] : Array Value).getD i undef) (fun i j => (i == 6 && (j == 0 || j == 3 || j == 5)) || (i == 8 && (j == 0 || j == 3 || j == 5 || j == 6))) (fun i => i == 6 || i == 8) (fun i => i == 8) (fun i f W W' => True) (fun W => Below w.heap.size w W ∧ Same (fun b => b ≠ w.heap.size) X W) (fun W => Below X.heap.size X W) (fun _ _ _ => True) (fun _ _ _ _ _ _ _ _ => trivial) (fun i f f' w hi h hd hg => ?_) (fun i j f w w' hi hj hij hK hdp h hr => ?_) (fun i h g b hg => ?_) rfl (by kernel_rfl) (fun i h g b hg => ?_) (⟨HX.out.drew, Nat.le_refl _, fun _ _ _ => rfl⟩) ((Below.refl _ _).drew) (fun _ => trivial) (fun i h hr f w hf => ?_) (fun _ _ _ _ _ _ _ _ => trivial) ?_ ?_
  · by_cases hi1008 : i = 8
    · subst hi1008
      rw [if_pos rfl] at hg ⊢
      exact hg
    rw [if_neg hi1008] at hg ⊢
    by_cases hi83 : i = 6
    · subst hi83
      rw [if_pos rfl] at hg ⊢
      obtain ⟨A9, c9, q1, q2⟩ := hg
      exact ⟨A9, c9, h.symm.trans q1, q2⟩
    rw [if_neg hi83] at hg ⊢
    by_cases hi82 : i = 5
    · subst hi82
      rw [if_pos rfl] at hg ⊢
      obtain ⟨gl, q1, q2⟩ := hg
      exact ⟨gl, h.symm.trans q1, q2⟩
    rw [if_neg hi82] at hg ⊢
    by_cases hi80 : i = 3
    · subst hi80
      rw [if_pos rfl] at hg ⊢
      obtain ⟨A9, c9, q1, q2⟩ := hg
      exact ⟨A9, c9, h.symm.trans q1, q2⟩
    rw [if_neg hi80] at hg ⊢
    by_cases hi77 : i = 0
    · subst hi77
      rw [if_pos rfl] at hg ⊢
      obtain ⟨g4, q1, q2⟩ := hg
      exact ⟨g4, h.symm.trans q1, q2⟩
    rw [if_neg hi77] at hg ⊢
    rw [← h]; exact hg
  · by_cases hj1008 : j = 8
    · subst hj1008
      rw [if_pos rfl] at h ⊢
      rcases hr with ⟨hK1, hr⟩ | hr
      · have hi2 : i = 6 ∨ i = 8 := by simpa [or_assoc] using hK1
        rcases hi2 with e | e
        · subst e; exfalso; revert hdp; decide
        · exact absurd e hij
      · obtain ⟨A9, c9, h1, h2⟩ := h
        exact ⟨A9, c9, (hr.block _ (Rv.lt_of_blk h1)).trans h1, own_below h2 hr⟩
    rw [if_neg hj1008] at h ⊢
    by_cases hj83 : j = 6
    · subst hj83
      rw [if_pos rfl] at h ⊢
      rcases hr with ⟨hK1, hr⟩ | hr
      · have hi2 : i = 6 ∨ i = 8 := by simpa [or_assoc] using hK1
        rcases hi2 with e | e
        · exact absurd e hij
        · subst e; exfalso; revert hK; decide
      · obtain ⟨A9, c9, e, h1⟩ := h
        exact ⟨A9, c9, e, own_below h1 hr⟩
    rw [if_neg hj83] at h ⊢
    by_cases hj82 : j = 5
    · subst hj82
      rw [if_pos rfl] at h ⊢
      rcases hr with ⟨hK1, hr⟩ | hr
      · have hi2 : i = 6 ∨ i = 8 := by simpa [or_assoc] using hK1
        rcases hi2 with e | e
        · subst e; exfalso; revert hK; decide
        · subst e; exfalso; revert hK; decide
      · obtain ⟨gl, e, h1⟩ := h
        exact ⟨gl, e, h1.below hr⟩
    rw [if_neg hj82] at h ⊢
    by_cases hj80 : j = 3
    · subst hj80
      rw [if_pos rfl] at h ⊢
      rcases hr with ⟨hK1, hr⟩ | hr
      · have hi2 : i = 6 ∨ i = 8 := by simpa [or_assoc] using hK1
        rcases hi2 with e | e
        · subst e; exfalso; revert hK; decide
        · subst e; exfalso; revert hK; decide
      · obtain ⟨A9, c9, e, h1⟩ := h
        exact ⟨A9, c9, e, own_below h1 hr⟩
    rw [if_neg hj80] at h ⊢
    by_cases hj77 : j = 0
    · subst hj77
      rw [if_pos rfl] at h ⊢
      rcases hr with ⟨hK1, hr⟩ | hr
      · have hi2 : i = 6 ∨ i = 8 := by simpa [or_assoc] using hK1
        rcases hi2 with e | e
        · subst e; exfalso; revert hK; decide
        · subst e; exfalso; revert hK; decide
      · obtain ⟨g4, e, h1, h2⟩ := h
        exact ⟨g4, e, (hr.block _ (Rv.lt_of_blk h1)).trans h1, h2⟩
    rw [if_neg hj77] at h ⊢
    exact h
  · match i, h, hg with
    | 0, _, hg => cases hg
    | 1, _, hg => cases hg
    | 2, _, hg => cases hg
    | 3, _, hg => cases hg
    | 4, _, hg => cases hg
    | 5, _, hg => cases hg
    | 6, _, hg => cases hg
    | 7, _, hg => cases hg
    | 8, _, hg => cases hg
    | m + 9, h, _ => exact absurd h (by show ¬ m + 9 < 9; omega)
  · match i, h, hg with
    | 0, _, hg => cases hg
    | 1, _, hg => cases hg
    | 2, _, hg => cases hg
    | 3, _, hg => cases hg
    | 4, _, hg => cases hg
    | 5, _, hg => cases hg
    | 6, _, hg => cases hg
    | 7, _, hg => cases hg
    | 8, _, hg => cases hg
    | m + 9, h, _ => exact absurd h (by show ¬ m + 9 < 9; omega)
  · match i, h, hr, hf with
    | 0, _, hr, _ => exact Bool.noConfusion (show true = false from hr)
    | 1, _, hr, _ => exact Bool.noConfusion (show true = false from hr)
    | 2, _, hr, _ => exact Bool.noConfusion (show true = false from hr)
    | 3, _, hr, _ => exact Bool.noConfusion (show true = false from hr)
    | 4, _, hr, _ => exact Bool.noConfusion (show true = false from hr)
    | 5, _, hr, _ => exact Bool.noConfusion (show true = false from hr)
    | 6, _, hr, _ => exact Bool.noConfusion (show true = false from hr)
    | 7, _, hr, _ => exact Bool.noConfusion (show true = false from hr)
    | 8, _, hr, _ => exact Bool.noConfusion (show true = false from hr)
    | m + 9, h, _, _ => exact absurd h (by show ¬ m + 9 < 9; omega)
  · intro i h a W hrun hbase hpre hdep htr hta hJ
    match i, h with
    | 0, _ =>
      have hal : Below W.heap.size W (W.alloc (.cells #[] 26)) := (Below.refl _ _).alloc (Nat.le_refl _) _
      exact Rv.step_op (op := Go.Op.buildSlice 24 0 #[]) (ty := 24) (v := .slice (some ⟨W.heap.size, 0, none⟩) 0 0) (w1 := W.alloc (.cells #[] 26)) rfl rfl (fun d pos aft g => by unfold execOp; go_simp) ⟨_, rfl, ⟨W.heap.size, rfl, heap_alloc_new W _, (hta (by decide)).size⟩, .inr hal, ⟨htr.1.trans (hal.mono htr.1.size), htr.2.trans (Same.below hal)⟩, (fun _ ht => ht.trans (hal.mono ht.size)), fun _ _ _ => trivial⟩
    | 1, _ =>
      obtain ⟨e5, x5⟩ := Rv.ev (show a.tmps.getD 5 undef = .pointer (some ⟨w.heap.size, 0, none⟩) from hbase 5 rfl)
      exact Rv.step_op (op := Go.Op.fieldAddr 26 (Go.Operand.tmp 5) 4) (v := .pointer (some ⟨w.heap.size, 4, none⟩)) (w1 := W) rfl rfl (fun d pos aft g => by unfold execOp; go_simp) ⟨_, rfl, rfl, .inr (Below.refl _ _), htr, fun _ ht => ht, fun _ _ _ => trivial⟩
    | 2, _ =>
      obtain ⟨e78, x78⟩ := Rv.ev (show a.tmps.getD 78 undef = .pointer (some ⟨w.heap.size, 4, none⟩) from hdep 1 rfl rfl)
      obtain ⟨y0, y1, y2, y3, y4⟩ := Rv.cells5 (((hta (by decide)).block _ hga).trans HA.out)
      exact Rv.step_op (op := Go.Op.load 24 (Go.Operand.tmp 78)) (v := .slice A2 is.length c2) (w1 := W) rfl rfl (fun d pos aft g => by unfold execOp; go_simp) ⟨_, rfl, rfl, .inr (Below.refl _ _), htr, fun _ ht => ht, fun _ _ _ => trivial⟩
    | 3, _ =>
      obtain ⟨g4, eA, k4, h4⟩ : ∃ (g4 : Nat), a.tmps.getD 77 undef = .slice (some ⟨g4, 0, none⟩) 0 0 ∧ W.heap[g4]? = some (.cells #[] 26 (0, 0)) ∧ X.heap.size ≤ g4 := hdep 0 rfl rfl
      obtain ⟨e77, x77⟩ := Rv.ev eA
      obtain ⟨e79, x79⟩ := Rv.ev (show a.tmps.getD 79 undef = .slice A2 is.length c2 from hdep 2 rfl rfl)
      have hrd := HRI.out W htr.1
      obtain ⟨A9, c9, w9, hrun, ho9, hal⟩ := app_empty (P := Tryz.prog) W 24 24 26 (.agg #[.int .i64 0, .int .i64 0, .string ⟨#[]⟩, .slice none 0 0, .slice none 0 0]) 5 80 Tryz.underlying24 info26 rfl (by omega) g4 X.heap.size k4 h4 (hta (by decide)).size _ _ _ hrd HFC.out (by omega)
      exact Rv.step_op (op := Go.Op.call { callee := Go.Callee.builtin Go.Builtin.append, args := #[Go.Operand.tmp 77, Go.Operand.tmp 79], argTypes := #[24, 24] }) (ty := 24) (v := .slice A9 is.length c9) (w1 := w9) rfl rfl (fun d pos aft g => by unfold execOp; simp only [resolve, invoke, builtin, Sem.run_bind, Sem.run_pure, Result.andThen_ok, List.map_toArray, List.map_cons, List.map_nil, e77, e79, hrun]) ⟨_, rfl, ⟨A9, c9, rfl, ho9⟩, .inr hal, ⟨htr.1.trans (hal.mono htr.1.size), htr.2.trans (Same.below hal)⟩, (fun _ ht => ht.trans (hal.mono ht.size)), fun _ _ _ => trivial⟩
    | 4, _ =>
      obtain ⟨e7, x7⟩ := Rv.ev (show a.tmps.getD 7 undef = .pointer (some ⟨w.heap.size + 1, 0, none⟩) from hbase 7 rfl)
      obtain ⟨x0, x1, x2, x3, x4⟩ := Rv.cells5 (((hta (by decide)).block _ hgb).trans HXB.out)
      exact Rv.step_op (op := Go.Op.load 26 (Go.Operand.tmp 7)) (v := .agg #[.int .i64 tx.k, .int .i64 tx.n, .string tx.s, .slice C tx.ns.length d, .slice C2 tx.is.length d2]) (w1 := W) rfl rfl (fun d pos aft g => by unfold execOp; go_simp) ⟨_, rfl, rfl, .inr (Below.refl _ _), htr, fun _ ht => ht, fun _ _ _ => trivial⟩
    | 5, _ =>
      obtain ⟨e81, x81⟩ := Rv.ev (show a.tmps.getD 81 undef = .agg #[.int .i64 tx.k, .int .i64 tx.n, .string tx.s, .slice C tx.ns.length d, .slice C2 tx.is.length d2] from hdep 4 rfl rfl)
      have hal : Below W.heap.size W (W.alloc (.cells #[.int .i64 tx.k, .int .i64 tx.n, .string tx.s, .slice C tx.ns.length d, .slice C2 tx.is.length d2] 26)) := (Below.refl _ _).alloc (Nat.le_refl _) _
      exact Rv.step_op (op := Go.Op.buildSlice 24 1 #[(0, Go.Operand.tmp 81)]) (ty := 24) (v := .slice (some ⟨W.heap.size, 0, none⟩) 1 1) (w1 := W.alloc (.cells #[.int .i64 tx.k, .int .i64 tx.n, .string tx.s, .slice C tx.ns.length d, .slice C2 tx.is.length d2] 26)) rfl rfl (fun d pos aft g => by unfold execOp; go_simp) ⟨_, rfl, ⟨W.heap.size, rfl, Rd.of_own (World.ownsRow_lit (base := W.heap.size) (e := 26) (size := 5) W #[.int .i64 tx.k, .int .i64 tx.n, .string tx.s, .slice C tx.ns.length d, .slice C2 tx.is.length d2] 1 (Nat.le_refl _) (by simp [maxLen]) rfl)⟩, .inr hal, ⟨htr.1.trans (hal.mono htr.1.size), htr.2.trans (Same.below hal)⟩, (fun _ ht => ht.trans (hal.mono ht.size)), fun _ _ _ => trivial⟩
    | 6, _ =>
      obtain ⟨A9, c9, eB, k9⟩ : ∃ (A9 : Option Addr) (c9 : Nat), a.tmps.getD 80 undef = .slice A9 is.length c9 ∧ W.ownsRow X.heap.size 26 5 (.slice A9 is.length c9) is.length (flat hs) := hdep 3 rfl rfl
      obtain ⟨e80, x80⟩ := Rv.ev eB
      obtain ⟨gl, eC, kl⟩ : ∃ (gl : Nat), a.tmps.getD 82 undef = .slice (some ⟨gl, 0, none⟩) 1 1 ∧ Rd W 5 (.slice (some ⟨gl, 0, none⟩) 1 1) 1 ([.int .i64 tx.k, .int .i64 tx.n, .string tx.s, .slice C tx.ns.length d, .slice C2 tx.is.length d2] : List Value) := hdep 5 rfl rfl
      obtain ⟨e82, x82⟩ := Rv.ev eC
      have hx := (hta (by decide)).size
      obtain ⟨v', w', hrun, k2, k3, k4⟩ := run_append_rd (P := Tryz.prog) W X.heap.size 24 24 26 (.agg #[.int .i64 0, .int .i64 0, .string ⟨#[]⟩, .slice none 0 0, .slice none 0 0]) 5 80 Tryz.underlying24 info26 rfl (by omega) (by omega) _ _ _ k9 _ _ _ kl HXC.out (by omega) hx
      obtain ⟨A8, c8, rfl, _⟩ := (Rd.of_own k2).shape
      have hob : ∀ k, (Value.slice A9 is.length c9).ownBlock = some k → X.heap.size ≤ k := fun k hk => (k9.lt k hk).1
      exact Rv.step_op (op := Go.Op.call { callee := Go.Callee.builtin Go.Builtin.append, args := #[Go.Operand.tmp 80, Go.Operand.tmp 82], argTypes := #[24, 24] }) (ty := 24) (v := .slice A8 (is.length + 1) c8) (w1 := w') rfl rfl (fun d pos aft g => by unfold execOp; simp only [resolve, invoke, builtin, Sem.run_bind, Sem.run_pure, Result.andThen_ok, List.map_toArray, List.map_cons, List.map_nil, e80, e82, hrun]) ⟨_, rfl, ⟨A8, c8, rfl, k2⟩, .inl ⟨rfl, trivial⟩, ⟨htr.1.grown k3 htr.1.size (fun k hk => by have := hob k hk; have := HX.out.size; omega), Nat.le_trans hx k3.size, fun b hb hp => (k3.block b (Nat.lt_of_lt_of_le hb hx) (fun e => by have := hob b e.symm; omega)).trans (htr.2.2 b hb hp)⟩, (fun _ ht => ht.grown k3 ht.size hob), fun _ _ _ => trivial⟩
    | 7, _ =>
      obtain ⟨e5, x5⟩ := Rv.ev (show a.tmps.getD 5 undef = .pointer (some ⟨w.heap.size, 0, none⟩) from hbase 5 rfl)
      exact Rv.step_op (op := Go.Op.fieldAddr 26 (Go.Operand.tmp 5) 4) (v := .pointer (some ⟨w.heap.size, 4, none⟩)) (w1 := W) rfl rfl (fun d pos aft g => by unfold execOp; go_simp) ⟨_, rfl, rfl, .inr (Below.refl _ _), htr, fun _ ht => ht, fun _ _ _ => trivial⟩
    | 8, _ =>
      obtain ⟨e84, x84⟩ := Rv.ev (show a.tmps.getD 84 undef = .pointer (some ⟨w.heap.size, 4, none⟩) from hdep 7 rfl rfl)
      obtain ⟨A9, c9, eD, k9⟩ : ∃ (A9 : Option Addr) (c9 : Nat), a.tmps.getD 83 undef = .slice A9 (is.length + 1) c9 ∧ W.ownsRow X.heap.size 26 5 (.slice A9 (is.length + 1) c9) (is.length + 1) ((flat hs) ++ ([.int .i64 tx.k, .int .i64 tx.n, .string tx.s, .slice C tx.ns.length d, .slice C2 tx.is.length d2] : List Value)) := hdep 6 rfl rfl
      obtain ⟨e83, x83⟩ := Rv.ev eD
      have hq := ((hta (by decide)).block _ hga).trans HA.out
      obtain ⟨y0, y1, y2, y3, y4⟩ := Rv.cells5 hq
      obtain ⟨z0, z1, z2, z3, z4⟩ := Rv.frozen5 hq
      have gs := grown_set (Below.refl _ W) w.heap.size 4 (.slice A9 (is.length + 1) c9)
      exact Rv.step_skip (op := Go.Op.store 24 (Go.Operand.tmp 84) (Go.Operand.tmp 83)) (ty := 0) (w1 := W.setCell ⟨w.heap.size, 4, none⟩ (.slice A9 (is.length + 1) c9)) rfl rfl (fun d pos aft g => by unfold execOp; go_simp) ⟨undef, rfl, ⟨A9, c9, Rv.set_cell1 4 (.slice A9 (is.length + 1) c9) hq, own_kept k9 gs (fun k hk e => by have := (k9.lt k hk).1; injection e with e; omega)⟩, .inl ⟨rfl, trivial⟩, ⟨htr.1.grown gs htr.1.size (fun k hk => by injection hk with hk; omega), htr.2.trans (.grown gs (fun b hb e => by injection e with e; exact hb e))⟩, (fun h _ => by cases h), fun _ _ _ => trivial⟩
    | m + 9, h => exact absurd h (by show ¬ m + 9 < 9; omega)
  intro W f hf htr hJ
  have f1 : f 1 = .pointer (some ⟨w.heap.size, 4, none⟩) := hf 1 (by show 1 < 9; omega) rfl
  have f2 : f 2 = .slice A2 is.length c2 := hf 2 (by show 2 < 9; omega) rfl
  have f4 : f 4 = .agg #[.int .i64 tx.k, .int .i64 tx.n, .string tx.s, .slice C tx.ns.length d, .slice C2 tx.is.length d2] := hf 4 (by show 4 < 9; omega) rfl
  have f7 : f 7 = .pointer (some ⟨w.heap.size, 4, none⟩) := hf 7 (by show 7 < 9; omega) rfl
  have HS8 := Lib.hid (show (fun f W => ∃ (A9 : Option Addr) (c9 : Nat), W.heap[w.heap.size]? = some (.cells #[.int .i64 4, .int .i64 n, .string s, .slice A ns.length c, .slice A9 (is.length + 1) c9] 26 (0, 0)) ∧ W.ownsRow X.heap.size 26 5 (.slice A9 (is.length + 1) c9) (is.length + 1) ((flat hs) ++ ([.int .i64 tx.k, .int .i64 tx.n, .string tx.s, .slice C tx.ns.length d, .slice C2 tx.is.length d2] : List Value))) f W from hf 8 (by show 8 < 9; omega) rfl)
  clear hf
  refine (show ∀ (a : Act) (w : World), Code.wp _ _ _ a w → _ from by assumption) _ _ ?_
  refine Rv.fin_swap (L' := [(77, f 0), (78, f 1), (79, f 2), (80, f 3), (81, f 4), (82, f 5), (83, f 6), (84, f 7), (1008, f 8)]) rfl ?_
  rw [f1, f2, f4, f7]
  clear f1 f2 f4 f7
  simp only [Rv.fin, List.foldl_cons, List.foldl_nil, Act.put, List.setIfInBounds_toArray, List.set_cons_succ, List.set_cons_zero, List.set_nil]
  obtain ⟨A7, c7, hb7, hr7⟩ := HS8.out
  have HX := Lib.hid htr.1
  have HA := Lib.hid hb7
  have HXB := Lib.hid ((htr.2.2 _ hgb (by omega)).trans HXB.out)
  have HZ := Lib.hid ((htr.2.2 _ hgz (by omega)).trans HZ.out)
  have HI7 := Lib.hid (fun k (hk : (Value.slice A7 (is.length + 1) c7).ownBlock = some k) => by have := (hr7.lt k hk).1; exact (show w.heap.size + 1 + 1 < k by omega))
  have HR7 := Lib.hid (row_base hr7 (w.heap.size + 1) (fun k hk => by have := (hr7.lt k hk).1; omega))
  clear htr HS8 hb7 hr7 hga hgb hgz HL
  generalize f 0 = u0
  generalize f 3 = u3
  generalize f 5 = u5
  generalize f 6 = u6
  have HXF := HX
  have HZF := HZ
  obtain ⟨l0, l1, l2⟩ := HLW.out W HX.out
  obtain ⟨y0, y1, y2, y3, y4⟩ := Rv.cells5 HA.out
  obtain ⟨s0, s1, s2, s3, s4⟩ := Rv.cells5 HZF.out
  obtain ⟨z0, z1, z2, z3, z4⟩ := Rv.frozen5 HZF.out
  go_wp2
  have gs := fun (W : World) j u => grown_set (Below.refl _ W) (w.heap.size + 1 + 1) j u
  have hgg := (grown_then (grown_then (grown_then (grown_then (gs W 0 (.int .i64 4)) (gs _ 1 (.int .i64 n))) (gs _ 2 (.string s))) (gs _ 3 (.slice A ns.length c))) (gs _ 4 (.slice A7 (is.length + 1) c7)))
  have sb : ∀ (V : World) (j : Nat) (u : Value), Below w.heap.size w V → Below w.heap.size w (V.setCell ⟨w.heap.size + 1 + 1, j, none⟩ u) := fun V j u h => h.setCell (by show w.heap.size ≤ w.heap.size + 1 + 1; omega) u
  have hbf := (sb _ 4 (.slice A7 (is.length + 1) c7) (sb _ 3 (.slice A ns.length c) (sb _ 2 (.string s) (sb _ 1 (.int .i64 n) (sb _ 0 (.int .i64 4) HXF.out)))))
  have hoi := own_kept HR7.out hgg (fun k hk e => by have := HI7.out k hk; injection e with e; omega)
  have HJF := Lib.hid (show JN (fun x => E x ∨ w.heap.size ≤ x) _ (.mk 4 n s ns (is ++ [tx])) (.agg #[.int .i64 4, .int .i64 n, .string s, .slice A ns.length c, .slice A7 (is.length + 1) c7]) from
    ⟨A, c, A7, c7, hs ++ [.agg #[.int .i64 tx.k, .int .i64 tx.n, .string tx.s, .slice C tx.ns.length d, .slice C2 tx.is.length d2]], by rw [List.length_append]; rfl, (HNR.out.below hbf).weak (fun _ _ h => .inl h), by
      rw [show (is ++ [tx]).length = is.length + 1 by simp, show flat (hs ++ [.agg #[.int .i64 tx.k, .int .i64 tx.n, .string tx.s, .slice C tx.ns.length d, .slice C2 tx.is.length d2]]) = flat hs ++ ([.int .i64 tx.k, .int .i64 tx.n, .string tx.s, .slice C tx.ns.length d, .slice C2 tx.is.length d2] : List Value) by simp [flat, Value.cells]]
      exact (Rp.own hoi).weak (fun x _ hx => .inr (by have := hx.1; omega)), ((HHW.out.below hbf).weak (q := fun x => E x ∨ w.heap.size ≤ x) (fun _ _ h => .inl h)).push ((HJX.out.below hbf).weak (fun _ _ h => .inl h))⟩)
  clear hoi l0 l1 l2
  have HBF := Lib.hid hbf
  obtain ⟨q0, q1, q2, q3, q4⟩ := Rv.cells5 (Rv.sets5 HZF.out (.int .i64 4) (.int .i64 n) (.string s) (.slice A ns.length c) (.slice A7 (is.length + 1) c7))
  clear y0 y1 y2 y3 y4 s0 s1 s2 s3 s4 z0 z1 z2 z3 z4 gs hgg sb hbf
  refine bodyPost_ret (v := .tuple #[.agg #[.int .i64 4, .int .i64 n, .string s, .slice A ns.length c, .slice A7 (is.length + 1) c7], .bool true]) ?_ rfl ⟨_, _, rfl, HJF.out, HBF.out⟩
  simp only [results, show Tryz.f11.results = #[.cell 10 26, .tmp 11] by kernel_rfl]
  go_simp
theorem put_noadd (E : Nat → Prop) (sb : Bool) (kk n : Int) (s : ByteArray) (ns : List ByteArray) (is : List J) (tx : J) (v vx : Value) (x : ByteArray) (si : Nat) (bl ol cl : Nat) (w : World) (hE : ∀ x, E x → x < w.heap.size) (hj : JN E w (.mk kk n s ns is) v) (hx : JN E w tx vx)
    (h8 : is.length ≤ 8) (hn8 : ns.length ≤ 8) (hK : fI (.mk kk n s ns is) ⟨x, si, sb⟩ = -1) (hl : Rd w 3 (.slice (some ⟨bl, ol, none⟩) 1 cl) 1 (stc [⟨x, si, sb⟩])) :
    Calls Tryz.prog 11 #[v, .slice (some ⟨bl, ol, none⟩) 1 cl, vx, .bool true, .bool false] w (OutP E (.mk kk n s ns is) w) := by
  have hj0 := hj
  obtain ⟨A, c, A2, c2, hs, rfl, hn, hI, hH⟩ := hj0
  obtain ⟨C, d, C2, d2, rfl, _⟩ := hx.five
  obtain ⟨bl', ol', ea, hbl, l0, l1, l2⟩ := st_at (l := [(⟨x, si, sb⟩ : Sp)]) hl 0 (by simp)
  (injection ea with ea); (injection ea with ea1 ea2 _); subst ea1; subst ea2
  rw [Nat.zero_mul, Nat.add_zero] at l0 l1 l2
  simp only [List.getElem_cons_zero] at l0 l1 l2
  have HA := Lib.hid (old_blk (o := .cells #[.int .i64 0, .int .i64 0, .string ⟨#[]⟩, .slice none 0 0, .slice none 0 0] 26) (old_blk (o := .cells #[.int .i64 tx.k, .int .i64 tx.n, .string tx.s, .slice C tx.ns.length d, .slice C2 tx.is.length d2] 26) (heap_alloc_new w (.cells #[.int .i64 kk, .int .i64 n, .string s, .slice A ns.length c, .slice A2 is.length c2] 26))))
  have HXB := Lib.hid (old_blk (o := .cells #[.int .i64 0, .int .i64 0, .string ⟨#[]⟩, .slice none 0 0, .slice none 0 0] 26) (show ((w.alloc (.cells #[.int .i64 kk, .int .i64 n, .string s, .slice A ns.length c, .slice A2 is.length c2] 26)).alloc (.cells #[.int .i64 tx.k, .int .i64 tx.n, .string tx.s, .slice C tx.ns.length d, .slice C2 tx.is.length d2] 26)).heap[w.heap.size + 1]? = some (.cells #[.int .i64 tx.k, .int .i64 tx.n, .string tx.s, .slice C tx.ns.length d, .slice C2 tx.is.length d2] 26 (0, 0)) from by
    have := heap_alloc_new (w.alloc (.cells #[.int .i64 kk, .int .i64 n, .string s, .slice A ns.length c, .slice A2 is.length c2] 26)) (.cells #[.int .i64 tx.k, .int .i64 tx.n, .string tx.s, .slice C tx.ns.length d, .slice C2 tx.is.length d2] 26)
    simpa using this))
  have HZ := Lib.hid (show (((w.alloc (.cells #[.int .i64 kk, .int .i64 n, .string s, .slice A ns.length c, .slice A2 is.length c2] 26)).alloc (.cells #[.int .i64 tx.k, .int .i64 tx.n, .string tx.s, .slice C tx.ns.length d, .slice C2 tx.is.length d2] 26)).alloc (.cells #[.int .i64 0, .int .i64 0, .string ⟨#[]⟩, .slice none 0 0, .slice none 0 0] 26)).heap[w.heap.size + 1 + 1]? = some (.cells #[.int .i64 0, .int .i64 0, .string ⟨#[]⟩, .slice none 0 0, .slice none 0 0] 26 (0, 0)) from by
    have := heap_alloc_new ((w.alloc (.cells #[.int .i64 kk, .int .i64 n, .string s, .slice A ns.length c, .slice A2 is.length c2] 26)).alloc (.cells #[.int .i64 tx.k, .int .i64 tx.n, .string tx.s, .slice C tx.ns.length d, .slice C2 tx.is.length d2] 26)) (.cells #[.int .i64 0, .int .i64 0, .string ⟨#[]⟩, .slice none 0 0, .slice none 0 0] 26)
    simpa using this)
  have hX : Below w.heap.size w (((w.alloc (.cells #[.int .i64 kk, .int .i64 n, .string s, .slice A ns.length c, .slice A2 is.length c2] 26)).alloc (.cells #[.int .i64 tx.k, .int .i64 tx.n, .string tx.s, .slice C tx.ns.length d, .slice C2 tx.is.length d2] 26)).alloc (.cells #[.int .i64 0, .int .i64 0, .string ⟨#[]⟩, .slice none 0 0, .slice none 0 0] 26)) := (((Below.refl _ _).alloc (Nat.le_refl _) _).alloc (by simp) _).alloc (by simp; omega) _
  have HX := Lib.hid hX
  have HJX := Lib.hid hx
  have HJ := Lib.hid hj
  have HHW := Lib.hid hH
  have HES := Lib.hid hE
  have HRN := Lib.hid (fun (W : World) (hb : Below w.heap.size w W) => hn.1.below hb)
  have HRI := Lib.hid (fun (W : World) (hb : Below w.heap.size w W) => hI.1.below hb)
  have HNR := Lib.hid hn
  have HFC := Lib.hid (flat_cells hH)
  have HXC := Lib.hid (show ∀ u ∈ ([.int .i64 tx.k, .int .i64 tx.n, .string tx.s, .slice C tx.ns.length d, .slice C2 tx.is.length d2] : List Value), u.oneCell' = true from by simp [Value.oneCell'])
  have HLW := Lib.hid (fun (W : World) (hb : Below w.heap.size w W) => show W.cell? ⟨bl, ol, none⟩ = some (.string x) ∧ W.cell? ⟨bl, ol + 1, none⟩ = some (.int .i64 (si : Int)) ∧ W.cell? ⟨bl, ol + 2, none⟩ = some (.bool sb) from
    ⟨(hb.cell (p := ⟨bl, ol, none⟩) hbl).trans l0, (hb.cell (p := ⟨bl, ol + 1, none⟩) hbl).trans l1, (hb.cell (p := ⟨bl, ol + 2, none⟩) hbl).trans l2⟩)
  have FIW := Lib.hid (fun (W : World) (hb : Below w.heap.size w W) => show Calls Tryz.prog 24 #[.agg #[.int .i64 kk, .int .i64 n, .string s, .slice A ns.length c, .slice A2 is.length c2], .agg #[.string x, .int .i64 (si : Int), .bool sb]] W fun e w' => e = .returned (.int .i64 (-1)) ∧ Below W.heap.size W w' from by
    have h := find_sp (.mk kk n s ns is) _ _ ⟨x, si, sb⟩ W (hj.below hb) hn8 h8
    rwa [hK] at h)
  have HXS := Lib.hid (show w.heap.size + 1 + 1 + 1 ≤ (((w.alloc (.cells #[.int .i64 kk, .int .i64 n, .string s, .slice A ns.length c, .slice A2 is.length c2] 26)).alloc (.cells #[.int .i64 tx.k, .int .i64 tx.n, .string tx.s, .slice C tx.ns.length d, .slice C2 tx.is.length d2] 26)).alloc (.cells #[.int .i64 0, .int .i64 0, .string ⟨#[]⟩, .slice none 0 0, .slice none 0 0] 26)).heap.size by simp)
  clear hj hx hn hI hH hX hl hK l0 l1 l2
  go_enter Tryz.func11, Tryz.ntmps11
  go_upto_region 5 with fail
  generalize ((w.alloc (.cells #[.int .i64 kk, .int .i64 n, .string s, .slice A ns.length c, .slice A2 is.length c2] 26)).alloc (.cells #[.int .i64 tx.k, .int .i64 tx.n, .string tx.s, .slice C tx.ns.length d, .slice C2 tx.is.length d2] 26)).alloc (.cells #[.int .i64 0, .int .i64 0, .string ⟨#[]⟩, .slice none 0 0, .slice none 0 0] 26) = X at *
  have hga := Rv.lt_of_blk HA.out
  have hgb := Rv.lt_of_blk HXB.out
  have hgz := Rv.lt_of_blk HZ.out
  have FI := Lib.hid (fun (W : World) (hb : Below X.heap.size X W) => FIW.out W (HX.out.trans (hb.mono HX.out.size)))
  have HL := Lib.hid (fun (W : World) (hb : Below X.heap.size X W) => HLW.out W (HX.out.trans (hb.mono HX.out.size)))
  refine Rv.region_goods (n := 102) (by kernel_rfl) #[21, 22, 23, 24, 25, 12] #[] (fun i v W => v = (#[.agg #[.int .i64 kk, .int .i64 n, .string s, .slice A ns.length c, .slice A2 is.length c2], .slice (some ⟨bl, ol, none⟩) 1 cl, .pointer (some ⟨bl, ol, none⟩), .agg #[.string x, .int .i64 (si : Int), .bool sb], .int .i64 (-1), .int .i64 (-1)] : Array Value).getD i undef) (fun i v w w' h hb => ?_) (fun i h g b hg => ?_) rfl (by kernel_rfl) (by kernel_rfl) (fun i h hr w => ?_) ?_ ?_
  · exact h
  · match i, h, hg with
    | 0, _, hg => cases hg
    | 1, _, hg => cases hg
    | 2, _, hg => cases hg
    | 3, _, hg => cases hg
    | 4, _, hg => cases hg
    | 5, _, hg => cases hg
    | m + 6, h, _ => exact absurd h (by show ¬ m + 6 < 6; omega)
  · match i, h, hr with
    | 0, _, hr => exact Bool.noConfusion (show true = false from hr)
    | 1, _, hr => exact Bool.noConfusion (show true = false from hr)
    | 2, _, hr => exact Bool.noConfusion (show true = false from hr)
    | 3, _, hr => exact Bool.noConfusion (show true = false from hr)
    | 4, _, hr => exact Bool.noConfusion (show true = false from hr)
    | 5, _, hr => exact Bool.noConfusion (show true = false from hr)
    | m + 6, h, _ => exact absurd h (by show ¬ m + 6 < 6; omega)
  · intro i h a W hrun hbase hpre hdep htr
    obtain ⟨y0, y1, y2, y3, y4⟩ := Rv.cells5 ((htr.block _ hga).trans HA.out)
    obtain ⟨l0, l1, l2⟩ := HL.out W htr
    match i, h with
    | 0, _ =>
      obtain ⟨e5, x5⟩ := Rv.ev (show a.tmps.getD 5 undef = .pointer (some ⟨w.heap.size, 0, none⟩) from hbase 5 rfl)
      exact Rv.step_op (op := Go.Op.load 26 (Go.Operand.tmp 5)) (v := .agg #[.int .i64 kk, .int .i64 n, .string s, .slice A ns.length c, .slice A2 is.length c2]) (w1 := W) rfl rfl (fun d pos aft g => by unfold execOp; go_simp) ⟨_, rfl, rfl, Below.refl _ _⟩
    | 1, _ =>
      obtain ⟨e1, x1⟩ := Rv.ev (show a.tmps.getD 1 undef = .slice (some ⟨bl, ol, none⟩) 1 cl from hbase 1 rfl)
      exact Rv.step_op (op := Go.Op.move (Go.Operand.tmp 1)) (v := .slice (some ⟨bl, ol, none⟩) 1 cl) (w1 := W) rfl rfl (fun d pos aft g => by unfold execOp; go_simp) ⟨_, rfl, rfl, Below.refl _ _⟩
    | 2, _ =>
      obtain ⟨e22, x22⟩ := Rv.ev (show a.tmps.getD 22 undef = .slice (some ⟨bl, ol, none⟩) 1 cl from hdep 1 rfl)
      exact Rv.step_op (op := Go.Op.indexAddr 28 (Go.Operand.tmp 22) (Go.Operand.const (Go.Value.int Go.IntKind.i64 0))) (v := .pointer (some ⟨bl, ol, none⟩)) (w1 := W) rfl rfl (fun d pos aft g => by unfold execOp; go_simp) ⟨_, rfl, rfl, Below.refl _ _⟩
    | 3, _ =>
      obtain ⟨e23, x23⟩ := Rv.ev (show a.tmps.getD 23 undef = .pointer (some ⟨bl, ol, none⟩) from hdep 2 rfl)
      exact Rv.step_op (op := Go.Op.load 51 (Go.Operand.tmp 23)) (v := .agg #[.string x, .int .i64 (si : Int), .bool sb]) (w1 := W) rfl rfl (fun d pos aft g => by unfold execOp; go_simp) ⟨_, rfl, rfl, Below.refl _ _⟩
    | 4, _ =>
      obtain ⟨e21, x21⟩ := Rv.ev (show a.tmps.getD 21 undef = .agg #[.int .i64 kk, .int .i64 n, .string s, .slice A ns.length c, .slice A2 is.length c2] from hdep 0 rfl)
      obtain ⟨e24, x24⟩ := Rv.ev (show a.tmps.getD 24 undef = .agg #[.string x, .int .i64 (si : Int), .bool sb] from hdep 3 rfl)
      have cf : ∀ x0 x1 W, (callFunc 24 #[x0, x1]).run Tryz.prog W = .ok (.enter 24 #[x0, x1]) W := fun _ _ _ => by kernel_rfl
      refine Rv.step_fn (op := Go.Op.call { callee := Go.Callee.value (Go.Operand.func 24), args := #[Go.Operand.tmp 21, Go.Operand.tmp 24], argTypes := #[26, 51] }) (f := 24) (args := #[.agg #[.int .i64 kk, .int .i64 n, .string s, .slice A ns.length c, .slice A2 is.length c2], .agg #[.string x, .int .i64 (si : Int), .bool sb]]) (R := fun v W' => v = .int .i64 (-1) ∧ Below W.heap.size W W') rfl rfl (fun d pos aft g => by unfold execOp; go_simp) ((FI.out W htr).mono ?_) ?_
      · (rintro e W' ⟨rfl, hb⟩; exact ⟨_, rfl, rfl, hb⟩)
      · (rintro v W' ⟨rfl, hb⟩; exact ⟨_, rfl, rfl, hb⟩)
    | 5, _ =>
      obtain ⟨e25, x25⟩ := Rv.ev (show a.tmps.getD 25 undef = .int .i64 (-1) from hdep 4 rfl)
      exact Rv.step_op (op := Go.Op.assign (Go.Operand.tmp 25)) (v := .int .i64 (-1)) (w1 := W) rfl rfl (fun d pos aft g => by unfold execOp; go_simp) ⟨_, rfl, rfl, Below.refl _ _⟩
    | m + 6, h => exact absurd h (by show ¬ m + 6 < 6; omega)
  intro W f hf htr
  have f0 : f 0 = .agg #[.int .i64 kk, .int .i64 n, .string s, .slice A ns.length c, .slice A2 is.length c2] := hf 0 (by show 0 < 6; omega)
  have f1 : f 1 = .slice (some ⟨bl, ol, none⟩) 1 cl := hf 1 (by show 1 < 6; omega)
  have f2 : f 2 = .pointer (some ⟨bl, ol, none⟩) := hf 2 (by show 2 < 6; omega)
  have f3 : f 3 = .agg #[.string x, .int .i64 (si : Int), .bool sb] := hf 3 (by show 3 < 6; omega)
  have f4 : f 4 = .int .i64 (-1) := hf 4 (by show 4 < 6; omega)
  have f5 : f 5 = .int .i64 (-1) := hf 5 (by show 5 < 6; omega)
  refine (show ∀ (a : Act) (w : World), Code.wp _ _ _ a w → _ from by assumption) _ _ ?_
  refine Rv.fin_swap (L' := [(21, f 0), (22, f 1), (23, f 2), (24, f 3), (25, f 4), (12, f 5)]) rfl ?_
  rw [f0, f1, f2, f3, f4, f5]
  clear f0 f1 f2 f3 f4 f5
  simp only [Rv.fin, List.foldl_cons, List.foldl_nil, Act.put, List.setIfInBounds_toArray, List.set_cons_succ, List.set_cons_zero]
  have HX := Lib.hid (HX.out.trans (htr.mono HX.out.size))
  have HA := Lib.hid ((htr.block _ hga).trans HA.out)
  have HXB := Lib.hid ((htr.block _ hgb).trans HXB.out)
  have HZ := Lib.hid ((htr.block _ hgz).trans HZ.out)
  clear hf htr HL hga hgb hgz
  clear FI FIW
  go_upto_region 9 with fail
  rename World => X1
  generalize X1 = X at *
  have hga := Rv.lt_of_blk HA.out
  have hgb := Rv.lt_of_blk HXB.out
  have hgz := Rv.lt_of_blk HZ.out
  have HL := Lib.hid (fun (W : World) (hb : Below X.heap.size X W) => HLW.out W (HX.out.trans (hb.mono HX.out.size)))
  refine Rv.region_goods (n := 102) (by kernel_rfl) #[47, 48, 49, 50, 51, 52, 53, 54, 55, 56, 57, 58, 59, 60, 61, 62, 63, 64, 65, 66, 67, 68, 69, 70, 71, 72, 73, 74, 75] #[none, none, none, some false, none, none, none, some true, none, none, none, none, none, none, none, none, none, some true, none, none, none, none, none, none] (fun i v W => v = (#[.slice (some ⟨bl, ol, none⟩) 1 cl, .int .i64 1, .bool false, .bool false, .bool false, .bool true, .bool true, .bool true, undef, undef, undef, undef, undef, undef, undef, undef, .bool true, .bool true, undef, undef, undef, undef, undef, undef, undef, undef, undef, undef, .bool true] : Array Value).getD i undef) (fun i v w w' h hb => ?_) (fun i h g b hg => ?_) rfl (by kernel_rfl) (by kernel_rfl) (fun i h hr w => ?_) ?_ ?_
  · exact h
  · match i, h, hg with
    | 0, _, hg => cases hg
    | 1, _, hg => cases hg
    | 2, _, hg => cases hg
    | 3, _, hg => cases hg
    | 4, _, hg => (cases hg; exact fun v w e => e)
    | 5, _, hg => (cases hg; exact fun v w e => e)
    | 6, _, hg => cases hg
    | 7, _, hg => cases hg
    | 8, _, hg => (cases hg; exact fun v w e => e)
    | 9, _, hg => (cases hg; exact fun v w e => e)
    | 10, _, hg => (cases hg; exact fun v w e => e)
    | 11, _, hg => (cases hg; exact fun v w e => e)
    | 12, _, hg => (cases hg; exact fun v w e => e)
    | 13, _, hg => (cases hg; exact fun v w e => e)
    | 14, _, hg => (cases hg; exact fun v w e => e)
    | 15, _, hg => (cases hg; exact fun v w e => e)
    | 16, _, hg => cases hg
    | 17, _, hg => cases hg
    | 18, _, hg => (cases hg; exact fun v w e => e)
    | 19, _, hg => (cases hg; exact fun v w e => e)
    | 20, _, hg => (cases hg; exact fun v w e => e)
    | 21, _, hg => (cases hg; exact fun v w e => e)
    | 22, _, hg => (cases hg; exact fun v w e => e)
    | 23, _, hg => (cases hg; exact fun v w e => e)
    | 24, _, hg => (cases hg; exact fun v w e => e)
    | 25, _, hg => (cases hg; exact fun v w e => e)
    | 26, _, hg => (cases hg; exact fun v w e => e)
    | 27, _, hg => (cases hg; exact fun v w e => e)
    | 28, _, hg => cases hg
    | m + 29, h, _ => exact absurd h (by show ¬ m + 29 < 29; omega)
  · match i, h, hr with
    | 0, _, hr => exact Bool.noConfusion (show true = false from hr)
    | 1, _, hr => exact Bool.noConfusion (show true = false from hr)
    | 2, _, hr => exact Bool.noConfusion (show true = false from hr)
    | 3, _, hr => exact Bool.noConfusion (show true = false from hr)
    | 4, _, hr => exact Bool.noConfusion (show true = false from hr)
    | 5, _, hr => exact Bool.noConfusion (show true = false from hr)
    | 6, _, hr => exact Bool.noConfusion (show true = false from hr)
    | 7, _, hr => exact Bool.noConfusion (show true = false from hr)
    | 8, _, hr => rfl
    | 9, _, hr => rfl
    | 10, _, hr => rfl
    | 11, _, hr => rfl
    | 12, _, hr => rfl
    | 13, _, hr => rfl
    | 14, _, hr => rfl
    | 15, _, hr => rfl
    | 16, _, hr => exact Bool.noConfusion (show true = false from hr)
    | 17, _, hr => exact Bool.noConfusion (show true = false from hr)
    | 18, _, hr => rfl
    | 19, _, hr => rfl
    | 20, _, hr => rfl
    | 21, _, hr => rfl
    | 22, _, hr => rfl
    | 23, _, hr => rfl
    | 24, _, hr => rfl
    | 25, _, hr => rfl
    | 26, _, hr => rfl
    | 27, _, hr => rfl
    | 28, _, hr => exact Bool.noConfusion (show true = false from hr)
    | m + 29, h, _ => exact absurd h (by show ¬ m + 29 < 29; omega)
  · intro i h a W hrun hbase hpre hdep htr
    obtain ⟨y0, y1, y2, y3, y4⟩ := Rv.cells5 ((htr.block _ hga).trans HA.out)
    obtain ⟨l0, l1, l2⟩ := HL.out W htr
    match i, h with
    | 0, _ =>
      obtain ⟨e1, x1⟩ := Rv.ev (show a.tmps.getD 1 undef = .slice (some ⟨bl, ol, none⟩) 1 cl from hbase 1 rfl)
      exact Rv.step_op (op := Go.Op.move (Go.Operand.tmp 1)) (v := .slice (some ⟨bl, ol, none⟩) 1 cl) (w1 := W) rfl rfl (fun d pos aft g => by unfold execOp; go_simp) ⟨_, rfl, rfl, Below.refl _ _⟩
    | 1, _ =>
      obtain ⟨e47, x47⟩ := Rv.ev (show a.tmps.getD 47 undef = .slice (some ⟨bl, ol, none⟩) 1 cl from hdep 0 rfl)
      exact Rv.step_op (op := Go.Op.call { callee := Go.Callee.builtin Go.Builtin.len, args := #[Go.Operand.tmp 47], argTypes := #[28] }) (v := .int .i64 1) (w1 := W) rfl rfl (fun d pos aft g => by unfold execOp; go_simp) ⟨_, rfl, rfl, Below.refl _ _⟩
    | 2, _ =>
      obtain ⟨e48, x48⟩ := Rv.ev (show a.tmps.getD 48 undef = .int .i64 1 from hdep 1 rfl)
      exact Rv.step_op (op := Go.Op.binOp Go.BinOp.gtr 3 (Go.Operand.tmp 48) (Go.Operand.const (Go.Value.int Go.IntKind.i64 1)) 3) (v := .bool false) (w1 := W) rfl rfl (fun d pos aft g => by unfold execOp; go_simp) ⟨_, rfl, rfl, Below.refl _ _⟩
    | 3, _ =>
      obtain ⟨e49, x49⟩ := Rv.ev (show a.tmps.getD 49 undef = .bool false from hdep 2 rfl)
      exact Rv.step_op (op := Go.Op.move (Go.Operand.tmp 49)) (v := .bool false) (w1 := W) rfl rfl (fun d pos aft g => by unfold execOp; go_simp) ⟨_, rfl, rfl, Below.refl _ _⟩
    | 4, _ =>
      obtain ⟨e4, x4⟩ := Rv.ev (show a.tmps.getD 4 undef = .bool false from hbase 4 rfl)
      exact Rv.step_op (op := Go.Op.move (Go.Operand.tmp 4)) (v := .bool false) (w1 := W) rfl rfl (fun d pos aft g => by unfold execOp; go_simp) ⟨_, rfl, rfl, Below.refl _ _⟩
    | 5, _ =>
      obtain ⟨e51, x51⟩ := Rv.ev (show a.tmps.getD 51 undef = .bool false from hdep 4 rfl)
      exact Rv.step_op (op := Go.Op.unOp Go.UnOp.not 4 (Go.Operand.tmp 51)) (v := .bool true) (w1 := W) rfl rfl (fun d pos aft g => by unfold execOp; go_simp) ⟨_, rfl, rfl, Below.refl _ _⟩
    | 6, _ =>
      obtain ⟨e50, x50⟩ := Rv.ev (show a.tmps.getD 50 undef = .bool false from hdep 3 rfl)
      obtain ⟨e52, x52⟩ := Rv.ev (show a.tmps.getD 52 undef = .bool true from hdep 5 rfl)
      exact Rv.step_op (op := Go.Op.pick (Go.Operand.tmp 50) (Go.Operand.const (Go.Value.bool true)) (Go.Operand.tmp 52)) (v := .bool true) (w1 := W) rfl rfl (fun d pos aft g => by unfold execOp; go_simp) ⟨_, rfl, rfl, Below.refl _ _⟩
    | 7, _ =>
      obtain ⟨e53, x53⟩ := Rv.ev (show a.tmps.getD 53 undef = .bool true from hdep 6 rfl)
      exact Rv.step_op (op := Go.Op.move (Go.Operand.tmp 53)) (v := .bool true) (w1 := W) rfl rfl (fun d pos aft g => by unfold execOp; go_simp) ⟨_, rfl, rfl, Below.refl _ _⟩
    | 8, _ => exact Bool.noConfusion (show false = true from hrun)
    | 9, _ => exact Bool.noConfusion (show false = true from hrun)
    | 10, _ => exact Bool.noConfusion (show false = true from hrun)
    | 11, _ => exact Bool.noConfusion (show false = true from hrun)
    | 12, _ => exact Bool.noConfusion (show false = true from hrun)
    | 13, _ => exact Bool.noConfusion (show false = true from hrun)
    | 14, _ => exact Bool.noConfusion (show false = true from hrun)
    | 15, _ => exact Bool.noConfusion (show false = true from hrun)
    | 16, _ =>
      obtain ⟨e54, x54⟩ := Rv.ev (show a.tmps.getD 54 undef = .bool true from hdep 7 rfl)
      obtain ⟨e62, x62⟩ := Rv.ev (show a.tmps.getD 62 undef = undef from hdep 15 rfl)
      exact Rv.step_op (op := Go.Op.pick (Go.Operand.tmp 54) (Go.Operand.const (Go.Value.bool true)) (Go.Operand.tmp 62)) (v := .bool true) (w1 := W) rfl rfl (fun d pos aft g => by unfold execOp; go_simp) ⟨_, rfl, rfl, Below.refl _ _⟩
    | 17, _ =>
      obtain ⟨e63, x63⟩ := Rv.ev (show a.tmps.getD 63 undef = .bool true from hdep 16 rfl)
      exact Rv.step_op (op := Go.Op.move (Go.Operand.tmp 63)) (v := .bool true) (w1 := W) rfl rfl (fun d pos aft g => by unfold execOp; go_simp) ⟨_, rfl, rfl, Below.refl _ _⟩
    | 18, _ => exact Bool.noConfusion (show false = true from hrun)
    | 19, _ => exact Bool.noConfusion (show false = true from hrun)
    | 20, _ => exact Bool.noConfusion (show false = true from hrun)
    | 21, _ => exact Bool.noConfusion (show false = true from hrun)
    | 22, _ => exact Bool.noConfusion (show false = true from hrun)
    | 23, _ => exact Bool.noConfusion (show false = true from hrun)
    | 24, _ => exact Bool.noConfusion (show false = true from hrun)
    | 25, _ => exact Bool.noConfusion (show false = true from hrun)
    | 26, _ => exact Bool.noConfusion (show false = true from hrun)
    | 27, _ => exact Bool.noConfusion (show false = true from hrun)
    | 28, _ =>
      obtain ⟨e64, x64⟩ := Rv.ev (show a.tmps.getD 64 undef = .bool true from hdep 17 rfl)
      obtain ⟨e74, x74⟩ := Rv.ev (show a.tmps.getD 74 undef = undef from hdep 27 rfl)
      exact Rv.step_op (op := Go.Op.pick (Go.Operand.tmp 64) (Go.Operand.const (Go.Value.bool true)) (Go.Operand.tmp 74)) (v := .bool true) (w1 := W) rfl rfl (fun d pos aft g => by unfold execOp; go_simp) ⟨_, rfl, rfl, Below.refl _ _⟩
    | m + 29, h => exact absurd h (by show ¬ m + 29 < 29; omega)
  intro W f hf htr
  have f0 : f 0 = .slice (some ⟨bl, ol, none⟩) 1 cl := hf 0 (by show 0 < 29; omega)
  have f1 : f 1 = .int .i64 1 := hf 1 (by show 1 < 29; omega)
  have f2 : f 2 = .bool false := hf 2 (by show 2 < 29; omega)
  have f3 : f 3 = .bool false := hf 3 (by show 3 < 29; omega)
  have f4 : f 4 = .bool false := hf 4 (by show 4 < 29; omega)
  have f5 : f 5 = .bool true := hf 5 (by show 5 < 29; omega)
  have f6 : f 6 = .bool true := hf 6 (by show 6 < 29; omega)
  have f7 : f 7 = .bool true := hf 7 (by show 7 < 29; omega)
  have f8 : f 8 = undef := hf 8 (by show 8 < 29; omega)
  have f9 : f 9 = undef := hf 9 (by show 9 < 29; omega)
  have f10 : f 10 = undef := hf 10 (by show 10 < 29; omega)
  have f11 : f 11 = undef := hf 11 (by show 11 < 29; omega)
  have f12 : f 12 = undef := hf 12 (by show 12 < 29; omega)
  have f13 : f 13 = undef := hf 13 (by show 13 < 29; omega)
  have f14 : f 14 = undef := hf 14 (by show 14 < 29; omega)
  have f15 : f 15 = undef := hf 15 (by show 15 < 29; omega)
  have f16 : f 16 = .bool true := hf 16 (by show 16 < 29; omega)
  have f17 : f 17 = .bool true := hf 17 (by show 17 < 29; omega)
  have f18 : f 18 = undef := hf 18 (by show 18 < 29; omega)
  have f19 : f 19 = undef := hf 19 (by show 19 < 29; omega)
  have f20 : f 20 = undef := hf 20 (by show 20 < 29; omega)
  have f21 : f 21 = undef := hf 21 (by show 21 < 29; omega)
  have f22 : f 22 = undef := hf 22 (by show 22 < 29; omega)
  have f23 : f 23 = undef := hf 23 (by show 23 < 29; omega)
  have f24 : f 24 = undef := hf 24 (by show 24 < 29; omega)
  have f25 : f 25 = undef := hf 25 (by show 25 < 29; omega)
  have f26 : f 26 = undef := hf 26 (by show 26 < 29; omega)
  have f27 : f 27 = undef := hf 27 (by show 27 < 29; omega)
  have f28 : f 28 = .bool true := hf 28 (by show 28 < 29; omega)
  refine (show ∀ (a : Act) (w : World), Code.wp _ _ _ a w → _ from by assumption) _ _ ?_
  refine Rv.fin_swap (L' := [(47, f 0), (48, f 1), (49, f 2), (50, f 3), (51, f 4), (52, f 5), (53, f 6), (54, f 7), (55, f 8), (56, f 9), (57, f 10), (58, f 11), (59, f 12), (60, f 13), (61, f 14), (62, f 15), (63, f 16), (64, f 17), (65, f 18), (66, f 19), (67, f 20), (68, f 21), (69, f 22), (70, f 23), (71, f 24), (72, f 25), (73, f 26), (74, f 27), (75, f 28)]) rfl ?_
  rw [f0, f1, f2, f3, f4, f5, f6, f7, f8, f9, f10, f11, f12, f13, f14, f15, f16, f17, f18, f19, f20, f21, f22, f23, f24, f25, f26, f27, f28]
  clear f0 f1 f2 f3 f4 f5 f6 f7 f8 f9 f10 f11 f12 f13 f14 f15 f16 f17 f18 f19 f20 f21 f22 f23 f24 f25 f26 f27 f28
  simp only [Rv.fin, List.foldl_cons, List.foldl_nil, Act.put, List.setIfInBounds_toArray, List.set_cons_succ, List.set_cons_zero]
  have HX := Lib.hid (HX.out.trans (htr.mono HX.out.size))
  have HA := Lib.hid ((htr.block _ hga).trans HA.out)
  have HXB := Lib.hid ((htr.block _ hgb).trans HXB.out)
  have HZ := Lib.hid ((htr.block _ hgz).trans HZ.out)
  clear hf htr HL hga hgb hgz
  have HXF := HX
  have HZF := HZ
  obtain ⟨y0, y1, y2, y3, y4⟩ := Rv.cells5 HA.out
  obtain ⟨s0, s1, s2, s3, s4⟩ := Rv.cells5 HZF.out
  obtain ⟨z0, z1, z2, z3, z4⟩ := Rv.frozen5 HZF.out
  go_wp2
  have gs := fun (W : World) j u => grown_set (Below.refl _ W) (w.heap.size + 1 + 1) j u
  have hgg := (grown_then (grown_then (grown_then (grown_then (gs W 0 (.int .i64 kk)) (gs _ 1 (.int .i64 n))) (gs _ 2 (.string s))) (gs _ 3 (.slice A ns.length c))) (gs _ 4 (.slice A2 is.length c2)))
  have sb : ∀ (V : World) (j : Nat) (u : Value), Below w.heap.size w V → Below w.heap.size w (V.setCell ⟨w.heap.size + 1 + 1, j, none⟩ u) := fun V j u h => h.setCell (by show w.heap.size ≤ w.heap.size + 1 + 1; omega) u
  have hbf := (sb _ 4 (.slice A2 is.length c2) (sb _ 3 (.slice A ns.length c) (sb _ 2 (.string s) (sb _ 1 (.int .i64 n) (sb _ 0 (.int .i64 kk) HXF.out)))))
  have HJF := Lib.hid (((HJ.out.below HXF.out).grown hgg (fun x hx e => by have := HES.out x hx; injection e with e; omega)).weak (q := fun x => E x ∨ w.heap.size ≤ x) (fun x _ hx => .inl hx))
  have HBF := Lib.hid hbf
  obtain ⟨q0, q1, q2, q3, q4⟩ := Rv.cells5 (Rv.sets5 HZF.out (.int .i64 kk) (.int .i64 n) (.string s) (.slice A ns.length c) (.slice A2 is.length c2))
  clear y0 y1 y2 y3 y4 s0 s1 s2 s3 s4 z0 z1 z2 z3 z4 gs hgg sb hbf
  refine bodyPost_ret (v := .tuple #[.agg #[.int .i64 kk, .int .i64 n, .string s, .slice A ns.length c, .slice A2 is.length c2], .bool false]) ?_ rfl ⟨_, _, rfl, HJF.out, HBF.out⟩
  simp only [results, show Tryz.f11.results = #[.cell 10 26, .tmp 11] by kernel_rfl]
  go_simp
theorem put_noarr (E : Nat → Prop) (n : Int) (s : ByteArray) (ns : List ByteArray) (is : List J) (tx : J) (v vx : Value) (x : ByteArray) (si : Nat) (bl ol cl : Nat) (w : World) (hE : ∀ x, E x → x < w.heap.size) (hj : JN E w (.mk 4 n s ns is) v) (hx : JN E w tx vx)
    (h8 : is.length ≤ 8) (hn8 : ns.length ≤ 8) (hK : fI (.mk 4 n s ns is) ⟨x, si, false⟩ = -1) (hl : Rd w 3 (.slice (some ⟨bl, ol, none⟩) 1 cl) 1 (stc [⟨x, si, false⟩])) :
    Calls Tryz.prog 11 #[v, .slice (some ⟨bl, ol, none⟩) 1 cl, vx, .bool true, .bool true] w (OutP E (.mk 4 n s ns is) w) := by
  have hj0 := hj
  obtain ⟨A, c, A2, c2, hs, rfl, hn, hI, hH⟩ := hj0
  obtain ⟨C, d, C2, d2, rfl, _⟩ := hx.five
  obtain ⟨bl', ol', ea, hbl, l0, l1, l2⟩ := st_at (l := [(⟨x, si, false⟩ : Sp)]) hl 0 (by simp)
  (injection ea with ea); (injection ea with ea1 ea2 _); subst ea1; subst ea2
  rw [Nat.zero_mul, Nat.add_zero] at l0 l1 l2
  simp only [List.getElem_cons_zero] at l0 l1 l2
  have HA := Lib.hid (old_blk (o := .cells #[.int .i64 0, .int .i64 0, .string ⟨#[]⟩, .slice none 0 0, .slice none 0 0] 26) (old_blk (o := .cells #[.int .i64 tx.k, .int .i64 tx.n, .string tx.s, .slice C tx.ns.length d, .slice C2 tx.is.length d2] 26) (heap_alloc_new w (.cells #[.int .i64 4, .int .i64 n, .string s, .slice A ns.length c, .slice A2 is.length c2] 26))))
  have HXB := Lib.hid (old_blk (o := .cells #[.int .i64 0, .int .i64 0, .string ⟨#[]⟩, .slice none 0 0, .slice none 0 0] 26) (show ((w.alloc (.cells #[.int .i64 4, .int .i64 n, .string s, .slice A ns.length c, .slice A2 is.length c2] 26)).alloc (.cells #[.int .i64 tx.k, .int .i64 tx.n, .string tx.s, .slice C tx.ns.length d, .slice C2 tx.is.length d2] 26)).heap[w.heap.size + 1]? = some (.cells #[.int .i64 tx.k, .int .i64 tx.n, .string tx.s, .slice C tx.ns.length d, .slice C2 tx.is.length d2] 26 (0, 0)) from by
    have := heap_alloc_new (w.alloc (.cells #[.int .i64 4, .int .i64 n, .string s, .slice A ns.length c, .slice A2 is.length c2] 26)) (.cells #[.int .i64 tx.k, .int .i64 tx.n, .string tx.s, .slice C tx.ns.length d, .slice C2 tx.is.length d2] 26)
    simpa using this))
  have HZ := Lib.hid (show (((w.alloc (.cells #[.int .i64 4, .int .i64 n, .string s, .slice A ns.length c, .slice A2 is.length c2] 26)).alloc (.cells #[.int .i64 tx.k, .int .i64 tx.n, .string tx.s, .slice C tx.ns.length d, .slice C2 tx.is.length d2] 26)).alloc (.cells #[.int .i64 0, .int .i64 0, .string ⟨#[]⟩, .slice none 0 0, .slice none 0 0] 26)).heap[w.heap.size + 1 + 1]? = some (.cells #[.int .i64 0, .int .i64 0, .string ⟨#[]⟩, .slice none 0 0, .slice none 0 0] 26 (0, 0)) from by
    have := heap_alloc_new ((w.alloc (.cells #[.int .i64 4, .int .i64 n, .string s, .slice A ns.length c, .slice A2 is.length c2] 26)).alloc (.cells #[.int .i64 tx.k, .int .i64 tx.n, .string tx.s, .slice C tx.ns.length d, .slice C2 tx.is.length d2] 26)) (.cells #[.int .i64 0, .int .i64 0, .string ⟨#[]⟩, .slice none 0 0, .slice none 0 0] 26)
    simpa using this)
  have hX : Below w.heap.size w (((w.alloc (.cells #[.int .i64 4, .int .i64 n, .string s, .slice A ns.length c, .slice A2 is.length c2] 26)).alloc (.cells #[.int .i64 tx.k, .int .i64 tx.n, .string tx.s, .slice C tx.ns.length d, .slice C2 tx.is.length d2] 26)).alloc (.cells #[.int .i64 0, .int .i64 0, .string ⟨#[]⟩, .slice none 0 0, .slice none 0 0] 26)) := (((Below.refl _ _).alloc (Nat.le_refl _) _).alloc (by simp) _).alloc (by simp; omega) _
  have HX := Lib.hid hX
  have HJX := Lib.hid hx
  have HJ := Lib.hid hj
  have HHW := Lib.hid hH
  have HES := Lib.hid hE
  have HRN := Lib.hid (fun (W : World) (hb : Below w.heap.size w W) => hn.1.below hb)
  have HRI := Lib.hid (fun (W : World) (hb : Below w.heap.size w W) => hI.1.below hb)
  have HNR := Lib.hid hn
  have HFC := Lib.hid (flat_cells hH)
  have HXC := Lib.hid (show ∀ u ∈ ([.int .i64 tx.k, .int .i64 tx.n, .string tx.s, .slice C tx.ns.length d, .slice C2 tx.is.length d2] : List Value), u.oneCell' = true from by simp [Value.oneCell'])
  have HLW := Lib.hid (fun (W : World) (hb : Below w.heap.size w W) => show W.cell? ⟨bl, ol, none⟩ = some (.string x) ∧ W.cell? ⟨bl, ol + 1, none⟩ = some (.int .i64 (si : Int)) ∧ W.cell? ⟨bl, ol + 2, none⟩ = some (.bool false) from
    ⟨(hb.cell (p := ⟨bl, ol, none⟩) hbl).trans l0, (hb.cell (p := ⟨bl, ol + 1, none⟩) hbl).trans l1, (hb.cell (p := ⟨bl, ol + 2, none⟩) hbl).trans l2⟩)
  have FIW := Lib.hid (fun (W : World) (hb : Below w.heap.size w W) => show Calls Tryz.prog 24 #[.agg #[.int .i64 4, .int .i64 n, .string s, .slice A ns.length c, .slice A2 is.length c2], .agg #[.string x, .int .i64 (si : Int), .bool false]] W fun e w' => e = .returned (.int .i64 (-1)) ∧ Below W.heap.size W w' from by
    have h := find_sp (.mk 4 n s ns is) _ _ ⟨x, si, false⟩ W (hj.below hb) hn8 h8
    rwa [hK] at h)
  have HXS := Lib.hid (show w.heap.size + 1 + 1 + 1 ≤ (((w.alloc (.cells #[.int .i64 4, .int .i64 n, .string s, .slice A ns.length c, .slice A2 is.length c2] 26)).alloc (.cells #[.int .i64 tx.k, .int .i64 tx.n, .string tx.s, .slice C tx.ns.length d, .slice C2 tx.is.length d2] 26)).alloc (.cells #[.int .i64 0, .int .i64 0, .string ⟨#[]⟩, .slice none 0 0, .slice none 0 0] 26)).heap.size by simp)
  clear hj hx hn hI hH hX hl hK l0 l1 l2
  go_enter Tryz.func11, Tryz.ntmps11
  go_upto_region 5 with fail
  generalize ((w.alloc (.cells #[.int .i64 4, .int .i64 n, .string s, .slice A ns.length c, .slice A2 is.length c2] 26)).alloc (.cells #[.int .i64 tx.k, .int .i64 tx.n, .string tx.s, .slice C tx.ns.length d, .slice C2 tx.is.length d2] 26)).alloc (.cells #[.int .i64 0, .int .i64 0, .string ⟨#[]⟩, .slice none 0 0, .slice none 0 0] 26) = X at *
  have hga := Rv.lt_of_blk HA.out
  have hgb := Rv.lt_of_blk HXB.out
  have hgz := Rv.lt_of_blk HZ.out
  have FI := Lib.hid (fun (W : World) (hb : Below X.heap.size X W) => FIW.out W (HX.out.trans (hb.mono HX.out.size)))
  have HL := Lib.hid (fun (W : World) (hb : Below X.heap.size X W) => HLW.out W (HX.out.trans (hb.mono HX.out.size)))
  refine Rv.region_goods (n := 102) (by kernel_rfl) #[21, 22, 23, 24, 25, 12] #[] (fun i v W => v = (#[.agg #[.int .i64 4, .int .i64 n, .string s, .slice A ns.length c, .slice A2 is.length c2], .slice (some ⟨bl, ol, none⟩) 1 cl, .pointer (some ⟨bl, ol, none⟩), .agg #[.string x, .int .i64 (si : Int), .bool false], .int .i64 (-1), .int .i64 (-1)] : Array Value).getD i undef) (fun i v w w' h hb => ?_) (fun i h g b hg => ?_) rfl (by kernel_rfl) (by kernel_rfl) (fun i h hr w => ?_) ?_ ?_
  · exact h
  · match i, h, hg with
    | 0, _, hg => cases hg
    | 1, _, hg => cases hg
    | 2, _, hg => cases hg
    | 3, _, hg => cases hg
    | 4, _, hg => cases hg
    | 5, _, hg => cases hg
    | m + 6, h, _ => exact absurd h (by show ¬ m + 6 < 6; omega)
  · match i, h, hr with
    | 0, _, hr => exact Bool.noConfusion (show true = false from hr)
    | 1, _, hr => exact Bool.noConfusion (show true = false from hr)
    | 2, _, hr => exact Bool.noConfusion (show true = false from hr)
    | 3, _, hr => exact Bool.noConfusion (show true = false from hr)
    | 4, _, hr => exact Bool.noConfusion (show true = false from hr)
    | 5, _, hr => exact Bool.noConfusion (show true = false from hr)
    | m + 6, h, _ => exact absurd h (by show ¬ m + 6 < 6; omega)
  · intro i h a W hrun hbase hpre hdep htr
    obtain ⟨y0, y1, y2, y3, y4⟩ := Rv.cells5 ((htr.block _ hga).trans HA.out)
    obtain ⟨l0, l1, l2⟩ := HL.out W htr
    match i, h with
    | 0, _ =>
      obtain ⟨e5, x5⟩ := Rv.ev (show a.tmps.getD 5 undef = .pointer (some ⟨w.heap.size, 0, none⟩) from hbase 5 rfl)
      exact Rv.step_op (op := Go.Op.load 26 (Go.Operand.tmp 5)) (v := .agg #[.int .i64 4, .int .i64 n, .string s, .slice A ns.length c, .slice A2 is.length c2]) (w1 := W) rfl rfl (fun d pos aft g => by unfold execOp; go_simp) ⟨_, rfl, rfl, Below.refl _ _⟩
    | 1, _ =>
      obtain ⟨e1, x1⟩ := Rv.ev (show a.tmps.getD 1 undef = .slice (some ⟨bl, ol, none⟩) 1 cl from hbase 1 rfl)
      exact Rv.step_op (op := Go.Op.move (Go.Operand.tmp 1)) (v := .slice (some ⟨bl, ol, none⟩) 1 cl) (w1 := W) rfl rfl (fun d pos aft g => by unfold execOp; go_simp) ⟨_, rfl, rfl, Below.refl _ _⟩
    | 2, _ =>
      obtain ⟨e22, x22⟩ := Rv.ev (show a.tmps.getD 22 undef = .slice (some ⟨bl, ol, none⟩) 1 cl from hdep 1 rfl)
      exact Rv.step_op (op := Go.Op.indexAddr 28 (Go.Operand.tmp 22) (Go.Operand.const (Go.Value.int Go.IntKind.i64 0))) (v := .pointer (some ⟨bl, ol, none⟩)) (w1 := W) rfl rfl (fun d pos aft g => by unfold execOp; go_simp) ⟨_, rfl, rfl, Below.refl _ _⟩
    | 3, _ =>
      obtain ⟨e23, x23⟩ := Rv.ev (show a.tmps.getD 23 undef = .pointer (some ⟨bl, ol, none⟩) from hdep 2 rfl)
      exact Rv.step_op (op := Go.Op.load 51 (Go.Operand.tmp 23)) (v := .agg #[.string x, .int .i64 (si : Int), .bool false]) (w1 := W) rfl rfl (fun d pos aft g => by unfold execOp; go_simp) ⟨_, rfl, rfl, Below.refl _ _⟩
    | 4, _ =>
      obtain ⟨e21, x21⟩ := Rv.ev (show a.tmps.getD 21 undef = .agg #[.int .i64 4, .int .i64 n, .string s, .slice A ns.length c, .slice A2 is.length c2] from hdep 0 rfl)
      obtain ⟨e24, x24⟩ := Rv.ev (show a.tmps.getD 24 undef = .agg #[.string x, .int .i64 (si : Int), .bool false] from hdep 3 rfl)
      have cf : ∀ x0 x1 W, (callFunc 24 #[x0, x1]).run Tryz.prog W = .ok (.enter 24 #[x0, x1]) W := fun _ _ _ => by kernel_rfl
      refine Rv.step_fn (op := Go.Op.call { callee := Go.Callee.value (Go.Operand.func 24), args := #[Go.Operand.tmp 21, Go.Operand.tmp 24], argTypes := #[26, 51] }) (f := 24) (args := #[.agg #[.int .i64 4, .int .i64 n, .string s, .slice A ns.length c, .slice A2 is.length c2], .agg #[.string x, .int .i64 (si : Int), .bool false]]) (R := fun v W' => v = .int .i64 (-1) ∧ Below W.heap.size W W') rfl rfl (fun d pos aft g => by unfold execOp; go_simp) ((FI.out W htr).mono ?_) ?_
      · (rintro e W' ⟨rfl, hb⟩; exact ⟨_, rfl, rfl, hb⟩)
      · (rintro v W' ⟨rfl, hb⟩; exact ⟨_, rfl, rfl, hb⟩)
    | 5, _ =>
      obtain ⟨e25, x25⟩ := Rv.ev (show a.tmps.getD 25 undef = .int .i64 (-1) from hdep 4 rfl)
      exact Rv.step_op (op := Go.Op.assign (Go.Operand.tmp 25)) (v := .int .i64 (-1)) (w1 := W) rfl rfl (fun d pos aft g => by unfold execOp; go_simp) ⟨_, rfl, rfl, Below.refl _ _⟩
    | m + 6, h => exact absurd h (by show ¬ m + 6 < 6; omega)
  intro W f hf htr
  have f0 : f 0 = .agg #[.int .i64 4, .int .i64 n, .string s, .slice A ns.length c, .slice A2 is.length c2] := hf 0 (by show 0 < 6; omega)
  have f1 : f 1 = .slice (some ⟨bl, ol, none⟩) 1 cl := hf 1 (by show 1 < 6; omega)
  have f2 : f 2 = .pointer (some ⟨bl, ol, none⟩) := hf 2 (by show 2 < 6; omega)
  have f3 : f 3 = .agg #[.string x, .int .i64 (si : Int), .bool false] := hf 3 (by show 3 < 6; omega)
  have f4 : f 4 = .int .i64 (-1) := hf 4 (by show 4 < 6; omega)
  have f5 : f 5 = .int .i64 (-1) := hf 5 (by show 5 < 6; omega)
  refine (show ∀ (a : Act) (w : World), Code.wp _ _ _ a w → _ from by assumption) _ _ ?_
  refine Rv.fin_swap (L' := [(21, f 0), (22, f 1), (23, f 2), (24, f 3), (25, f 4), (12, f 5)]) rfl ?_
  rw [f0, f1, f2, f3, f4, f5]
  clear f0 f1 f2 f3 f4 f5
  simp only [Rv.fin, List.foldl_cons, List.foldl_nil, Act.put, List.setIfInBounds_toArray, List.set_cons_succ, List.set_cons_zero]
  have HX := Lib.hid (HX.out.trans (htr.mono HX.out.size))
  have HA := Lib.hid ((htr.block _ hga).trans HA.out)
  have HXB := Lib.hid ((htr.block _ hgb).trans HXB.out)
  have HZ := Lib.hid ((htr.block _ hgz).trans HZ.out)
  clear hf htr HL hga hgb hgz
  clear FI FIW
  go_upto_region 9 with fail
  rename World => X1
  generalize X1 = X at *
  have hga := Rv.lt_of_blk HA.out
  have hgb := Rv.lt_of_blk HXB.out
  have hgz := Rv.lt_of_blk HZ.out
  have HL := Lib.hid (fun (W : World) (hb : Below X.heap.size X W) => HLW.out W (HX.out.trans (hb.mono HX.out.size)))
  refine Rv.region_goods (n := 102) (by kernel_rfl) #[47, 48, 49, 50, 51, 52, 53, 54, 55, 56, 57, 58, 59, 60, 61, 62, 63, 64, 65, 66, 67, 68, 69, 70, 71, 72, 73, 74, 75] #[none, none, none, some false, none, none, none, some false, none, none, none, none, none, none, none, none, none, some true, none, none, none, none, none, none] (fun i v W => v = (#[.slice (some ⟨bl, ol, none⟩) 1 cl, .int .i64 1, .bool false, .bool false, .bool true, .bool false, .bool false, .bool false, .slice (some ⟨bl, ol, none⟩) 1 cl, .pointer (some ⟨bl, ol, none⟩), .pointer (some ⟨bl, ol + 2, none⟩), .bool false, .pointer (some ⟨w.heap.size, 0, none⟩), .int .i64 4, .bool true, .bool true, .bool true, .bool true, undef, undef, undef, undef, undef, undef, undef, undef, undef, undef, .bool true] : Array Value).getD i undef) (fun i v w w' h hb => ?_) (fun i h g b hg => ?_) rfl (by kernel_rfl) (by kernel_rfl) (fun i h hr w => ?_) ?_ ?_
  · exact h
  · match i, h, hg with
    | 0, _, hg => cases hg
    | 1, _, hg => cases hg
    | 2, _, hg => cases hg
    | 3, _, hg => cases hg
    | 4, _, hg => (cases hg; exact fun v w e => e)
    | 5, _, hg => (cases hg; exact fun v w e => e)
    | 6, _, hg => cases hg
    | 7, _, hg => cases hg
    | 8, _, hg => (cases hg; exact fun v w e => e)
    | 9, _, hg => (cases hg; exact fun v w e => e)
    | 10, _, hg => (cases hg; exact fun v w e => e)
    | 11, _, hg => (cases hg; exact fun v w e => e)
    | 12, _, hg => (cases hg; exact fun v w e => e)
    | 13, _, hg => (cases hg; exact fun v w e => e)
    | 14, _, hg => (cases hg; exact fun v w e => e)
    | 15, _, hg => (cases hg; exact fun v w e => e)
    | 16, _, hg => cases hg
    | 17, _, hg => cases hg
    | 18, _, hg => (cases hg; exact fun v w e => e)
    | 19, _, hg => (cases hg; exact fun v w e => e)
    | 20, _, hg => (cases hg; exact fun v w e => e)
    | 21, _, hg => (cases hg; exact fun v w e => e)
    | 22, _, hg => (cases hg; exact fun v w e => e)
    | 23, _, hg => (cases hg; exact fun v w e => e)
    | 24, _, hg => (cases hg; exact fun v w e => e)
    | 25, _, hg => (cases hg; exact fun v w e => e)
    | 26, _, hg => (cases hg; exact fun v w e => e)
    | 27, _, hg => (cases hg; exact fun v w e => e)
    | 28, _, hg => cases hg
    | m + 29, h, _ => exact absurd h (by show ¬ m + 29 < 29; omega)
  · match i, h, hr with
    | 0, _, hr => exact Bool.noConfusion (show true = false from hr)
    | 1, _, hr => exact Bool.noConfusion (show true = false from hr)
    | 2, _, hr => exact Bool.noConfusion (show true = false from hr)
    | 3, _, hr => exact Bool.noConfusion (show true = false from hr)
    | 4, _, hr => exact Bool.noConfusion (show true = false from hr)
    | 5, _, hr => exact Bool.noConfusion (show true = false from hr)
    | 6, _, hr => exact Bool.noConfusion (show true = false from hr)
    | 7, _, hr => exact Bool.noConfusion (show true = false from hr)
    | 8, _, hr => exact Bool.noConfusion (show true = false from hr)
    | 9, _, hr => exact Bool.noConfusion (show true = false from hr)
    | 10, _, hr => exact Bool.noConfusion (show true = false from hr)
    | 11, _, hr => exact Bool.noConfusion (show true = false from hr)
    | 12, _, hr => exact Bool.noConfusion (show true = false from hr)
    | 13, _, hr => exact Bool.noConfusion (show true = false from hr)
    | 14, _, hr => exact Bool.noConfusion (show true = false from hr)
    | 15, _, hr => exact Bool.noConfusion (show true = false from hr)
    | 16, _, hr => exact Bool.noConfusion (show true = false from hr)
    | 17, _, hr => exact Bool.noConfusion (show true = false from hr)
    | 18, _, hr => rfl
    | 19, _, hr => rfl
    | 20, _, hr => rfl
    | 21, _, hr => rfl
    | 22, _, hr => rfl
    | 23, _, hr => rfl
    | 24, _, hr => rfl
    | 25, _, hr => rfl
    | 26, _, hr => rfl
    | 27, _, hr => rfl
    | 28, _, hr => exact Bool.noConfusion (show true = false from hr)
    | m + 29, h, _ => exact absurd h (by show ¬ m + 29 < 29; omega)
  · intro i h a W hrun hbase hpre hdep htr
    obtain ⟨y0, y1, y2, y3, y4⟩ := Rv.cells5 ((htr.block _ hga).trans HA.out)
    obtain ⟨l0, l1, l2⟩ := HL.out W htr
    match i, h with
    | 0, _ =>
      obtain ⟨e1, x1⟩ := Rv.ev (show a.tmps.getD 1 undef = .slice (some ⟨bl, ol, none⟩) 1 cl from hbase 1 rfl)
      exact Rv.step_op (op := Go.Op.move (Go.Operand.tmp 1)) (v := .slice (some ⟨bl, ol, none⟩) 1 cl) (w1 := W) rfl rfl (fun d pos aft g => by unfold execOp; go_simp) ⟨_, rfl, rfl, Below.refl _ _⟩
    | 1, _ =>
      obtain ⟨e47, x47⟩ := Rv.ev (show a.tmps.getD 47 undef = .slice (some ⟨bl, ol, none⟩) 1 cl from hdep 0 rfl)
      exact Rv.step_op (op := Go.Op.call { callee := Go.Callee.builtin Go.Builtin.len, args := #[Go.Operand.tmp 47], argTypes := #[28] }) (v := .int .i64 1) (w1 := W) rfl rfl (fun d pos aft g => by unfold execOp; go_simp) ⟨_, rfl, rfl, Below.refl _ _⟩
    | 2, _ =>
      obtain ⟨e48, x48⟩ := Rv.ev (show a.tmps.getD 48 undef = .int .i64 1 from hdep 1 rfl)
      exact Rv.step_op (op := Go.Op.binOp Go.BinOp.gtr 3 (Go.Operand.tmp 48) (Go.Operand.const (Go.Value.int Go.IntKind.i64 1)) 3) (v := .bool false) (w1 := W) rfl rfl (fun d pos aft g => by unfold execOp; go_simp) ⟨_, rfl, rfl, Below.refl _ _⟩
    | 3, _ =>
      obtain ⟨e49, x49⟩ := Rv.ev (show a.tmps.getD 49 undef = .bool false from hdep 2 rfl)
      exact Rv.step_op (op := Go.Op.move (Go.Operand.tmp 49)) (v := .bool false) (w1 := W) rfl rfl (fun d pos aft g => by unfold execOp; go_simp) ⟨_, rfl, rfl, Below.refl _ _⟩
    | 4, _ =>
      obtain ⟨e4, x4⟩ := Rv.ev (show a.tmps.getD 4 undef = .bool true from hbase 4 rfl)
      exact Rv.step_op (op := Go.Op.move (Go.Operand.tmp 4)) (v := .bool true) (w1 := W) rfl rfl (fun d pos aft g => by unfold execOp; go_simp) ⟨_, rfl, rfl, Below.refl _ _⟩
    | 5, _ =>
      obtain ⟨e51, x51⟩ := Rv.ev (show a.tmps.getD 51 undef = .bool true from hdep 4 rfl)
      exact Rv.step_op (op := Go.Op.unOp Go.UnOp.not 4 (Go.Operand.tmp 51)) (v := .bool false) (w1 := W) rfl rfl (fun d pos aft g => by unfold execOp; go_simp) ⟨_, rfl, rfl, Below.refl _ _⟩
    | 6, _ =>
      obtain ⟨e50, x50⟩ := Rv.ev (show a.tmps.getD 50 undef = .bool false from hdep 3 rfl)
      obtain ⟨e52, x52⟩ := Rv.ev (show a.tmps.getD 52 undef = .bool false from hdep 5 rfl)
      exact Rv.step_op (op := Go.Op.pick (Go.Operand.tmp 50) (Go.Operand.const (Go.Value.bool true)) (Go.Operand.tmp 52)) (v := .bool false) (w1 := W) rfl rfl (fun d pos aft g => by unfold execOp; go_simp) ⟨_, rfl, rfl, Below.refl _ _⟩
    | 7, _ =>
      obtain ⟨e53, x53⟩ := Rv.ev (show a.tmps.getD 53 undef = .bool false from hdep 6 rfl)
      exact Rv.step_op (op := Go.Op.move (Go.Operand.tmp 53)) (v := .bool false) (w1 := W) rfl rfl (fun d pos aft g => by unfold execOp; go_simp) ⟨_, rfl, rfl, Below.refl _ _⟩
    | 8, _ =>
      obtain ⟨e1, x1⟩ := Rv.ev (show a.tmps.getD 1 undef = .slice (some ⟨bl, ol, none⟩) 1 cl from hbase 1 rfl)
      exact Rv.step_op (op := Go.Op.move (Go.Operand.tmp 1)) (v := .slice (some ⟨bl, ol, none⟩) 1 cl) (w1 := W) rfl rfl (fun d pos aft g => by unfold execOp; go_simp) ⟨_, rfl, rfl, Below.refl _ _⟩
    | 9, _ =>
      obtain ⟨e55, x55⟩ := Rv.ev (show a.tmps.getD 55 undef = .slice (some ⟨bl, ol, none⟩) 1 cl from hdep 8 rfl)
      exact Rv.step_op (op := Go.Op.indexAddr 28 (Go.Operand.tmp 55) (Go.Operand.const (Go.Value.int Go.IntKind.i64 0))) (v := .pointer (some ⟨bl, ol, none⟩)) (w1 := W) rfl rfl (fun d pos aft g => by unfold execOp; go_simp) ⟨_, rfl, rfl, Below.refl _ _⟩
    | 10, _ =>
      obtain ⟨e56, x56⟩ := Rv.ev (show a.tmps.getD 56 undef = .pointer (some ⟨bl, ol, none⟩) from hdep 9 rfl)
      exact Rv.step_op (op := Go.Op.fieldAddr 51 (Go.Operand.tmp 56) 2) (v := .pointer (some ⟨bl, ol + 2, none⟩)) (w1 := W) rfl rfl (fun d pos aft g => by unfold execOp; go_simp) ⟨_, rfl, rfl, Below.refl _ _⟩
    | 11, _ =>
      obtain ⟨e57, x57⟩ := Rv.ev (show a.tmps.getD 57 undef = .pointer (some ⟨bl, ol + 2, none⟩) from hdep 10 rfl)
      exact Rv.step_op (op := Go.Op.load 4 (Go.Operand.tmp 57)) (v := .bool false) (w1 := W) rfl rfl (fun d pos aft g => by unfold execOp; go_simp) ⟨_, rfl, rfl, Below.refl _ _⟩
    | 12, _ =>
      obtain ⟨e5, x5⟩ := Rv.ev (show a.tmps.getD 5 undef = .pointer (some ⟨w.heap.size, 0, none⟩) from hbase 5 rfl)
      exact Rv.step_op (op := Go.Op.fieldAddr 26 (Go.Operand.tmp 5) 0) (v := .pointer (some ⟨w.heap.size, 0, none⟩)) (w1 := W) rfl rfl (fun d pos aft g => by unfold execOp; go_simp) ⟨_, rfl, rfl, Below.refl _ _⟩
    | 13, _ =>
      obtain ⟨e59, x59⟩ := Rv.ev (show a.tmps.getD 59 undef = .pointer (some ⟨w.heap.size, 0, none⟩) from hdep 12 rfl)
      exact Rv.step_op (op := Go.Op.load 3 (Go.Operand.tmp 59)) (v := .int .i64 4) (w1 := W) rfl rfl (fun d pos aft g => by unfold execOp; go_simp) ⟨_, rfl, rfl, Below.refl _ _⟩
    | 14, _ =>
      obtain ⟨e60, x60⟩ := Rv.ev (show a.tmps.getD 60 undef = .int .i64 4 from hdep 13 rfl)
      exact Rv.step_op (op := Go.Op.binOp Go.BinOp.eql 3 (Go.Operand.tmp 60) (Go.Operand.const (Go.Value.int Go.IntKind.i64 4)) 3) (v := .bool true) (w1 := W) rfl rfl (fun d pos aft g => by unfold execOp; go_simp) ⟨_, rfl, rfl, Below.refl _ _⟩
    | 15, _ =>
      obtain ⟨e58, x58⟩ := Rv.ev (show a.tmps.getD 58 undef = .bool false from hdep 11 rfl)
      obtain ⟨e61, x61⟩ := Rv.ev (show a.tmps.getD 61 undef = .bool true from hdep 14 rfl)
      exact Rv.step_op (op := Go.Op.binOp Go.BinOp.neq 4 (Go.Operand.tmp 58) (Go.Operand.tmp 61) 4) (v := .bool true) (w1 := W) rfl rfl (fun d pos aft g => by unfold execOp; go_simp) ⟨_, rfl, rfl, Below.refl _ _⟩
    | 16, _ =>
      obtain ⟨e54, x54⟩ := Rv.ev (show a.tmps.getD 54 undef = .bool false from hdep 7 rfl)
      obtain ⟨e62, x62⟩ := Rv.ev (show a.tmps.getD 62 undef = .bool true from hdep 15 rfl)
      exact Rv.step_op (op := Go.Op.pick (Go.Operand.tmp 54) (Go.Operand.const (Go.Value.bool true)) (Go.Operand.tmp 62)) (v := .bool true) (w1 := W) rfl rfl (fun d pos aft g => by unfold execOp; go_simp) ⟨_, rfl, rfl, Below.refl _ _⟩
    | 17, _ =>
      obtain ⟨e63, x63⟩ := Rv.ev (show a.tmps.getD 63 undef = .bool true from hdep 16 rfl)
      exact Rv.step_op (op := Go.Op.move (Go.Operand.tmp 63)) (v := .bool true) (w1 := W) rfl rfl (fun d pos aft g => by unfold execOp; go_simp) ⟨_, rfl, rfl, Below.refl _ _⟩
    | 18, _ => exact Bool.noConfusion (show false = true from hrun)
    | 19, _ => exact Bool.noConfusion (show false = true from hrun)
    | 20, _ => exact Bool.noConfusion (show false = true from hrun)
    | 21, _ => exact Bool.noConfusion (show false = true from hrun)
    | 22, _ => exact Bool.noConfusion (show false = true from hrun)
    | 23, _ => exact Bool.noConfusion (show false = true from hrun)
    | 24, _ => exact Bool.noConfusion (show false = true from hrun)
    | 25, _ => exact Bool.noConfusion (show false = true from hrun)
    | 26, _ => exact Bool.noConfusion (show false = true from hrun)
    | 27, _ => exact Bool.noConfusion (show false = true from hrun)
    | 28, _ =>
      obtain ⟨e64, x64⟩ := Rv.ev (show a.tmps.getD 64 undef = .bool true from hdep 17 rfl)
      obtain ⟨e74, x74⟩ := Rv.ev (show a.tmps.getD 74 undef = undef from hdep 27 rfl)
      exact Rv.step_op (op := Go.Op.pick (Go.Operand.tmp 64) (Go.Operand.const (Go.Value.bool true)) (Go.Operand.tmp 74)) (v := .bool true) (w1 := W) rfl rfl (fun d pos aft g => by unfold execOp; go_simp) ⟨_, rfl, rfl, Below.refl _ _⟩
    | m + 29, h => exact absurd h (by show ¬ m + 29 < 29; omega)
  intro W f hf htr
  have f0 : f 0 = .slice (some ⟨bl, ol, none⟩) 1 cl := hf 0 (by show 0 < 29; omega)
  have f1 : f 1 = .int .i64 1 := hf 1 (by show 1 < 29; omega)
  have f2 : f 2 = .bool false := hf 2 (by show 2 < 29; omega)
  have f3 : f 3 = .bool false := hf 3 (by show 3 < 29; omega)
  have f4 : f 4 = .bool true := hf 4 (by show 4 < 29; omega)
  have f5 : f 5 = .bool false := hf 5 (by show 5 < 29; omega)
  have f6 : f 6 = .bool false := hf 6 (by show 6 < 29; omega)
  have f7 : f 7 = .bool false := hf 7 (by show 7 < 29; omega)
  have f8 : f 8 = .slice (some ⟨bl, ol, none⟩) 1 cl := hf 8 (by show 8 < 29; omega)
  have f9 : f 9 = .pointer (some ⟨bl, ol, none⟩) := hf 9 (by show 9 < 29; omega)
  have f10 : f 10 = .pointer (some ⟨bl, ol + 2, none⟩) := hf 10 (by show 10 < 29; omega)
  have f11 : f 11 = .bool false := hf 11 (by show 11 < 29; omega)
  have f12 : f 12 = .pointer (some ⟨w.heap.size, 0, none⟩) := hf 12 (by show 12 < 29; omega)
  have f13 : f 13 = .int .i64 4 := hf 13 (by show 13 < 29; omega)
  have f14 : f 14 = .bool true := hf 14 (by show 14 < 29; omega)
  have f15 : f 15 = .bool true := hf 15 (by show 15 < 29; omega)
  have f16 : f 16 = .bool true := hf 16 (by show 16 < 29; omega)
  have f17 : f 17 = .bool true := hf 17 (by show 17 < 29; omega)
  have f18 : f 18 = undef := hf 18 (by show 18 < 29; omega)
  have f19 : f 19 = undef := hf 19 (by show 19 < 29; omega)
  have f20 : f 20 = undef := hf 20 (by show 20 < 29; omega)
  have f21 : f 21 = undef := hf 21 (by show 21 < 29; omega)
  have f22 : f 22 = undef := hf 22 (by show 22 < 29; omega)
  have f23 : f 23 = undef := hf 23 (by show 23 < 29; omega)
  have f24 : f 24 = undef := hf 24 (by show 24 < 29; omega)
  have f25 : f 25 = undef := hf 25 (by show 25 < 29; omega)
  have f26 : f 26 = undef := hf 26 (by show 26 < 29; omega)
  have f27 : f 27 = undef := hf 27 (by show 27 < 29; omega)
  have f28 : f 28 = .bool true := hf 28 (by show 28 < 29; omega)
  refine (show ∀ (a : Act) (w : World), Code.wp _ _ _ a w → _ from by assumption) _ _ ?_
  refine Rv.fin_swap (L' := [(47, f 0), (48, f 1), (49, f 2), (50, f 3), (51, f 4), (52, f 5), (53, f 6), (54, f 7), (55, f 8), (56, f 9), (57, f 10), (58, f 11), (59, f 12), (60, f 13), (61, f 14), (62, f 15), (63, f 16), (64, f 17), (65, f 18), (66, f 19), (67, f 20), (68, f 21), (69, f 22), (70, f 23), (71, f 24), (72, f 25), (73, f 26), (74, f 27), (75, f 28)]) rfl ?_
  rw [f0, f1, f2, f3, f4, f5, f6, f7, f8, f9, f10, f11, f12, f13, f14, f15, f16, f17, f18, f19, f20, f21, f22, f23, f24, f25, f26, f27, f28]
  clear f0 f1 f2 f3 f4 f5 f6 f7 f8 f9 f10 f11 f12 f13 f14 f15 f16 f17 f18 f19 f20 f21 f22 f23 f24 f25 f26 f27 f28
  simp only [Rv.fin, List.foldl_cons, List.foldl_nil, Act.put, List.setIfInBounds_toArray, List.set_cons_succ, List.set_cons_zero]
  have HX := Lib.hid (HX.out.trans (htr.mono HX.out.size))
  have HA := Lib.hid ((htr.block _ hga).trans HA.out)
  have HXB := Lib.hid ((htr.block _ hgb).trans HXB.out)
  have HZ := Lib.hid ((htr.block _ hgz).trans HZ.out)
  clear hf htr HL hga hgb hgz
  have HXF := HX
  have HZF := HZ
  obtain ⟨y0, y1, y2, y3, y4⟩ := Rv.cells5 HA.out
  obtain ⟨s0, s1, s2, s3, s4⟩ := Rv.cells5 HZF.out
  obtain ⟨z0, z1, z2, z3, z4⟩ := Rv.frozen5 HZF.out
  go_wp2
  have gs := fun (W : World) j u => grown_set (Below.refl _ W) (w.heap.size + 1 + 1) j u
  have hgg := (grown_then (grown_then (grown_then (grown_then (gs W 0 (.int .i64 4)) (gs _ 1 (.int .i64 n))) (gs _ 2 (.string s))) (gs _ 3 (.slice A ns.length c))) (gs _ 4 (.slice A2 is.length c2)))
  have sb : ∀ (V : World) (j : Nat) (u : Value), Below w.heap.size w V → Below w.heap.size w (V.setCell ⟨w.heap.size + 1 + 1, j, none⟩ u) := fun V j u h => h.setCell (by show w.heap.size ≤ w.heap.size + 1 + 1; omega) u
  have hbf := (sb _ 4 (.slice A2 is.length c2) (sb _ 3 (.slice A ns.length c) (sb _ 2 (.string s) (sb _ 1 (.int .i64 n) (sb _ 0 (.int .i64 4) HXF.out)))))
  have HJF := Lib.hid (((HJ.out.below HXF.out).grown hgg (fun x hx e => by have := HES.out x hx; injection e with e; omega)).weak (q := fun x => E x ∨ w.heap.size ≤ x) (fun x _ hx => .inl hx))
  have HBF := Lib.hid hbf
  obtain ⟨q0, q1, q2, q3, q4⟩ := Rv.cells5 (Rv.sets5 HZF.out (.int .i64 4) (.int .i64 n) (.string s) (.slice A ns.length c) (.slice A2 is.length c2))
  clear y0 y1 y2 y3 y4 s0 s1 s2 s3 s4 z0 z1 z2 z3 z4 gs hgg sb hbf
  refine bodyPost_ret (v := .tuple #[.agg #[.int .i64 4, .int .i64 n, .string s, .slice A ns.length c, .slice A2 is.length c2], .bool false]) ?_ rfl ⟨_, _, rfl, HJF.out, HBF.out⟩
  simp only [results, show Tryz.f11.results = #[.cell 10 26, .tmp 11] by kernel_rfl]
  go_simp
theorem put_noother (E : Nat → Prop) (kk n : Int) (s : ByteArray) (ns : List ByteArray) (is : List J) (tx : J) (v vx : Value) (x : ByteArray) (si : Nat) (bl ol cl : Nat) (w : World) (h4 : kk ≠ 4) (h5 : kk ≠ 5) (hE : ∀ x, E x → x < w.heap.size) (hj : JN E w (.mk kk n s ns is) v) (hx : JN E w tx vx)
    (h8 : is.length ≤ 8) (hn8 : ns.length ≤ 8) (hK : fI (.mk kk n s ns is) ⟨x, si, false⟩ = -1) (hl : Rd w 3 (.slice (some ⟨bl, ol, none⟩) 1 cl) 1 (stc [⟨x, si, false⟩])) :
    Calls Tryz.prog 11 #[v, .slice (some ⟨bl, ol, none⟩) 1 cl, vx, .bool true, .bool true] w (OutP E (.mk kk n s ns is) w) := by
  have hj0 := hj
  obtain ⟨A, c, A2, c2, hs, rfl, hn, hI, hH⟩ := hj0
  obtain ⟨C, d, C2, d2, rfl, _⟩ := hx.five
  obtain ⟨bl', ol', ea, hbl, l0, l1, l2⟩ := st_at (l := [(⟨x, si, false⟩ : Sp)]) hl 0 (by simp)
  (injection ea with ea); (injection ea with ea1 ea2 _); subst ea1; subst ea2
  rw [Nat.zero_mul, Nat.add_zero] at l0 l1 l2
  simp only [List.getElem_cons_zero] at l0 l1 l2
  have HA := Lib.hid (old_blk (o := .cells #[.int .i64 0, .int .i64 0, .string ⟨#[]⟩, .slice none 0 0, .slice none 0 0] 26) (old_blk (o := .cells #[.int .i64 tx.k, .int .i64 tx.n, .string tx.s, .slice C tx.ns.length d, .slice C2 tx.is.length d2] 26) (heap_alloc_new w (.cells #[.int .i64 kk, .int .i64 n, .string s, .slice A ns.length c, .slice A2 is.length c2] 26))))
  have HXB := Lib.hid (old_blk (o := .cells #[.int .i64 0, .int .i64 0, .string ⟨#[]⟩, .slice none 0 0, .slice none 0 0] 26) (show ((w.alloc (.cells #[.int .i64 kk, .int .i64 n, .string s, .slice A ns.length c, .slice A2 is.length c2] 26)).alloc (.cells #[.int .i64 tx.k, .int .i64 tx.n, .string tx.s, .slice C tx.ns.length d, .slice C2 tx.is.length d2] 26)).heap[w.heap.size + 1]? = some (.cells #[.int .i64 tx.k, .int .i64 tx.n, .string tx.s, .slice C tx.ns.length d, .slice C2 tx.is.length d2] 26 (0, 0)) from by
    have := heap_alloc_new (w.alloc (.cells #[.int .i64 kk, .int .i64 n, .string s, .slice A ns.length c, .slice A2 is.length c2] 26)) (.cells #[.int .i64 tx.k, .int .i64 tx.n, .string tx.s, .slice C tx.ns.length d, .slice C2 tx.is.length d2] 26)
    simpa using this))
  have HZ := Lib.hid (show (((w.alloc (.cells #[.int .i64 kk, .int .i64 n, .string s, .slice A ns.length c, .slice A2 is.length c2] 26)).alloc (.cells #[.int .i64 tx.k, .int .i64 tx.n, .string tx.s, .slice C tx.ns.length d, .slice C2 tx.is.length d2] 26)).alloc (.cells #[.int .i64 0, .int .i64 0, .string ⟨#[]⟩, .slice none 0 0, .slice none 0 0] 26)).heap[w.heap.size + 1 + 1]? = some (.cells #[.int .i64 0, .int .i64 0, .string ⟨#[]⟩, .slice none 0 0, .slice none 0 0] 26 (0, 0)) from by
    have := heap_alloc_new ((w.alloc (.cells #[.int .i64 kk, .int .i64 n, .string s, .slice A ns.length c, .slice A2 is.length c2] 26)).alloc (.cells #[.int .i64 tx.k, .int .i64 tx.n, .string tx.s, .slice C tx.ns.length d, .slice C2 tx.is.length d2] 26)) (.cells #[.int .i64 0, .int .i64 0, .string ⟨#[]⟩, .slice none 0 0, .slice none 0 0] 26)
    simpa using this)
  have hX : Below w.heap.size w (((w.alloc (.cells #[.int .i64 kk, .int .i64 n, .string s, .slice A ns.length c, .slice A2 is.length c2] 26)).alloc (.cells #[.int .i64 tx.k, .int .i64 tx.n, .string tx.s, .slice C tx.ns.length d, .slice C2 tx.is.length d2] 26)).alloc (.cells #[.int .i64 0, .int .i64 0, .string ⟨#[]⟩, .slice none 0 0, .slice none 0 0] 26)) := (((Below.refl _ _).alloc (Nat.le_refl _) _).alloc (by simp) _).alloc (by simp; omega) _
  have HX := Lib.hid hX
  have HJX := Lib.hid hx
  have HJ := Lib.hid hj
  have HHW := Lib.hid hH
  have HES := Lib.hid hE
  have HRN := Lib.hid (fun (W : World) (hb : Below w.heap.size w W) => hn.1.below hb)
  have HRI := Lib.hid (fun (W : World) (hb : Below w.heap.size w W) => hI.1.below hb)
  have HNR := Lib.hid hn
  have HFC := Lib.hid (flat_cells hH)
  have HXC := Lib.hid (show ∀ u ∈ ([.int .i64 tx.k, .int .i64 tx.n, .string tx.s, .slice C tx.ns.length d, .slice C2 tx.is.length d2] : List Value), u.oneCell' = true from by simp [Value.oneCell'])
  have HLW := Lib.hid (fun (W : World) (hb : Below w.heap.size w W) => show W.cell? ⟨bl, ol, none⟩ = some (.string x) ∧ W.cell? ⟨bl, ol + 1, none⟩ = some (.int .i64 (si : Int)) ∧ W.cell? ⟨bl, ol + 2, none⟩ = some (.bool false) from
    ⟨(hb.cell (p := ⟨bl, ol, none⟩) hbl).trans l0, (hb.cell (p := ⟨bl, ol + 1, none⟩) hbl).trans l1, (hb.cell (p := ⟨bl, ol + 2, none⟩) hbl).trans l2⟩)
  have FIW := Lib.hid (fun (W : World) (hb : Below w.heap.size w W) => show Calls Tryz.prog 24 #[.agg #[.int .i64 kk, .int .i64 n, .string s, .slice A ns.length c, .slice A2 is.length c2], .agg #[.string x, .int .i64 (si : Int), .bool false]] W fun e w' => e = .returned (.int .i64 (-1)) ∧ Below W.heap.size W w' from by
    have h := find_sp (.mk kk n s ns is) _ _ ⟨x, si, false⟩ W (hj.below hb) hn8 h8
    rwa [hK] at h)
  have HXS := Lib.hid (show w.heap.size + 1 + 1 + 1 ≤ (((w.alloc (.cells #[.int .i64 kk, .int .i64 n, .string s, .slice A ns.length c, .slice A2 is.length c2] 26)).alloc (.cells #[.int .i64 tx.k, .int .i64 tx.n, .string tx.s, .slice C tx.ns.length d, .slice C2 tx.is.length d2] 26)).alloc (.cells #[.int .i64 0, .int .i64 0, .string ⟨#[]⟩, .slice none 0 0, .slice none 0 0] 26)).heap.size by simp)
  clear hj hx hn hI hH hX hl hK l0 l1 l2
  go_enter Tryz.func11, Tryz.ntmps11
  go_upto_region 5 with fail
  generalize ((w.alloc (.cells #[.int .i64 kk, .int .i64 n, .string s, .slice A ns.length c, .slice A2 is.length c2] 26)).alloc (.cells #[.int .i64 tx.k, .int .i64 tx.n, .string tx.s, .slice C tx.ns.length d, .slice C2 tx.is.length d2] 26)).alloc (.cells #[.int .i64 0, .int .i64 0, .string ⟨#[]⟩, .slice none 0 0, .slice none 0 0] 26) = X at *
  have hga := Rv.lt_of_blk HA.out
  have hgb := Rv.lt_of_blk HXB.out
  have hgz := Rv.lt_of_blk HZ.out
  have FI := Lib.hid (fun (W : World) (hb : Below X.heap.size X W) => FIW.out W (HX.out.trans (hb.mono HX.out.size)))
  have HL := Lib.hid (fun (W : World) (hb : Below X.heap.size X W) => HLW.out W (HX.out.trans (hb.mono HX.out.size)))
  refine Rv.region_goods (n := 102) (by kernel_rfl) #[21, 22, 23, 24, 25, 12] #[] (fun i v W => v = (#[.agg #[.int .i64 kk, .int .i64 n, .string s, .slice A ns.length c, .slice A2 is.length c2], .slice (some ⟨bl, ol, none⟩) 1 cl, .pointer (some ⟨bl, ol, none⟩), .agg #[.string x, .int .i64 (si : Int), .bool false], .int .i64 (-1), .int .i64 (-1)] : Array Value).getD i undef) (fun i v w w' h hb => ?_) (fun i h g b hg => ?_) rfl (by kernel_rfl) (by kernel_rfl) (fun i h hr w => ?_) ?_ ?_
  · exact h
  · match i, h, hg with
    | 0, _, hg => cases hg
    | 1, _, hg => cases hg
    | 2, _, hg => cases hg
    | 3, _, hg => cases hg
    | 4, _, hg => cases hg
    | 5, _, hg => cases hg
    | m + 6, h, _ => exact absurd h (by show ¬ m + 6 < 6; omega)
  · match i, h, hr with
    | 0, _, hr => exact Bool.noConfusion (show true = false from hr)
    | 1, _, hr => exact Bool.noConfusion (show true = false from hr)
    | 2, _, hr => exact Bool.noConfusion (show true = false from hr)
    | 3, _, hr => exact Bool.noConfusion (show true = false from hr)
    | 4, _, hr => exact Bool.noConfusion (show true = false from hr)
    | 5, _, hr => exact Bool.noConfusion (show true = false from hr)
    | m + 6, h, _ => exact absurd h (by show ¬ m + 6 < 6; omega)
  · intro i h a W hrun hbase hpre hdep htr
    obtain ⟨y0, y1, y2, y3, y4⟩ := Rv.cells5 ((htr.block _ hga).trans HA.out)
    obtain ⟨l0, l1, l2⟩ := HL.out W htr
    match i, h with
    | 0, _ =>
      obtain ⟨e5, x5⟩ := Rv.ev (show a.tmps.getD 5 undef = .pointer (some ⟨w.heap.size, 0, none⟩) from hbase 5 rfl)
      exact Rv.step_op (op := Go.Op.load 26 (Go.Operand.tmp 5)) (v := .agg #[.int .i64 kk, .int .i64 n, .string s, .slice A ns.length c, .slice A2 is.length c2]) (w1 := W) rfl rfl (fun d pos aft g => by unfold execOp; go_simp) ⟨_, rfl, rfl, Below.refl _ _⟩
    | 1, _ =>
      obtain ⟨e1, x1⟩ := Rv.ev (show a.tmps.getD 1 undef = .slice (some ⟨bl, ol, none⟩) 1 cl from hbase 1 rfl)
      exact Rv.step_op (op := Go.Op.move (Go.Operand.tmp 1)) (v := .slice (some ⟨bl, ol, none⟩) 1 cl) (w1 := W) rfl rfl (fun d pos aft g => by unfold execOp; go_simp) ⟨_, rfl, rfl, Below.refl _ _⟩
    | 2, _ =>
      obtain ⟨e22, x22⟩ := Rv.ev (show a.tmps.getD 22 undef = .slice (some ⟨bl, ol, none⟩) 1 cl from hdep 1 rfl)
      exact Rv.step_op (op := Go.Op.indexAddr 28 (Go.Operand.tmp 22) (Go.Operand.const (Go.Value.int Go.IntKind.i64 0))) (v := .pointer (some ⟨bl, ol, none⟩)) (w1 := W) rfl rfl (fun d pos aft g => by unfold execOp; go_simp) ⟨_, rfl, rfl, Below.refl _ _⟩
    | 3, _ =>
      obtain ⟨e23, x23⟩ := Rv.ev (show a.tmps.getD 23 undef = .pointer (some ⟨bl, ol, none⟩) from hdep 2 rfl)
      exact Rv.step_op (op := Go.Op.load 51 (Go.Operand.tmp 23)) (v := .agg #[.string x, .int .i64 (si : Int), .bool false]) (w1 := W) rfl rfl (fun d pos aft g => by unfold execOp; go_simp) ⟨_, rfl, rfl, Below.refl _ _⟩
    | 4, _ =>
      obtain ⟨e21, x21⟩ := Rv.ev (show a.tmps.getD 21 undef = .agg #[.int .i64 kk, .int .i64 n, .string s, .slice A ns.length c, .slice A2 is.length c2] from hdep 0 rfl)
      obtain ⟨e24, x24⟩ := Rv.ev (show a.tmps.getD 24 undef = .agg #[.string x, .int .i64 (si : Int), .bool false] from hdep 3 rfl)
      have cf : ∀ x0 x1 W, (callFunc 24 #[x0, x1]).run Tryz.prog W = .ok (.enter 24 #[x0, x1]) W := fun _ _ _ => by kernel_rfl
      refine Rv.step_fn (op := Go.Op.call { callee := Go.Callee.value (Go.Operand.func 24), args := #[Go.Operand.tmp 21, Go.Operand.tmp 24], argTypes := #[26, 51] }) (f := 24) (args := #[.agg #[.int .i64 kk, .int .i64 n, .string s, .slice A ns.length c, .slice A2 is.length c2], .agg #[.string x, .int .i64 (si : Int), .bool false]]) (R := fun v W' => v = .int .i64 (-1) ∧ Below W.heap.size W W') rfl rfl (fun d pos aft g => by unfold execOp; go_simp) ((FI.out W htr).mono ?_) ?_
      · (rintro e W' ⟨rfl, hb⟩; exact ⟨_, rfl, rfl, hb⟩)
      · (rintro v W' ⟨rfl, hb⟩; exact ⟨_, rfl, rfl, hb⟩)
    | 5, _ =>
      obtain ⟨e25, x25⟩ := Rv.ev (show a.tmps.getD 25 undef = .int .i64 (-1) from hdep 4 rfl)
      exact Rv.step_op (op := Go.Op.assign (Go.Operand.tmp 25)) (v := .int .i64 (-1)) (w1 := W) rfl rfl (fun d pos aft g => by unfold execOp; go_simp) ⟨_, rfl, rfl, Below.refl _ _⟩
    | m + 6, h => exact absurd h (by show ¬ m + 6 < 6; omega)
  intro W f hf htr
  have f0 : f 0 = .agg #[.int .i64 kk, .int .i64 n, .string s, .slice A ns.length c, .slice A2 is.length c2] := hf 0 (by show 0 < 6; omega)
  have f1 : f 1 = .slice (some ⟨bl, ol, none⟩) 1 cl := hf 1 (by show 1 < 6; omega)
  have f2 : f 2 = .pointer (some ⟨bl, ol, none⟩) := hf 2 (by show 2 < 6; omega)
  have f3 : f 3 = .agg #[.string x, .int .i64 (si : Int), .bool false] := hf 3 (by show 3 < 6; omega)
  have f4 : f 4 = .int .i64 (-1) := hf 4 (by show 4 < 6; omega)
  have f5 : f 5 = .int .i64 (-1) := hf 5 (by show 5 < 6; omega)
  refine (show ∀ (a : Act) (w : World), Code.wp _ _ _ a w → _ from by assumption) _ _ ?_
  refine Rv.fin_swap (L' := [(21, f 0), (22, f 1), (23, f 2), (24, f 3), (25, f 4), (12, f 5)]) rfl ?_
  rw [f0, f1, f2, f3, f4, f5]
  clear f0 f1 f2 f3 f4 f5
  simp only [Rv.fin, List.foldl_cons, List.foldl_nil, Act.put, List.setIfInBounds_toArray, List.set_cons_succ, List.set_cons_zero]
  have HX := Lib.hid (HX.out.trans (htr.mono HX.out.size))
  have HA := Lib.hid ((htr.block _ hga).trans HA.out)
  have HXB := Lib.hid ((htr.block _ hgb).trans HXB.out)
  have HZ := Lib.hid ((htr.block _ hgz).trans HZ.out)
  clear hf htr HL hga hgb hgz
  clear FI FIW
  go_upto_region 9 with fail
  rename World => X1
  generalize X1 = X at *
  have hga := Rv.lt_of_blk HA.out
  have hgb := Rv.lt_of_blk HXB.out
  have hgz := Rv.lt_of_blk HZ.out
  have HL := Lib.hid (fun (W : World) (hb : Below X.heap.size X W) => HLW.out W (HX.out.trans (hb.mono HX.out.size)))
  have hq4 : (kk == 4) = false := beq_eq_false_iff_ne.2 h4
  have hq5 : (kk != 5) = true := bne_iff_ne.2 h5
  refine Rv.region_goods (n := 102) (by kernel_rfl) #[47, 48, 49, 50, 51, 52, 53, 54, 55, 56, 57, 58, 59, 60, 61, 62, 63, 64, 65, 66, 67, 68, 69, 70, 71, 72, 73, 74, 75] #[none, none, none, some false, none, none, none, some false, none, none, none, none, none, none, none, none, none, some false, none, none, none, none, none, some true] (fun i v W => v = (#[.slice (some ⟨bl, ol, none⟩) 1 cl, .int .i64 1, .bool false, .bool false, .bool true, .bool false, .bool false, .bool false, .slice (some ⟨bl, ol, none⟩) 1 cl, .pointer (some ⟨bl, ol, none⟩), .pointer (some ⟨bl, ol + 2, none⟩), .bool false, .pointer (some ⟨w.heap.size, 0, none⟩), .int .i64 kk, .bool false, .bool false, .bool false, .bool false, .slice (some ⟨bl, ol, none⟩) 1 cl, .pointer (some ⟨bl, ol, none⟩), .pointer (some ⟨bl, ol + 2, none⟩), .bool false, .bool true, .bool true, .pointer (some ⟨w.heap.size, 0, none⟩), .int .i64 kk, .bool true, .bool true, .bool true] : Array Value).getD i undef) (fun i v w w' h hb => ?_) (fun i h g b hg => ?_) rfl (by kernel_rfl) (by kernel_rfl) (fun i h hr w => ?_) ?_ ?_
  · exact h
  · match i, h, hg with
    | 0, _, hg => cases hg
    | 1, _, hg => cases hg
    | 2, _, hg => cases hg
    | 3, _, hg => cases hg
    | 4, _, hg => (cases hg; exact fun v w e => e)
    | 5, _, hg => (cases hg; exact fun v w e => e)
    | 6, _, hg => cases hg
    | 7, _, hg => cases hg
    | 8, _, hg => (cases hg; exact fun v w e => e)
    | 9, _, hg => (cases hg; exact fun v w e => e)
    | 10, _, hg => (cases hg; exact fun v w e => e)
    | 11, _, hg => (cases hg; exact fun v w e => e)
    | 12, _, hg => (cases hg; exact fun v w e => e)
    | 13, _, hg => (cases hg; exact fun v w e => e)
    | 14, _, hg => (cases hg; exact fun v w e => e)
    | 15, _, hg => (cases hg; exact fun v w e => e)
    | 16, _, hg => cases hg
    | 17, _, hg => cases hg
    | 18, _, hg => (cases hg; exact fun v w e => e)
    | 19, _, hg => (cases hg; exact fun v w e => e)
    | 20, _, hg => (cases hg; exact fun v w e => e)
    | 21, _, hg => (cases hg; exact fun v w e => e)
    | 22, _, hg => (cases hg; exact fun v w e => e)
    | 23, _, hg => (cases hg; exact fun v w e => e)
    | 24, _, hg => (cases hg; exact fun v w e => e)
    | 25, _, hg => (cases hg; exact fun v w e => e)
    | 26, _, hg => (cases hg; exact fun v w e => e)
    | 27, _, hg => (cases hg; exact fun v w e => e)
    | 28, _, hg => cases hg
    | m + 29, h, _ => exact absurd h (by show ¬ m + 29 < 29; omega)
  · match i, h, hr with
    | 0, _, hr => exact Bool.noConfusion (show true = false from hr)
    | 1, _, hr => exact Bool.noConfusion (show true = false from hr)
    | 2, _, hr => exact Bool.noConfusion (show true = false from hr)
    | 3, _, hr => exact Bool.noConfusion (show true = false from hr)
    | 4, _, hr => exact Bool.noConfusion (show true = false from hr)
    | 5, _, hr => exact Bool.noConfusion (show true = false from hr)
    | 6, _, hr => exact Bool.noConfusion (show true = false from hr)
    | 7, _, hr => exact Bool.noConfusion (show true = false from hr)
    | 8, _, hr => exact Bool.noConfusion (show true = false from hr)
    | 9, _, hr => exact Bool.noConfusion (show true = false from hr)
    | 10, _, hr => exact Bool.noConfusion (show true = false from hr)
    | 11, _, hr => exact Bool.noConfusion (show true = false from hr)
    | 12, _, hr => exact Bool.noConfusion (show true = false from hr)
    | 13, _, hr => exact Bool.noConfusion (show true = false from hr)
    | 14, _, hr => exact Bool.noConfusion (show true = false from hr)
    | 15, _, hr => exact Bool.noConfusion (show true = false from hr)
    | 16, _, hr => exact Bool.noConfusion (show true = false from hr)
    | 17, _, hr => exact Bool.noConfusion (show true = false from hr)
    | 18, _, hr => exact Bool.noConfusion (show true = false from hr)
    | 19, _, hr => exact Bool.noConfusion (show true = false from hr)
    | 20, _, hr => exact Bool.noConfusion (show true = false from hr)
    | 21, _, hr => exact Bool.noConfusion (show true = false from hr)
    | 22, _, hr => exact Bool.noConfusion (show true = false from hr)
    | 23, _, hr => exact Bool.noConfusion (show true = false from hr)
    | 24, _, hr => exact Bool.noConfusion (show true = false from hr)
    | 25, _, hr => exact Bool.noConfusion (show true = false from hr)
    | 26, _, hr => exact Bool.noConfusion (show true = false from hr)
    | 27, _, hr => exact Bool.noConfusion (show true = false from hr)
    | 28, _, hr => exact Bool.noConfusion (show true = false from hr)
    | m + 29, h, _ => exact absurd h (by show ¬ m + 29 < 29; omega)
  · intro i h a W hrun hbase hpre hdep htr
    obtain ⟨y0, y1, y2, y3, y4⟩ := Rv.cells5 ((htr.block _ hga).trans HA.out)
    obtain ⟨l0, l1, l2⟩ := HL.out W htr
    match i, h with
    | 0, _ =>
      obtain ⟨e1, x1⟩ := Rv.ev (show a.tmps.getD 1 undef = .slice (some ⟨bl, ol, none⟩) 1 cl from hbase 1 rfl)
      exact Rv.step_op (op := Go.Op.move (Go.Operand.tmp 1)) (v := .slice (some ⟨bl, ol, none⟩) 1 cl) (w1 := W) rfl rfl (fun d pos aft g => by unfold execOp; go_simp) ⟨_, rfl, rfl, Below.refl _ _⟩
    | 1, _ =>
      obtain ⟨e47, x47⟩ := Rv.ev (show a.tmps.getD 47 undef = .slice (some ⟨bl, ol, none⟩) 1 cl from hdep 0 rfl)
      exact Rv.step_op (op := Go.Op.call { callee := Go.Callee.builtin Go.Builtin.len, args := #[Go.Operand.tmp 47], argTypes := #[28] }) (v := .int .i64 1) (w1 := W) rfl rfl (fun d pos aft g => by unfold execOp; go_simp) ⟨_, rfl, rfl, Below.refl _ _⟩
    | 2, _ =>
      obtain ⟨e48, x48⟩ := Rv.ev (show a.tmps.getD 48 undef = .int .i64 1 from hdep 1 rfl)
      exact Rv.step_op (op := Go.Op.binOp Go.BinOp.gtr 3 (Go.Operand.tmp 48) (Go.Operand.const (Go.Value.int Go.IntKind.i64 1)) 3) (v := .bool false) (w1 := W) rfl rfl (fun d pos aft g => by unfold execOp; go_simp) ⟨_, rfl, rfl, Below.refl _ _⟩
    | 3, _ =>
      obtain ⟨e49, x49⟩ := Rv.ev (show a.tmps.getD 49 undef = .bool false from hdep 2 rfl)
      exact Rv.step_op (op := Go.Op.move (Go.Operand.tmp 49)) (v := .bool false) (w1 := W) rfl rfl (fun d pos aft g => by unfold execOp; go_simp) ⟨_, rfl, rfl, Below.refl _ _⟩
    | 4, _ =>
      obtain ⟨e4, x4⟩ := Rv.ev (show a.tmps.getD 4 undef = .bool true from hbase 4 rfl)
      exact Rv.step_op (op := Go.Op.move (Go.Operand.tmp 4)) (v := .bool true) (w1 := W) rfl rfl (fun d pos aft g => by unfold execOp; go_simp) ⟨_, rfl, rfl, Below.refl _ _⟩
    | 5, _ =>
      obtain ⟨e51, x51⟩ := Rv.ev (show a.tmps.getD 51 undef = .bool true from hdep 4 rfl)
      exact Rv.step_op (op := Go.Op.unOp Go.UnOp.not 4 (Go.Operand.tmp 51)) (v := .bool false) (w1 := W) rfl rfl (fun d pos aft g => by unfold execOp; go_simp) ⟨_, rfl, rfl, Below.refl _ _⟩
    | 6, _ =>
      obtain ⟨e50, x50⟩ := Rv.ev (show a.tmps.getD 50 undef = .bool false from hdep 3 rfl)
      obtain ⟨e52, x52⟩ := Rv.ev (show a.tmps.getD 52 undef = .bool false from hdep 5 rfl)
      exact Rv.step_op (op := Go.Op.pick (Go.Operand.tmp 50) (Go.Operand.const (Go.Value.bool true)) (Go.Operand.tmp 52)) (v := .bool false) (w1 := W) rfl rfl (fun d pos aft g => by unfold execOp; go_simp) ⟨_, rfl, rfl, Below.refl _ _⟩
    | 7, _ =>
      obtain ⟨e53, x53⟩ := Rv.ev (show a.tmps.getD 53 undef = .bool false from hdep 6 rfl)
      exact Rv.step_op (op := Go.Op.move (Go.Operand.tmp 53)) (v := .bool false) (w1 := W) rfl rfl (fun d pos aft g => by unfold execOp; go_simp) ⟨_, rfl, rfl, Below.refl _ _⟩
    | 8, _ =>
      obtain ⟨e1, x1⟩ := Rv.ev (show a.tmps.getD 1 undef = .slice (some ⟨bl, ol, none⟩) 1 cl from hbase 1 rfl)
      exact Rv.step_op (op := Go.Op.move (Go.Operand.tmp 1)) (v := .slice (some ⟨bl, ol, none⟩) 1 cl) (w1 := W) rfl rfl (fun d pos aft g => by unfold execOp; go_simp) ⟨_, rfl, rfl, Below.refl _ _⟩
    | 9, _ =>
      obtain ⟨e55, x55⟩ := Rv.ev (show a.tmps.getD 55 undef = .slice (some ⟨bl, ol, none⟩) 1 cl from hdep 8 rfl)
      exact Rv.step_op (op := Go.Op.indexAddr 28 (Go.Operand.tmp 55) (Go.Operand.const (Go.Value.int Go.IntKind.i64 0))) (v := .pointer (some ⟨bl, ol, none⟩)) (w1 := W) rfl rfl (fun d pos aft g => by unfold execOp; go_simp) ⟨_, rfl, rfl, Below.refl _ _⟩
    | 10, _ =>
      obtain ⟨e56, x56⟩ := Rv.ev (show a.tmps.getD 56 undef = .pointer (some ⟨bl, ol, none⟩) from hdep 9 rfl)
      exact Rv.step_op (op := Go.Op.fieldAddr 51 (Go.Operand.tmp 56) 2) (v := .pointer (some ⟨bl, ol + 2, none⟩)) (w1 := W) rfl rfl (fun d pos aft g => by unfold execOp; go_simp) ⟨_, rfl, rfl, Below.refl _ _⟩
    | 11, _ =>
      obtain ⟨e57, x57⟩ := Rv.ev (show a.tmps.getD 57 undef = .pointer (some ⟨bl, ol + 2, none⟩) from hdep 10 rfl)
      exact Rv.step_op (op := Go.Op.load 4 (Go.Operand.tmp 57)) (v := .bool false) (w1 := W) rfl rfl (fun d pos aft g => by unfold execOp; go_simp) ⟨_, rfl, rfl, Below.refl _ _⟩
    | 12, _ =>
      obtain ⟨e5, x5⟩ := Rv.ev (show a.tmps.getD 5 undef = .pointer (some ⟨w.heap.size, 0, none⟩) from hbase 5 rfl)
      exact Rv.step_op (op := Go.Op.fieldAddr 26 (Go.Operand.tmp 5) 0) (v := .pointer (some ⟨w.heap.size, 0, none⟩)) (w1 := W) rfl rfl (fun d pos aft g => by unfold execOp; go_simp) ⟨_, rfl, rfl, Below.refl _ _⟩
    | 13, _ =>
      obtain ⟨e59, x59⟩ := Rv.ev (show a.tmps.getD 59 undef = .pointer (some ⟨w.heap.size, 0, none⟩) from hdep 12 rfl)
      exact Rv.step_op (op := Go.Op.load 3 (Go.Operand.tmp 59)) (v := .int .i64 kk) (w1 := W) rfl rfl (fun d pos aft g => by unfold execOp; go_simp) ⟨_, rfl, rfl, Below.refl _ _⟩
    | 14, _ =>
      obtain ⟨e60, x60⟩ := Rv.ev (show a.tmps.getD 60 undef = .int .i64 kk from hdep 13 rfl)
      exact Rv.step_op (op := Go.Op.binOp Go.BinOp.eql 3 (Go.Operand.tmp 60) (Go.Operand.const (Go.Value.int Go.IntKind.i64 4)) 3) (v := .bool false) (w1 := W) rfl rfl (fun d pos aft g => by unfold execOp; go_simp) ⟨_, rfl, rfl, Below.refl _ _⟩
    | 15, _ =>
      obtain ⟨e58, x58⟩ := Rv.ev (show a.tmps.getD 58 undef = .bool false from hdep 11 rfl)
      obtain ⟨e61, x61⟩ := Rv.ev (show a.tmps.getD 61 undef = .bool false from hdep 14 rfl)
      exact Rv.step_op (op := Go.Op.binOp Go.BinOp.neq 4 (Go.Operand.tmp 58) (Go.Operand.tmp 61) 4) (v := .bool false) (w1 := W) rfl rfl (fun d pos aft g => by unfold execOp; go_simp) ⟨_, rfl, rfl, Below.refl _ _⟩
    | 16, _ =>
      obtain ⟨e54, x54⟩ := Rv.ev (show a.tmps.getD 54 undef = .bool false from hdep 7 rfl)
      obtain ⟨e62, x62⟩ := Rv.ev (show a.tmps.getD 62 undef = .bool false from hdep 15 rfl)
      exact Rv.step_op (op := Go.Op.pick (Go.Operand.tmp 54) (Go.Operand.const (Go.Value.bool true)) (Go.Operand.tmp 62)) (v := .bool false) (w1 := W) rfl rfl (fun d pos aft g => by unfold execOp; go_simp) ⟨_, rfl, rfl, Below.refl _ _⟩
    | 17, _ =>
      obtain ⟨e63, x63⟩ := Rv.ev (show a.tmps.getD 63 undef = .bool false from hdep 16 rfl)
      exact Rv.step_op (op := Go.Op.move (Go.Operand.tmp 63)) (v := .bool false) (w1 := W) rfl rfl (fun d pos aft g => by unfold execOp; go_simp) ⟨_, rfl, rfl, Below.refl _ _⟩
    | 18, _ =>
      obtain ⟨e1, x1⟩ := Rv.ev (show a.tmps.getD 1 undef = .slice (some ⟨bl, ol, none⟩) 1 cl from hbase 1 rfl)
      exact Rv.step_op (op := Go.Op.move (Go.Operand.tmp 1)) (v := .slice (some ⟨bl, ol, none⟩) 1 cl) (w1 := W) rfl rfl (fun d pos aft g => by unfold execOp; go_simp) ⟨_, rfl, rfl, Below.refl _ _⟩
    | 19, _ =>
      obtain ⟨e65, x65⟩ := Rv.ev (show a.tmps.getD 65 undef = .slice (some ⟨bl, ol, none⟩) 1 cl from hdep 18 rfl)
      exact Rv.step_op (op := Go.Op.indexAddr 28 (Go.Operand.tmp 65) (Go.Operand.const (Go.Value.int Go.IntKind.i64 0))) (v := .pointer (some ⟨bl, ol, none⟩)) (w1 := W) rfl rfl (fun d pos aft g => by unfold execOp; go_simp) ⟨_, rfl, rfl, Below.refl _ _⟩
    | 20, _ =>
      obtain ⟨e66, x66⟩ := Rv.ev (show a.tmps.getD 66 undef = .pointer (some ⟨bl, ol, none⟩) from hdep 19 rfl)
      exact Rv.step_op (op := Go.Op.fieldAddr 51 (Go.Operand.tmp 66) 2) (v := .pointer (some ⟨bl, ol + 2, none⟩)) (w1 := W) rfl rfl (fun d pos aft g => by unfold execOp; go_simp) ⟨_, rfl, rfl, Below.refl _ _⟩
    | 21, _ =>
      obtain ⟨e67, x67⟩ := Rv.ev (show a.tmps.getD 67 undef = .pointer (some ⟨bl, ol + 2, none⟩) from hdep 20 rfl)
      exact Rv.step_op (op := Go.Op.load 4 (Go.Operand.tmp 67)) (v := .bool false) (w1 := W) rfl rfl (fun d pos aft g => by unfold execOp; go_simp) ⟨_, rfl, rfl, Below.refl _ _⟩
    | 22, _ =>
      obtain ⟨e68, x68⟩ := Rv.ev (show a.tmps.getD 68 undef = .bool false from hdep 21 rfl)
      exact Rv.step_op (op := Go.Op.unOp Go.UnOp.not 4 (Go.Operand.tmp 68)) (v := .bool true) (w1 := W) rfl rfl (fun d pos aft g => by unfold execOp; go_simp) ⟨_, rfl, rfl, Below.refl _ _⟩
    | 23, _ =>
      obtain ⟨e69, x69⟩ := Rv.ev (show a.tmps.getD 69 undef = .bool true from hdep 22 rfl)
      exact Rv.step_op (op := Go.Op.move (Go.Operand.tmp 69)) (v := .bool true) (w1 := W) rfl rfl (fun d pos aft g => by unfold execOp; go_simp) ⟨_, rfl, rfl, Below.refl _ _⟩
    | 24, _ =>
      obtain ⟨e5, x5⟩ := Rv.ev (show a.tmps.getD 5 undef = .pointer (some ⟨w.heap.size, 0, none⟩) from hbase 5 rfl)
      exact Rv.step_op (op := Go.Op.fieldAddr 26 (Go.Operand.tmp 5) 0) (v := .pointer (some ⟨w.heap.size, 0, none⟩)) (w1 := W) rfl rfl (fun d pos aft g => by unfold execOp; go_simp) ⟨_, rfl, rfl, Below.refl _ _⟩
    | 25, _ =>
      obtain ⟨e71, x71⟩ := Rv.ev (show a.tmps.getD 71 undef = .pointer (some ⟨w.heap.size, 0, none⟩) from hdep 24 rfl)
      exact Rv.step_op (op := Go.Op.load 3 (Go.Operand.tmp 71)) (v := .int .i64 kk) (w1 := W) rfl rfl (fun d pos aft g => by unfold execOp; go_simp) ⟨_, rfl, rfl, Below.refl _ _⟩
    | 26, _ =>
      obtain ⟨e72, x72⟩ := Rv.ev (show a.tmps.getD 72 undef = .int .i64 kk from hdep 25 rfl)
      exact Rv.step_op (op := Go.Op.binOp Go.BinOp.neq 3 (Go.Operand.tmp 72) (Go.Operand.const (Go.Value.int Go.IntKind.i64 5)) 3) (v := .bool true) (w1 := W) rfl rfl (fun d pos aft g => by unfold execOp; go_simp) ⟨_, rfl, rfl, Below.refl _ _⟩
    | 27, _ =>
      obtain ⟨e70, x70⟩ := Rv.ev (show a.tmps.getD 70 undef = .bool true from hdep 23 rfl)
      obtain ⟨e73, x73⟩ := Rv.ev (show a.tmps.getD 73 undef = .bool true from hdep 26 rfl)
      exact Rv.step_op (op := Go.Op.pick (Go.Operand.tmp 70) (Go.Operand.tmp 73) (Go.Operand.const (Go.Value.bool false))) (v := .bool true) (w1 := W) rfl rfl (fun d pos aft g => by unfold execOp; go_simp) ⟨_, rfl, rfl, Below.refl _ _⟩
    | 28, _ =>
      obtain ⟨e64, x64⟩ := Rv.ev (show a.tmps.getD 64 undef = .bool false from hdep 17 rfl)
      obtain ⟨e74, x74⟩ := Rv.ev (show a.tmps.getD 74 undef = .bool true from hdep 27 rfl)
      exact Rv.step_op (op := Go.Op.pick (Go.Operand.tmp 64) (Go.Operand.const (Go.Value.bool true)) (Go.Operand.tmp 74)) (v := .bool true) (w1 := W) rfl rfl (fun d pos aft g => by unfold execOp; go_simp) ⟨_, rfl, rfl, Below.refl _ _⟩
    | m + 29, h => exact absurd h (by show ¬ m + 29 < 29; omega)
  intro W f hf htr
  have f0 : f 0 = .slice (some ⟨bl, ol, none⟩) 1 cl := hf 0 (by show 0 < 29; omega)
  have f1 : f 1 = .int .i64 1 := hf 1 (by show 1 < 29; omega)
  have f2 : f 2 = .bool false := hf 2 (by show 2 < 29; omega)
  have f3 : f 3 = .bool false := hf 3 (by show 3 < 29; omega)
  have f4 : f 4 = .bool true := hf 4 (by show 4 < 29; omega)
  have f5 : f 5 = .bool false := hf 5 (by show 5 < 29; omega)
  have f6 : f 6 = .bool false := hf 6 (by show 6 < 29; omega)
  have f7 : f 7 = .bool false := hf 7 (by show 7 < 29; omega)
  have f8 : f 8 = .slice (some ⟨bl, ol, none⟩) 1 cl := hf 8 (by show 8 < 29; omega)
  have f9 : f 9 = .pointer (some ⟨bl, ol, none⟩) := hf 9 (by show 9 < 29; omega)
  have f10 : f 10 = .pointer (some ⟨bl, ol + 2, none⟩) := hf 10 (by show 10 < 29; omega)
  have f11 : f 11 = .bool false := hf 11 (by show 11 < 29; omega)
  have f12 : f 12 = .pointer (some ⟨w.heap.size, 0, none⟩) := hf 12 (by show 12 < 29; omega)
  have f13 : f 13 = .int .i64 kk := hf 13 (by show 13 < 29; omega)
  have f14 : f 14 = .bool false := hf 14 (by show 14 < 29; omega)
  have f15 : f 15 = .bool false := hf 15 (by show 15 < 29; omega)
  have f16 : f 16 = .bool false := hf 16 (by show 16 < 29; omega)
  have f17 : f 17 = .bool false := hf 17 (by show 17 < 29; omega)
  have f18 : f 18 = .slice (some ⟨bl, ol, none⟩) 1 cl := hf 18 (by show 18 < 29; omega)
  have f19 : f 19 = .pointer (some ⟨bl, ol, none⟩) := hf 19 (by show 19 < 29; omega)
  have f20 : f 20 = .pointer (some ⟨bl, ol + 2, none⟩) := hf 20 (by show 20 < 29; omega)
  have f21 : f 21 = .bool false := hf 21 (by show 21 < 29; omega)
  have f22 : f 22 = .bool true := hf 22 (by show 22 < 29; omega)
  have f23 : f 23 = .bool true := hf 23 (by show 23 < 29; omega)
  have f24 : f 24 = .pointer (some ⟨w.heap.size, 0, none⟩) := hf 24 (by show 24 < 29; omega)
  have f25 : f 25 = .int .i64 kk := hf 25 (by show 25 < 29; omega)
  have f26 : f 26 = .bool true := hf 26 (by show 26 < 29; omega)
  have f27 : f 27 = .bool true := hf 27 (by show 27 < 29; omega)
  have f28 : f 28 = .bool true := hf 28 (by show 28 < 29; omega)
  refine (show ∀ (a : Act) (w : World), Code.wp _ _ _ a w → _ from by assumption) _ _ ?_
  refine Rv.fin_swap (L' := [(47, f 0), (48, f 1), (49, f 2), (50, f 3), (51, f 4), (52, f 5), (53, f 6), (54, f 7), (55, f 8), (56, f 9), (57, f 10), (58, f 11), (59, f 12), (60, f 13), (61, f 14), (62, f 15), (63, f 16), (64, f 17), (65, f 18), (66, f 19), (67, f 20), (68, f 21), (69, f 22), (70, f 23), (71, f 24), (72, f 25), (73, f 26), (74, f 27), (75, f 28)]) rfl ?_
  rw [f0, f1, f2, f3, f4, f5, f6, f7, f8, f9, f10, f11, f12, f13, f14, f15, f16, f17, f18, f19, f20, f21, f22, f23, f24, f25, f26, f27, f28]
  clear f0 f1 f2 f3 f4 f5 f6 f7 f8 f9 f10 f11 f12 f13 f14 f15 f16 f17 f18 f19 f20 f21 f22 f23 f24 f25 f26 f27 f28
  simp only [Rv.fin, List.foldl_cons, List.foldl_nil, Act.put, List.setIfInBounds_toArray, List.set_cons_succ, List.set_cons_zero]
  have HX := Lib.hid (HX.out.trans (htr.mono HX.out.size))
  have HA := Lib.hid ((htr.block _ hga).trans HA.out)
  have HXB := Lib.hid ((htr.block _ hgb).trans HXB.out)
  have HZ := Lib.hid ((htr.block _ hgz).trans HZ.out)
  clear hf htr HL hga hgb hgz
  have HXF := HX
  have HZF := HZ
  obtain ⟨y0, y1, y2, y3, y4⟩ := Rv.cells5 HA.out
  obtain ⟨s0, s1, s2, s3, s4⟩ := Rv.cells5 HZF.out
  obtain ⟨z0, z1, z2, z3, z4⟩ := Rv.frozen5 HZF.out
  go_wp2
  have gs := fun (W : World) j u => grown_set (Below.refl _ W) (w.heap.size + 1 + 1) j u
  have hgg := (grown_then (grown_then (grown_then (grown_then (gs W 0 (.int .i64 kk)) (gs _ 1 (.int .i64 n))) (gs _ 2 (.string s))) (gs _ 3 (.slice A ns.length c))) (gs _ 4 (.slice A2 is.length c2)))
  have sb : ∀ (V : World) (j : Nat) (u : Value), Below w.heap.size w V → Below w.heap.size w (V.setCell ⟨w.heap.size + 1 + 1, j, none⟩ u) := fun V j u h => h.setCell (by show w.heap.size ≤ w.heap.size + 1 + 1; omega) u
  have hbf := (sb _ 4 (.slice A2 is.length c2) (sb _ 3 (.slice A ns.length c) (sb _ 2 (.string s) (sb _ 1 (.int .i64 n) (sb _ 0 (.int .i64 kk) HXF.out)))))
  have HJF := Lib.hid (((HJ.out.below HXF.out).grown hgg (fun x hx e => by have := HES.out x hx; injection e with e; omega)).weak (q := fun x => E x ∨ w.heap.size ≤ x) (fun x _ hx => .inl hx))
  have HBF := Lib.hid hbf
  obtain ⟨q0, q1, q2, q3, q4⟩ := Rv.cells5 (Rv.sets5 HZF.out (.int .i64 kk) (.int .i64 n) (.string s) (.slice A ns.length c) (.slice A2 is.length c2))
  clear y0 y1 y2 y3 y4 s0 s1 s2 s3 s4 z0 z1 z2 z3 z4 gs hgg sb hbf
  refine bodyPost_ret (v := .tuple #[.agg #[.int .i64 kk, .int .i64 n, .string s, .slice A ns.length c, .slice A2 is.length c2], .bool false]) ?_ rfl ⟨_, _, rfl, HJF.out, HBF.out⟩
  simp only [results, show Tryz.f11.results = #[.cell 10 26, .tmp 11] by kernel_rfl]
  go_simp
end Go.Proofs.YtmelgankbegjaaaGreatDoor.Js

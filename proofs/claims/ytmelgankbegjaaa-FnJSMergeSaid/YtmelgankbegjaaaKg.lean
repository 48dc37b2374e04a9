/- When two arrays are equal, as the code has it. Conditions: those written at each lemma. -/
import Derived.Test.YtmelgankbegjaaaKf
set_option linter.unusedVariables false
set_option linter.unusedSimpArgs false
set_option maxRecDepth 100000
set_option maxHeartbeats 8000000
namespace Go.Proofs.Ytmelgankbegjaaa.Js
open Go.RowKit Go.Proofs.Ytmelgankbegjaaa.B

attribute [local go_sem] at67_67 at67_68 at68_67 at68_68
theorem IVs.get {p : Nat → Prop} {W : World} : ∀ {ts : List J} {vs : List Value}, IVs p W ts vs → ∀ (i : Nat) (h1 : i < ts.length) (h2 : i < vs.length), IV p W ts[i] vs[i]
  | t :: r, vs, h, 0, _, _ => by
    obtain ⟨x, vs', rfl, h1, _⟩ := h
    exact h1
  | t :: r, vs, h, i + 1, h1, h2 => by
    obtain ⟨x, vs', rfl, _, h3⟩ := h
    exact IVs.get h3 i (by simpa using h1) (by simpa using h2)
theorem jseq_arr (n1 n2 : Int) (s1 s2 : ByteArray) (ns1 ns2 : List ByteArray) (is1 is2 : List J) (IH0 : ∀ t ∈ is1, ∀ (t2 : J) (p q : Nat → Prop) (u1 u2 : Value) (w : World), Wf t → Wf t2 → IV p w t u1 → IV q w t2 u2 → Calls Try.prog 39 #[u1, u2] w fun e w' => e = .returned (.bool (eqJ t t2)) ∧ Below w.heap.size w w')
    (p q : Nat → Prop) (A B : Option Addr) (c d : Nat) (vs1 vs2 : List Value) (w : World) (hw1 : Wf (.mk 4 n1 s1 ns1 is1)) (hw2 : Wf (.mk 4 n2 s2 ns2 is2)) (r1 : Rp p w 1 (.slice A is1.length c) is1.length vs1) (i1 : IVs p w is1 vs1) (r2 : Rp q w 1 (.slice B is2.length d) is2.length vs2) (i2 : IVs q w is2 vs2) :
    Calls Try.prog 39 #[.iface 67 (.slice A is1.length c), .iface 67 (.slice B is2.length d)] w fun e w' => e = .returned (.bool (eqJ (.mk 4 n1 s1 ns1 is1) (.mk 4 n2 s2 ns2 is2))) ∧ Below w.heap.size w w' := by
  have hns : n1 = n2 ∧ s1 = s2 := by
    rcases hw1 with ⟨h, _⟩ | ⟨h, _⟩ | ⟨h, _⟩ | ⟨h, _⟩ | ⟨_, a1, b1, _⟩ | ⟨h, _⟩ <;> first | omega | skip
    rcases hw2 with ⟨h, _⟩ | ⟨h, _⟩ | ⟨h, _⟩ | ⟨h, _⟩ | ⟨_, a2, b2, _⟩ | ⟨h, _⟩ <;> first | omega | skip
    exact ⟨a1.trans a2.symm, b1.trans b2.symm⟩
  have hk1 := hw1.kids.1
  have hk2 := hw2.kids.1
  have hs1 : is1.length ≤ 4 := hw1.short.1
  have HNS := Lib.hid hns
  have HK1 := Lib.hid hk1
  have HK2 := Lib.hid hk2
  have R1 := Lib.hid r1.1
  have R2 := Lib.hid r2.1
  have I1 := Lib.hid i1
  have I2 := Lib.hid i2
  have IH0 := Lib.hid IH0
  have HE := Lib.hid (eqJ_iff (.mk 4 n1 s1 ns1 is1) (.mk 4 n2 s2 ns2 is2))
  have HI := Lib.hid (fun i (h1 : i < is1.length) (h2 : i < is2.length) => show it (.mk 4 n1 s1 ns1 is1) (.mk 4 n2 s2 ns2 is2) i = eqJ is1[i] is2[i] from by
    unfold it ps
    rw [if_neg (show ¬ (J.mk 4 n1 s1 ns1 is1).k = 5 from by show ¬ (4 : Int) = 5; decide), decide_eq_true (by omega), Bool.true_and, Int.toNat_natCast, getD_at (l := is1) h1, getD_at (l := is2) h2])
  clear hns hk1 hk2 hw1 hw2 r1 r2 i1 i2
  generalize eqJ (.mk 4 n1 s1 ns1 is1) (.mk 4 n2 s2 ns2 is2) = ans at *
  by_cases hl : is1.length = is2.length
  case neg =>
    have hlb : ((is1.length : Int) == (is2.length : Int)) = false := by
      rw [beq_eq_false_iff_ne]
      omega
    have HL := Lib.hid hl
    clear hl
    go_enter Try.func39, Try.ntmps39
    go_wp2
    go_ret
    refine ⟨?_, Below.refl _ _⟩
    have : ans = false := by
      rw [Bool.eq_false_iff]
      intro h
      exact HL.out (HE.out.1 h).2.2.2.1
    rw [this]
    rfl
  have hlb : ((is1.length : Int) == (is2.length : Int)) = true := by
    rw [beq_iff_eq]
    omega
  have HL := Lib.hid hl
  clear hl
  go_enter Try.func39, Try.ntmps39
  go_upto_region 7 with fail
  clear hlb
  go_loopw [9, 38] (fun v9 v38 wr => ∃ (i1 : Nat), v38 = .int .i64 (i1 : Int) ∧ i1 ≤ is1.length ∧ Hid (∀ j, j < i1 → it (.mk 4 n1 s1 ns1 is1) (.mk 4 n2 s2 ns2 is2) j = true) ∧ Hid (Below w.heap.size w wr)) (fun _ v38 _ => (is1.length - (intOf v38)).toNat)
  case atStart => exact ⟨0, rfl, Nat.zero_le _, Lib.hid (fun j hj => absurd hj (Nat.not_lt_zero j)), Lib.hid (Below.refl _ _)⟩
  case round =>
    obtain ⟨i1, rfl, hi1, HAL, HXB⟩ := hrel
    by_cases hlt : i1 < is1.length
    · have hlt2 : i1 < is2.length := by have := HL.out; omega
      have hv1 : i1 < vs1.length := by have := I1.out.len; omega
      have hv2 : i1 < vs2.length := by have := I2.out.len; omega
      obtain ⟨bi, oi, ci, e1, _, _, hbi, hci⟩ := R1.out.open (by omega)
      injection e1 with ea _ ec
      subst ea ec
      obtain ⟨bj, oj, cj, e2, _, _, hbj, hcj⟩ := R2.out.open (by omega)
      injection e2 with eb _ ed
      subst eb ed
      have x1c := hci i1 vs1[i1] (List.getElem?_eq_getElem hv1)
      have x2c := hcj i1 vs2[i1] (List.getElem?_eq_getElem hv2)
      have HIT := Lib.hid (HI.out i1 hlt hlt2)
      have IH := Lib.hid (fun (W : World) (hb : Below w.heap.size w W) => IH0.out is1[i1] (List.getElem_mem hlt) is2[i1] p q _ _ W (HK1.out.get _ (List.getElem_mem hlt)) (HK2.out.get _ (List.getElem_mem hlt2)) ((I1.out.get i1 hlt hv1).below hb) ((I2.out.get i1 hlt2 hv2).below hb))
      clear hci hcj
      generalize vs1[i1] = x1 at *
      generalize vs2[i1] = x2 at *
      generalize eqJ is1[i1] is2[i1] = r at *
      go_upto_region 9 with fail
      generalize wr = X at *
      have IC := Lib.hid (fun (W : World) (hb : Below X.heap.size X W) => have hb := HXB.out.trans (hb.mono HXB.out.size); show W.cell? ⟨bi, oi + i1, none⟩ = _ ∧ W.cell? ⟨bj, oj + i1, none⟩ = _ from ⟨(hb.cell hbi).trans x1c, (hb.cell hbj).trans x2c⟩)
      have IH := Lib.hid (fun (W : World) (hb : Below X.heap.size X W) => IH.out W (HXB.out.trans (hb.mono HXB.out.size)))
      have HIL := Lib.hid hlt
      have HJL := Lib.hid hlt2
      clear x1c x2c
      refine Rv.region_goods (n := 104) (by kernel_rfl) #[41, 42, 43, 44, 45, 46, 47, 48, 49, 50] #[] (fun i v W => v = (#[.slice (some ⟨bi, oi, none⟩) is1.length c, .int .i64 (i1 : Int), .pointer (some ⟨bi, oi + i1, none⟩), x1, .slice (some ⟨bj, oj, none⟩) is2.length d, .int .i64 (i1 : Int), .pointer (some ⟨bj, oj + i1, none⟩), x2, .bool r, .bool (!r)] : Array Value).getD i undef) (fun i v w w' h hb => ?_) (fun i h g b hg => ?_) rfl (by kernel_rfl) (by kernel_rfl) (fun i h hr w => ?_) ?_ ?_
      · exact h
      · match i, h, hg with
        | 0, _, hg => cases hg
        | 1, _, hg => cases hg
        | 2, _, hg => cases hg
        | 3, _, hg => cases hg
        | 4, _, hg => cases hg
        | 5, _, hg => cases hg
        | 6, _, hg => cases hg
        | 7, _, hg => cases hg
        | 8, _, hg => cases hg
        | 9, _, hg => cases hg
        | m + 10, h, _ => exact absurd h (by show ¬ m + 10 < 10; omega)
      · match i, h, hr with
        | 0, _, hr => exact Bool.noConfusion (show true = false from hr)
        | 1, _, hr => exact Bool.noConfusion (show true = false from hr)
        | 2, _, hr => exact Bool.noConfusion (show true = false from hr)
        | 3, _, hr => exact Bool.noConfusion (show true = false from hr)
        | 4, _, hr => exact Bool.noConfusion (show true = false from hr)
        | 5, _, hr => exact Bool.noConfusion (show true = false from hr)
        | 6, _, hr => exact Bool.noConfusion (show true = false from hr)
        | 7, _, hr => exact Bool.noConfusion (show true = false from hr)
        | 8, _, hr => exact Bool.noConfusion (show true = false from hr)
        | 9, _, hr => exact Bool.noConfusion (show true = false from hr)
        | m + 10, h, _ => exact absurd h (by show ¬ m + 10 < 10; omega)
      · intro i h a W hrun hbase hpre hdep htr
        have hil := HIL.out
        have hjl := HJL.out
        have hc1 := (IC.out W htr).1
        have hc2 := (IC.out W htr).2
        match i, h with
        | 0, _ =>
          obtain ⟨e5, x5⟩ := Rv.ev (show a.tmps.getD 5 undef = .slice (some ⟨bi, oi, none⟩) is1.length c from hbase 5 rfl)
          exact Rv.step_op (op := Go.Op.move (Go.Operand.tmp 5)) (v := .slice (some ⟨bi, oi, none⟩) is1.length c) (w1 := W) rfl rfl (fun d pos aft g => by unfold execOp; go_simp) ⟨_, rfl, rfl, Below.refl _ _⟩
        | 1, _ =>
          obtain ⟨e9, x9⟩ := Rv.ev (show a.tmps.getD 9 undef = .int .i64 (i1 : Int) from hbase 9 rfl)
          exact Rv.step_op (op := Go.Op.move (Go.Operand.tmp 9)) (v := .int .i64 (i1 : Int)) (w1 := W) rfl rfl (fun d pos aft g => by unfold execOp; go_simp) ⟨_, rfl, rfl, Below.refl _ _⟩
        | 2, _ =>
          obtain ⟨e41, x41⟩ := Rv.ev (show a.tmps.getD 41 undef = .slice (some ⟨bi, oi, none⟩) is1.length c from hdep 0 rfl)
          obtain ⟨e42, x42⟩ := Rv.ev (show a.tmps.getD 42 undef = .int .i64 (i1 : Int) from hdep 1 rfl)
          exact Rv.step_op (op := Go.Op.indexAddr 67 (Go.Operand.tmp 41) (Go.Operand.tmp 42)) (v := .pointer (some ⟨bi, oi + i1, none⟩)) (w1 := W) rfl rfl (fun d pos aft g => by unfold execOp; go_simp) ⟨_, rfl, rfl, Below.refl _ _⟩
        | 3, _ =>
          obtain ⟨e43, x43⟩ := Rv.ev (show a.tmps.getD 43 undef = .pointer (some ⟨bi, oi + i1, none⟩) from hdep 2 rfl)
          exact Rv.step_op (op := Go.Op.load 20 (Go.Operand.tmp 43)) (v := x1) (w1 := W) rfl rfl (fun d pos aft g => by unfold execOp; go_simp) ⟨_, rfl, rfl, Below.refl _ _⟩
        | 4, _ =>
          obtain ⟨e7, x7⟩ := Rv.ev (show a.tmps.getD 7 undef = .slice (some ⟨bj, oj, none⟩) is2.length d from hbase 7 rfl)
          exact Rv.step_op (op := Go.Op.move (Go.Operand.tmp 7)) (v := .slice (some ⟨bj, oj, none⟩) is2.length d) (w1 := W) rfl rfl (fun d pos aft g => by unfold execOp; go_simp) ⟨_, rfl, rfl, Below.refl _ _⟩
        | 5, _ =>
          obtain ⟨e9, x9⟩ := Rv.ev (show a.tmps.getD 9 undef = .int .i64 (i1 : Int) from hbase 9 rfl)
          exact Rv.step_op (op := Go.Op.move (Go.Operand.tmp 9)) (v := .int .i64 (i1 : Int)) (w1 := W) rfl rfl (fun d pos aft g => by unfold execOp; go_simp) ⟨_, rfl, rfl, Below.refl _ _⟩
        | 6, _ =>
          obtain ⟨e45, x45⟩ := Rv.ev (show a.tmps.getD 45 undef = .slice (some ⟨bj, oj, none⟩) is2.length d from hdep 4 rfl)
          obtain ⟨e46, x46⟩ := Rv.ev (show a.tmps.getD 46 undef = .int .i64 (i1 : Int) from hdep 5 rfl)
          exact Rv.step_op (op := Go.Op.indexAddr 67 (Go.Operand.tmp 45) (Go.Operand.tmp 46)) (v := .pointer (some ⟨bj, oj + i1, none⟩)) (w1 := W) rfl rfl (fun d pos aft g => by unfold execOp; go_simp) ⟨_, rfl, rfl, Below.refl _ _⟩
        | 7, _ =>
          obtain ⟨e47, x47⟩ := Rv.ev (show a.tmps.getD 47 undef = .pointer (some ⟨bj, oj + i1, none⟩) from hdep 6 rfl)
          exact Rv.step_op (op := Go.Op.load 20 (Go.Operand.tmp 47)) (v := x2) (w1 := W) rfl rfl (fun d pos aft g => by unfold execOp; go_simp) ⟨_, rfl, rfl, Below.refl _ _⟩
        | 8, _ =>
          obtain ⟨e44, x44⟩ := Rv.ev (show a.tmps.getD 44 undef = x1 from hdep 3 rfl)
          obtain ⟨e48, x48⟩ := Rv.ev (show a.tmps.getD 48 undef = x2 from hdep 7 rfl)
          have cf : ∀ x0 x1 W, (callFunc 39 #[x0, x1]).run Try.prog W = .ok (.enter 39 #[x0, x1]) W := fun _ _ _ => by kernel_rfl
          refine Rv.step_fn (op := Go.Op.call { callee := Go.Callee.value (Go.Operand.func 39), args := #[Go.Operand.tmp 44, Go.Operand.tmp 48], argTypes := #[20, 20] }) (f := 39) (args := #[x1, x2]) (R := fun v W' => v = .bool r ∧ Below W.heap.size W W') rfl rfl (fun d pos aft g => by unfold execOp; go_simp) ((IH.out W htr).mono ?_) ?_
          · (rintro e W' ⟨rfl, hb⟩; exact ⟨_, rfl, rfl, hb⟩)
          · (rintro v W' ⟨rfl, hb⟩; exact ⟨_, rfl, rfl, hb⟩)
        | 9, _ =>
          obtain ⟨e49, x49⟩ := Rv.ev (show a.tmps.getD 49 undef = .bool r from hdep 8 rfl)
          exact Rv.step_op (op := Go.Op.unOp Go.UnOp.not 4 (Go.Operand.tmp 49)) (v := .bool (!r)) (w1 := W) rfl rfl (fun d pos aft g => by unfold execOp; go_simp) ⟨_, rfl, rfl, Below.refl _ _⟩
        | m + 10, h => exact absurd h (by show ¬ m + 10 < 10; omega)
      intro W f hf htr
      have f0 : f 0 = .slice (some ⟨bi, oi, none⟩) is1.length c := hf 0 (by show 0 < 10; omega)
      have f1 : f 1 = .int .i64 (i1 : Int) := hf 1 (by show 1 < 10; omega)
      have f2 : f 2 = .pointer (some ⟨bi, oi + i1, none⟩) := hf 2 (by show 2 < 10; omega)
      have f3 : f 3 = x1 := hf 3 (by show 3 < 10; omega)
      have f4 : f 4 = .slice (some ⟨bj, oj, none⟩) is2.length d := hf 4 (by show 4 < 10; omega)
      have f5 : f 5 = .int .i64 (i1 : Int) := hf 5 (by show 5 < 10; omega)
      have f6 : f 6 = .pointer (some ⟨bj, oj + i1, none⟩) := hf 6 (by show 6 < 10; omega)
      have f7 : f 7 = x2 := hf 7 (by show 7 < 10; omega)
      have f8 : f 8 = .bool r := hf 8 (by show 8 < 10; omega)
      have f9 : f 9 = .bool (!r) := hf 9 (by show 9 < 10; omega)
      refine (show ∀ (a : Act) (w : World), Code.wp _ _ _ a w → _ from by assumption) _ _ ?_
      refine Rv.fin_swap (L' := [(41, f 0), (42, f 1), (43, f 2), (44, f 3), (45, f 4), (46, f 5), (47, f 6), (48, f 7), (49, f 8), (50, f 9)]) rfl ?_
      rw [f0, f1, f2, f3, f4, f5, f6, f7, f8, f9]
      clear f0 f1 f2 f3 f4 f5 f6 f7 f8 f9
      simp only [Rv.fin, List.foldl_cons, List.foldl_nil, Act.put, List.setIfInBounds_toArray, List.set_cons_succ, List.set_cons_zero]
      have HXW := Lib.hid (HXB.out.trans (htr.mono HXB.out.size))
      clear hf htr IC IH HXB
      cases r
      · go_wp2
        go_ret
        refine ⟨?_, HXW.out⟩
        have : ans = false := by
          rw [Bool.eq_false_iff]
          intro h
          have h2 := (HE.out.1 h).2.2.2.2 i1 hlt
          rw [HIT.out] at h2
          cases h2
        rw [this]
        rfl
      · go_wp2
        go_roundw
        case rel => exact ⟨i1 + 1, by go_num, by omega, Lib.hid (fun j hj => by
          rcases Nat.lt_succ_iff_lt_or_eq.1 hj with h | h
          · exact HAL.out j h
          · rw [h]; exact HIT.out), HXW⟩
        case measure => simp [intOf]; omega
    · obtain rfl : i1 = is1.length := by omega
      go_wp2
      go_ret
      refine ⟨?_, HXB.out⟩
      have : ans = true := HE.out.2 ⟨by first | rfl | trivial, HNS.out.1, HNS.out.2, HL.out, HAL.out⟩
      rw [this]
      rfl
end Go.Proofs.Ytmelgankbegjaaa.Js

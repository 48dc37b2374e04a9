/- Is one range part of another? Conditions: those written at each lemma. -/
import Derived.Test.YtfnogpelaoofbaaGreatDoorRud
set_option linter.unusedVariables false
set_option linter.unusedSimpArgs false
set_option maxRecDepth 100000
set_option maxHeartbeats 8000000
namespace Go.Proofs.YtfnogpelaoofbaaGreatDoor.Rg
open Go.RowKit Go.Proofs.YtfnogpelaoofbaaGreatDoor.B Go.Proofs.YtfnogpelaoofbaaGreatDoor.Sp

/-- Is one column's range part of another, by the program's own comparisons? -/
def subC (a b : Cl) : Bool := !decide (cp (ctOf a.a a.x) (ctOf b.a b.x) = -1) && !decide (cp (ctOf a.b a.y) (ctOf b.b b.y) = 1)
abbrev Cl.e (c : Cl) : Value := exI (ctOf c.a c.x).tid (ctOf c.a c.x).inner (ctOf c.b c.y).tid (ctOf c.b c.y).inner
theorem sub_cl (a b : Cl) (W : World) : Calls Tryz.prog 97 #[a.e, b.e] W fun e w' => e = .returned (.tuple #[.bool (subC a b), .nilIface]) ∧ Below W.heap.size W w' := by
  have h := subset_ct (ctOf a.a a.x) (ctOf a.b a.y) (ctOf b.a b.x) (ctOf b.b b.y) W
  rw [ex_eq, ex_eq] at h
  exact h
theorem rsubset_any (v u : Value) (p q : List Cl) (w : World) (hr : Rd w 3 v p.length (exs p)) (hu : Rd w 3 u q.length (exs q)) (hlen : p.length = q.length) (hl : p.length ≤ 100000) :
    Calls Tryz.prog 87 #[v, u] w fun e w' => e = .returned (.tuple #[.bool ((p.zip q).all fun c => subC c.1 c.2), .nilIface]) ∧ Below w.heap.size w w' := by
  obtain ⟨A, c, rfl, hlc, hcm⟩ := hr.shape
  obtain ⟨A2, c2, rfl, hlc2, hcm2⟩ := hu.shape
  have HR := Lib.hid hr
  have HU := Lib.hid hu
  obtain ⟨res, hres⟩ : ∃ res, ((p.zip q).all fun c => subC c.1 c.2) = res := ⟨_, rfl⟩
  rw [hres]
  have HE := Lib.hid hres
  have hne : ((p.length : Int) != (q.length : Int)) = false := by simp [hlen]
  have HLQ := Lib.hid hlen
  clear hr hu hres hlen
  go_enter Tryz.func87, Tryz.ntmps87
  go_wp2
  go_loopw [16] (fun v16 wr => ∃ (k : Nat), v16 = .int .i64 k ∧ k ≤ p.length ∧ Hid ((((p.zip q).take k).all fun c => subC c.1 c.2) = true) ∧ Hid (Below w.heap.size w wr)) (fun v16 _ => (p.length - (intOf v16)).toNat)
  case atStart => exact ⟨0, rfl, Nat.zero_le _, Lib.hid rfl, Lib.hid (Below.refl _ _)⟩
  case round =>
    obtain ⟨k, rfl, hk, HN, HB⟩ := hrel
    by_cases hlt : k < p.length
    · have hlt2 : k < q.length := by rw [← HLQ.out]; exact hlt
      obtain ⟨b1, o1, rfl, hb1, c0, c1, c2'⟩ := rd_ex HR.out k hlt
      obtain ⟨b2, o2, rfl, hb2, d0, d1, d2⟩ := rd_ex HU.out k hlt2
      have SA := Lib.hid (fun W => sub_cl p[k] q[k] W)
      have hz : k < (p.zip q).length := by rw [List.length_zip]; omega
      have HM := Lib.hid (show (((p.zip q).take (k + 1)).all fun c => subC c.1 c.2) = subC p[k] q[k] from by rw [take_snocA _ k hz, List.all_append, HN.out, List.getElem_zip]; simp)
      have HF := Lib.hid (show subC p[k] q[k] = false → ((p.zip q).all fun c => subC c.1 c.2) = false from fun h => by
        rw [← List.take_append_drop (k + 1) (p.zip q), List.all_append, HM.out, h, Bool.false_and])
      clear hz
      generalize p[k] = P at *
      generalize q[k] = Q at *
      obtain ⟨sm, hsm⟩ : ∃ sm, subC P Q = sm := ⟨_, rfl⟩
      rw [hsm] at SA HM HF
      unfold Cl.e at SA
      generalize (ctOf P.a P.x).tid = ta at *
      generalize (ctOf P.a P.x).inner = ai at *
      generalize (ctOf P.b P.y).tid = tb at *
      generalize (ctOf P.b P.y).inner = bi at *
      generalize (ctOf Q.a Q.x).tid = tc at *
      generalize (ctOf Q.a Q.x).inner = ci at *
      generalize (ctOf Q.b Q.y).tid = td at *
      generalize (ctOf Q.b Q.y).inner = di at *
      clear hsm
      go_upto_region 6 with fail
      obtain ⟨X, rfl⟩ : ∃ X : World, X = wr := ⟨_, rfl⟩
      refine Rv.region_goods (n := 39) (by kernel_rfl) #[20, 21, 22, 23, 24, 25, 26, 27, 28, 19, 29, 30, 7, 8] #[] (fun i v W => v = (#[.slice (some ⟨b1, o1, none⟩) p.length c, .int .i64 (k : Int), .pointer (some ⟨b1, o1 + k * 3, none⟩), exI ta ai tb bi, .slice (some ⟨b2, o2, none⟩) q.length c2, .int .i64 (k : Int), .pointer (some ⟨b2, o2 + k * 3, none⟩), exI tc ci td di, .tuple #[.bool sm, .nilIface], .tuple #[.bool sm, .nilIface], .bool sm, .nilIface, .bool sm, .nilIface] : Array Value).getD i undef) (fun i v w w' h hb => ?_) (fun i h g b hg => ?_) rfl (by kernel_rfl) (by kernel_rfl) (fun i h hr w => ?_) ?_ ?_
      · exact h
      · match i, h, hg with
        | 0, _, hg => cases hg
        | 1, _, hg => cases hg
        | 2, _, hg => cases hg
        | 3, _, hg => cases hg
        | 4, _, hg => cases hg
        | 5, _, hg => cases hg
        | 6, _, hg => cases hg
        | 7, _, hg => cases hg
        | 8, _, hg => cases hg
        | 9, _, hg => cases hg
        | 10, _, hg => cases hg
        | 11, _, hg => cases hg
        | 12, _, hg => cases hg
        | 13, _, hg => cases hg
        | m + 14, h, _ => exact absurd h (by show ¬ m + 14 < 14; omega)
      · match i, h, hr with
        | 0, _, hr => exact Bool.noConfusion (show true = false from hr)
        | 1, _, hr => exact Bool.noConfusion (show true = false from hr)
        | 2, _, hr => exact Bool.noConfusion (show true = false from hr)
        | 3, _, hr => exact Bool.noConfusion (show true = false from hr)
        | 4, _, hr => exact Bool.noConfusion (show true = false from hr)
        | 5, _, hr => exact Bool.noConfusion (show true = false from hr)
        | 6, _, hr => exact Bool.noConfusion (show true = false from hr)
        | 7, _, hr => exact Bool.noConfusion (show true = false from hr)
        | 8, _, hr => exact Bool.noConfusion (show true = false from hr)
        | 9, _, hr => exact Bool.noConfusion (show true = false from hr)
        | 10, _, hr => exact Bool.noConfusion (show true = false from hr)
        | 11, _, hr => exact Bool.noConfusion (show true = false from hr)
        | 12, _, hr => exact Bool.noConfusion (show true = false from hr)
        | 13, _, hr => exact Bool.noConfusion (show true = false from hr)
        | m + 14, h, _ => exact absurd h (by show ¬ m + 14 < 14; omega)
      · intro i h a W hrun hbase hpre hdep htr
        have HBW := HB.out.trans (htr.mono HB.out.size)
        have q0 := (HBW.cell (p := ⟨b1, o1 + k * 3, none⟩) hb1).trans c0
        have q1 := (HBW.cell (p := ⟨b1, o1 + k * 3 + 1, none⟩) hb1).trans c1
        have q2 := (HBW.cell (p := ⟨b1, o1 + k * 3 + 2, none⟩) hb1).trans c2'
        have r0 := (HBW.cell (p := ⟨b2, o2 + k * 3, none⟩) hb2).trans d0
        have r1 := (HBW.cell (p := ⟨b2, o2 + k * 3 + 1, none⟩) hb2).trans d1
        have r2 := (HBW.cell (p := ⟨b2, o2 + k * 3 + 2, none⟩) hb2).trans d2
        match i, h with
        | 0, _ =>
          obtain ⟨e0, x0⟩ := Rv.ev (show a.tmps.getD 0 undef = .slice (some ⟨b1, o1, none⟩) p.length c from hbase 0 rfl)
          exact Rv.step_op (op := Go.Op.move (Go.Operand.tmp 0)) (v := .slice (some ⟨b1, o1, none⟩) p.length c) (w1 := W) rfl rfl (fun d pos aft g => by unfold execOp; go_simp) ⟨_, rfl, rfl, Below.refl _ _⟩
        | 1, _ =>
          obtain ⟨e6, x6⟩ := Rv.ev (show a.tmps.getD 6 undef = .int .i64 (k : Int) from hbase 6 rfl)
          exact Rv.step_op (op := Go.Op.move (Go.Operand.tmp 6)) (v := .int .i64 (k : Int)) (w1 := W) rfl rfl (fun d pos aft g => by unfold execOp; go_simp) ⟨_, rfl, rfl, Below.refl _ _⟩
        | 2, _ =>
          obtain ⟨e20, x20⟩ := Rv.ev (show a.tmps.getD 20 undef = .slice (some ⟨b1, o1, none⟩) p.length c from hdep 0 rfl)
          obtain ⟨e21, x21⟩ := Rv.ev (show a.tmps.getD 21 undef = .int .i64 (k : Int) from hdep 1 rfl)
          exact Rv.step_op (op := Go.Op.indexAddr 63 (Go.Operand.tmp 20) (Go.Operand.tmp 21)) (v := .pointer (some ⟨b1, o1 + k * 3, none⟩)) (w1 := W) rfl rfl (fun d pos aft g => by unfold execOp; go_simp) ⟨_, rfl, rfl, Below.refl _ _⟩
        | 3, _ =>
          obtain ⟨e22, x22⟩ := Rv.ev (show a.tmps.getD 22 undef = .pointer (some ⟨b1, o1 + k * 3, none⟩) from hdep 2 rfl)
          exact Rv.step_op (op := Go.Op.load 92 (Go.Operand.tmp 22)) (v := exI ta ai tb bi) (w1 := W) rfl rfl (fun d pos aft g => by unfold execOp; go_simp) ⟨_, rfl, rfl, Below.refl _ _⟩
        | 4, _ =>
          obtain ⟨e1, x1⟩ := Rv.ev (show a.tmps.getD 1 undef = .slice (some ⟨b2, o2, none⟩) q.length c2 from hbase 1 rfl)
          exact Rv.step_op (op := Go.Op.move (Go.Operand.tmp 1)) (v := .slice (some ⟨b2, o2, none⟩) q.length c2) (w1 := W) rfl rfl (fun d pos aft g => by unfold execOp; go_simp) ⟨_, rfl, rfl, Below.refl _ _⟩
        | 5, _ =>
          obtain ⟨e6, x6⟩ := Rv.ev (show a.tmps.getD 6 undef = .int .i64 (k : Int) from hbase 6 rfl)
          exact Rv.step_op (op := Go.Op.move (Go.Operand.tmp 6)) (v := .int .i64 (k : Int)) (w1 := W) rfl rfl (fun d pos aft g => by unfold execOp; go_simp) ⟨_, rfl, rfl, Below.refl _ _⟩
        | 6, _ =>
          obtain ⟨e24, x24⟩ := Rv.ev (show a.tmps.getD 24 undef = .slice (some ⟨b2, o2, none⟩) q.length c2 from hdep 4 rfl)
          obtain ⟨e25, x25⟩ := Rv.ev (show a.tmps.getD 25 undef = .int .i64 (k : Int) from hdep 5 rfl)
          exact Rv.step_op (op := Go.Op.indexAddr 63 (Go.Operand.tmp 24) (Go.Operand.tmp 25)) (v := .pointer (some ⟨b2, o2 + k * 3, none⟩)) (w1 := W) rfl rfl (fun d pos aft g => by unfold execOp; go_simp) ⟨_, rfl, rfl, Below.refl _ _⟩
        | 7, _ =>
          obtain ⟨e26, x26⟩ := Rv.ev (show a.tmps.getD 26 undef = .pointer (some ⟨b2, o2 + k * 3, none⟩) from hdep 6 rfl)
          exact Rv.step_op (op := Go.Op.load 92 (Go.Operand.tmp 26)) (v := exI tc ci td di) (w1 := W) rfl rfl (fun d pos aft g => by unfold execOp; go_simp) ⟨_, rfl, rfl, Below.refl _ _⟩
        | 8, _ =>
          obtain ⟨e23, x23⟩ := Rv.ev (show a.tmps.getD 23 undef = exI ta ai tb bi from hdep 3 rfl)
          obtain ⟨e27, x27⟩ := Rv.ev (show a.tmps.getD 27 undef = exI tc ci td di from hdep 7 rfl)
          have cf : ∀ x0 x1 W, (callFunc 97 #[x0, x1]).run Tryz.prog W = .ok (.enter 97 #[x0, x1]) W := fun _ _ _ => by kernel_rfl
          refine Rv.step_fn (op := Go.Op.call { callee := Go.Callee.value (Go.Operand.func 97), args := #[Go.Operand.tmp 23, Go.Operand.tmp 27], argTypes := #[92, 92] }) (f := 97) (args := #[exI ta ai tb bi, exI tc ci td di]) (R := fun v W' => v = .tuple #[.bool sm, .nilIface] ∧ Below W.heap.size W W') rfl rfl (fun d pos aft g => by unfold execOp; go_simp) ((SA.out W).mono ?_) ?_
          · (rintro e W' ⟨rfl, hb⟩; exact ⟨_, rfl, rfl, hb⟩)
          · (rintro v W' ⟨rfl, hb⟩; exact ⟨_, rfl, rfl, hb⟩)
        | 9, _ =>
          obtain ⟨e28, x28⟩ := Rv.ev (show a.tmps.getD 28 undef = .tuple #[.bool sm, .nilIface] from hdep 8 rfl)
          exact Rv.step_op (op := Go.Op.move (Go.Operand.tmp 28)) (v := .tuple #[.bool sm, .nilIface]) (w1 := W) rfl rfl (fun d pos aft g => by unfold execOp; go_simp) ⟨_, rfl, rfl, Below.refl _ _⟩
        | 10, _ =>
          obtain ⟨e19, x19⟩ := Rv.ev (show a.tmps.getD 19 undef = .tuple #[.bool sm, .nilIface] from hdep 9 rfl)
          exact Rv.step_op (op := Go.Op.extract (Go.Operand.tmp 19) 0) (v := .bool sm) (w1 := W) rfl rfl (fun d pos aft g => by unfold execOp; go_simp) ⟨_, rfl, rfl, Below.refl _ _⟩
        | 11, _ =>
          obtain ⟨e19, x19⟩ := Rv.ev (show a.tmps.getD 19 undef = .tuple #[.bool sm, .nilIface] from hdep 9 rfl)
          exact Rv.step_op (op := Go.Op.extract (Go.Operand.tmp 19) 1) (v := .nilIface) (w1 := W) rfl rfl (fun d pos aft g => by unfold execOp; go_simp) ⟨_, rfl, rfl, Below.refl _ _⟩
        | 12, _ =>
          obtain ⟨e29, x29⟩ := Rv.ev (show a.tmps.getD 29 undef = .bool sm from hdep 10 rfl)
          exact Rv.step_op (op := Go.Op.assign (Go.Operand.tmp 29)) (v := .bool sm) (w1 := W) rfl rfl (fun d pos aft g => by unfold execOp; go_simp) ⟨_, rfl, rfl, Below.refl _ _⟩
        | 13, _ =>
          obtain ⟨e30, x30⟩ := Rv.ev (show a.tmps.getD 30 undef = .nilIface from hdep 11 rfl)
          exact Rv.step_op (op := Go.Op.assign (Go.Operand.tmp 30)) (v := .nilIface) (w1 := W) rfl rfl (fun d pos aft g => by unfold execOp; go_simp) ⟨_, rfl, rfl, Below.refl _ _⟩
        | m + 14, h => exact absurd h (by show ¬ m + 14 < 14; omega)
      intro W f hf htr
      have f0 : f 0 = .slice (some ⟨b1, o1, none⟩) p.length c := hf 0 (by show 0 < 14; omega)
      have f1 : f 1 = .int .i64 (k : Int) := hf 1 (by show 1 < 14; omega)
      have f2 : f 2 = .pointer (some ⟨b1, o1 + k * 3, none⟩) := hf 2 (by show 2 < 14; omega)
      have f3 : f 3 = exI ta ai tb bi := hf 3 (by show 3 < 14; omega)
      have f4 : f 4 = .slice (some ⟨b2, o2, none⟩) q.length c2 := hf 4 (by show 4 < 14; omega)
      have f5 : f 5 = .int .i64 (k : Int) := hf 5 (by show 5 < 14; omega)
      have f6 : f 6 = .pointer (some ⟨b2, o2 + k * 3, none⟩) := hf 6 (by show 6 < 14; omega)
      have f7 : f 7 = exI tc ci td di := hf 7 (by show 7 < 14; omega)
      have f8 : f 8 = .tuple #[.bool sm, .nilIface] := hf 8 (by show 8 < 14; omega)
      have f9 : f 9 = .tuple #[.bool sm, .nilIface] := hf 9 (by show 9 < 14; omega)
      have f10 : f 10 = .bool sm := hf 10 (by show 10 < 14; omega)
      have f11 : f 11 = .nilIface := hf 11 (by show 11 < 14; omega)
      have f12 : f 12 = .bool sm := hf 12 (by show 12 < 14; omega)
      have f13 : f 13 = .nilIface := hf 13 (by show 13 < 14; omega)
      refine (show ∀ (a : Act) (w : World), Code.wp _ _ _ a w → _ from by assumption) _ _ ?_
      refine Rv.fin_swap (L' := [(20, f 0), (21, f 1), (22, f 2), (23, f 3), (24, f 4), (25, f 5), (26, f 6), (27, f 7), (28, f 8), (19, f 9), (29, f 10), (30, f 11), (7, f 12), (8, f 13)]) rfl ?_
      rw [f0, f1, f2, f3, f4, f5, f6, f7, f8, f9, f10, f11, f12, f13]
      clear f0 f1 f2 f3 f4 f5 f6 f7 f8 f9 f10 f11 f12 f13
      simp only [Rv.fin, List.foldl_cons, List.foldl_nil, Act.put, List.setIfInBounds_toArray, List.set_cons_succ, List.set_cons_zero]
      have HB2 := Lib.hid (HB.out.trans (htr.mono HB.out.size))
      clear htr
      cases sm
      · have e : res = false := HE.out.symm.trans (HF.out rfl)
        subst e
        go_wp2
        go_ret2
        exact ⟨rfl, HB2.out⟩
      · go_wp2
        go_roundw
        case rel => exact ⟨k + 1, by go_num, by omega, HM, HB2⟩
        case measure => simp [intOf]; omega
    · obtain rfl : k = p.length := by omega
      rw [List.take_of_length_le (by rw [List.length_zip, ← HLQ.out]; omega)] at HN
      have e : res = true := HE.out.symm.trans HN.out
      subst e
      go_wp2
      go_ret2
      exact ⟨rfl, HB.out⟩
theorem rsuperset_any (v u : Value) (p q : List Cl) (w : World) (hr : Rd w 3 v p.length (exs p)) (hu : Rd w 3 u q.length (exs q)) (hlen : p.length = q.length) (hl : p.length ≤ 100000) :
    Calls Tryz.prog 69 #[v, u] w fun e w' => e = .returned (.tuple #[.bool ((q.zip p).all fun c => subC c.1 c.2), .nilIface]) ∧ Below w.heap.size w w' := by
  have C := rsubset_any u v q p w hu hr hlen.symm (by omega)
  clear hlen
  obtain ⟨A, c, rfl, hlc, hcm⟩ := hr.shape
  obtain ⟨A2, c2, rfl, hlc2, hcm2⟩ := hu.shape
  generalize ((q.zip p).all fun c => subC c.1 c.2) = res at *
  go_enter Tryz.func69, Tryz.ntmps69
  go_wp2_with (go_at_call 87; go_loud ((with_reducible refine C.mono ?_); rintro e w1 ⟨rfl, hb1⟩))
  go_ret2
  exact ⟨rfl, hb1⟩
end Go.Proofs.YtfnogpelaoofbaaGreatDoor.Rg

/- Ranges of several columns: whether two are the same; how the law makes them. Conditions: those written at each lemma. -/
import Derived.Test.YtfnogpelaoofbaaGreatDoorRra
set_option linter.unusedVariables false
set_option linter.unusedSimpArgs false
set_option maxRecDepth 100000
set_option maxHeartbeats 4000000
namespace Go.Proofs.YtfnogpelaoofbaaGreatDoor.Rg
open Go.RowKit Go.Proofs.YtfnogpelaoofbaaGreatDoor.B Go.Proofs.YtfnogpelaoofbaaGreatDoor.Sp

/-- Have two ranges of several columns the same values? -/
def sameL (p q : List Cl) : Bool := (noneL p && noneL q) || (decide (p.length = q.length) && (p.zip q).all fun c => sameC c.1 c.2)
theorem rrsame_any (v u : Value) (p q : List Cl) (w : World) (hr : Rd w 4 v p.length (clc p)) (hu : Rd w 4 u q.length (clc q)) (ha : ∀ c ∈ p, Pcl c) (hb : ∀ c ∈ q, Pcl c) :
    Calls Tryz.prog 21 #[v, u] w fun e w' => e = .returned (.bool (sameL p q)) ∧ Below w.heap.size w w' := by
  obtain ⟨A, c, rfl, hlc, hcm⟩ := hr.shape
  obtain ⟨A2, c2, rfl, hlc2, hcm2⟩ := hu.shape
  have HR := Lib.hid hr
  have HU := Lib.hid hu
  have PA := Lib.hid ha
  have PB := Lib.hid hb
  have N1 := Lib.hid (rrnone_any (.slice A p.length c) p w hr ha)
  have N2 := Lib.hid (fun W (h : Below w.heap.size w W) => rrnone_any (.slice A2 q.length c2) q W (hu.below h) hb)
  obtain ⟨res, hres⟩ : ∃ res, sameL p q = res := ⟨_, rfl⟩
  rw [hres]
  unfold sameL at hres
  generalize noneL p = np at *
  generalize noneL q = nq at *
  have HS := Lib.hid hres
  clear hr hu ha hb hres
  cases np
  case true =>
    cases nq
    case true =>
      have e : res = true := by rw [← HS.out]; rfl
      subst e
      clear HS
      go_enter Tryz.func21, Tryz.ntmps21
      go_wp2_with (first
        | (go_at_call 8; (with_reducible refine N1.out.mono ?_); rintro e w1 ⟨rfl, hb1⟩; have H1 := Lib.hid hb1; clear hb1)
        | (go_at_call 8; (with_reducible refine (N2.out _ H1.out).mono ?_); rintro e w2 ⟨rfl, hb2⟩; have H2 := Lib.hid (H1.out.trans (hb2.mono H1.out.size)); clear hb2))
      go_ret
      exact ⟨rfl, H2.out⟩
    case false =>
      have HE : Hid ((decide (p.length = q.length) && (p.zip q).all fun c => sameC c.1 c.2) = res) := Lib.hid HS.out
      clear HS
      by_cases hlen : p.length = q.length
      · have hne : ((p.length : Int) != (q.length : Int)) = false := by simp [hlen]
        rw [decide_eq_true hlen, Bool.true_and] at HE
        have HLQ := Lib.hid hlen
        clear hlen
        go_enter Tryz.func21, Tryz.ntmps21
        go_wp2_with (first
          | (go_at_call 8; (with_reducible refine N1.out.mono ?_); rintro e w1 ⟨rfl, hb1⟩; have H1 := Lib.hid hb1; clear hb1)
          | (go_at_call 8; (with_reducible refine (N2.out _ H1.out).mono ?_); rintro e w2 ⟨rfl, hb2⟩; have H2 := Lib.hid (H1.out.trans (hb2.mono H1.out.size)); clear hb2))
        go_loopw [5] (fun v5 wr => ∃ (k : Nat), v5 = .int .i64 k ∧ k ≤ p.length ∧ Hid ((((p.zip q).take k).all fun c => sameC c.1 c.2) = true) ∧ Hid (Below w.heap.size w wr)) (fun v5 _ => (p.length - (intOf v5)).toNat)
        case atStart => exact ⟨0, rfl, Nat.zero_le _, Lib.hid rfl, H2⟩
        case round =>
          obtain ⟨k, rfl, hk, HN, HB⟩ := hrel
          by_cases hlt : k < p.length
          · have hlt2 : k < q.length := by rw [← HLQ.out]; exact hlt
            obtain ⟨b1, o1, rfl, hb1, c0, c1, c2', c3⟩ := rd_cl HR.out k hlt
            obtain ⟨b2, o2, rfl, hb2, d0, d1, d2, d3⟩ := rd_cl HU.out k hlt2
            have SA := Lib.hid (fun W => same_cl p[k] q[k] W (PA.out _ (List.getElem_mem hlt)) (PB.out _ (List.getElem_mem hlt2)))
            have hz : k < (p.zip q).length := by rw [List.length_zip]; omega
            have HM := Lib.hid (show (((p.zip q).take (k + 1)).all fun c => sameC c.1 c.2) = sameC p[k] q[k] from by rw [take_snocA _ k hz, List.all_append, HN.out, List.getElem_zip]; simp)
            have HF := Lib.hid (show sameC p[k] q[k] = false → ((p.zip q).all fun c => sameC c.1 c.2) = false from fun h => by
              rw [← List.take_append_drop (k + 1) (p.zip q), List.all_append, HM.out, h, Bool.false_and])
            clear hz
            generalize p[k] = P at *
            generalize q[k] = Q at *
            obtain ⟨sm, hsm⟩ : ∃ sm, sameC P Q = sm := ⟨_, rfl⟩
            rw [hsm] at SA HM HF
            have hno : ∀ (v : Bool) (W : World), (Op.unary .not (.bool v)).run Tryz.prog W = .ok (.bool (!v)) W := fun _ _ => rfl
            clear hsm
            go_upto_region 8 with fail
            obtain ⟨X, rfl⟩ : ∃ X : World, X = wr := ⟨_, rfl⟩
            refine Rv.region_goods (n := 33) (by kernel_rfl) #[23, 24, 25, 26, 27, 28, 29, 30, 31, 32] #[] (fun i v W => v = (#[.slice (some ⟨b1, o1, none⟩) p.length c, .int .i64 (k : Int), .pointer (some ⟨b1, o1 + k * 4, none⟩), P.v, .slice (some ⟨b2, o2, none⟩) q.length c2, .int .i64 (k : Int), .pointer (some ⟨b2, o2 + k * 4, none⟩), Q.v, .bool sm, .bool (!sm)] : Array Value).getD i undef) (fun i v w w' h hb => ?_) (fun i h g b hg => ?_) rfl (by kernel_rfl) (by kernel_rfl) (fun i h hr w => ?_) ?_ ?_
            · exact h
            · match i, h, hg with
              | 0, _, hg => cases hg
              | 1, _, hg => cases hg
              | 2, _, hg => cases hg
              | 3, _, hg => cases hg
              | 4, _, hg => cases hg
              | 5, _, hg => cases hg
              | 6, _, hg => cases hg
              | 7, _, hg => cases hg
              | 8, _, hg => cases hg
              | 9, _, hg => cases hg
              | m + 10, h, _ => exact absurd h (by show ¬ m + 10 < 10; omega)
            · match i, h, hr with
              | 0, _, hr => exact Bool.noConfusion (show true = false from hr)
              | 1, _, hr => exact Bool.noConfusion (show true = false from hr)
              | 2, _, hr => exact Bool.noConfusion (show true = false from hr)
              | 3, _, hr => exact Bool.noConfusion (show true = false from hr)
              | 4, _, hr => exact Bool.noConfusion (show true = false from hr)
              | 5, _, hr => exact Bool.noConfusion (show true = false from hr)
              | 6, _, hr => exact Bool.noConfusion (show true = false from hr)
              | 7, _, hr => exact Bool.noConfusion (show true = false from hr)
              | 8, _, hr => exact Bool.noConfusion (show true = false from hr)
              | 9, _, hr => exact Bool.noConfusion (show true = false from hr)
              | m + 10, h, _ => exact absurd h (by show ¬ m + 10 < 10; omega)
            · intro i h a W hrun hbase hpre hdep htr
              have HBW := HB.out.trans (htr.mono HB.out.size)
              have q0 := (HBW.cell (p := ⟨b1, o1 + k * 4, none⟩) hb1).trans c0
              have q1 := (HBW.cell (p := ⟨b1, o1 + k * 4 + 1, none⟩) hb1).trans c1
              have q2 := (HBW.cell (p := ⟨b1, o1 + k * 4 + 2, none⟩) hb1).trans c2'
              have q3 := (HBW.cell (p := ⟨b1, o1 + k * 4 + 3, none⟩) hb1).trans c3
              have r0 := (HBW.cell (p := ⟨b2, o2 + k * 4, none⟩) hb2).trans d0
              have r1 := (HBW.cell (p := ⟨b2, o2 + k * 4 + 1, none⟩) hb2).trans d1
              have r2 := (HBW.cell (p := ⟨b2, o2 + k * 4 + 2, none⟩) hb2).trans d2
              have r3 := (HBW.cell (p := ⟨b2, o2 + k * 4 + 3, none⟩) hb2).trans d3
              match i, h with
              | 0, _ =>
                obtain ⟨e0, x0⟩ := Rv.ev (show a.tmps.getD 0 undef = .slice (some ⟨b1, o1, none⟩) p.length c from hbase 0 rfl)
                exact Rv.step_op (op := Go.Op.move (Go.Operand.tmp 0)) (v := .slice (some ⟨b1, o1, none⟩) p.length c) (w1 := W) rfl rfl (fun d pos aft g => by unfold execOp; go_simp) ⟨_, rfl, rfl, Below.refl _ _⟩
              | 1, _ =>
                obtain ⟨e5, x5⟩ := Rv.ev (show a.tmps.getD 5 undef = .int .i64 (k : Int) from hbase 5 rfl)
                exact Rv.step_op (op := Go.Op.move (Go.Operand.tmp 5)) (v := .int .i64 (k : Int)) (w1 := W) rfl rfl (fun d pos aft g => by unfold execOp; go_simp) ⟨_, rfl, rfl, Below.refl _ _⟩
              | 2, _ =>
                obtain ⟨e23, x23⟩ := Rv.ev (show a.tmps.getD 23 undef = .slice (some ⟨b1, o1, none⟩) p.length c from hdep 0 rfl)
                obtain ⟨e24, x24⟩ := Rv.ev (show a.tmps.getD 24 undef = .int .i64 (k : Int) from hdep 1 rfl)
                exact Rv.step_op (op := Go.Op.indexAddr 22 (Go.Operand.tmp 23) (Go.Operand.tmp 24)) (v := .pointer (some ⟨b1, o1 + k * 4, none⟩)) (w1 := W) rfl rfl (fun d pos aft g => by unfold execOp; go_simp) ⟨_, rfl, rfl, Below.refl _ _⟩
              | 3, _ =>
                obtain ⟨e25, x25⟩ := Rv.ev (show a.tmps.getD 25 undef = .pointer (some ⟨b1, o1 + k * 4, none⟩) from hdep 2 rfl)
                exact Rv.step_op (op := Go.Op.load 54 (Go.Operand.tmp 25)) (v := P.v) (w1 := W) rfl rfl (fun d pos aft g => by unfold execOp; go_simp) ⟨_, rfl, rfl, Below.refl _ _⟩
              | 4, _ =>
                obtain ⟨e1, x1⟩ := Rv.ev (show a.tmps.getD 1 undef = .slice (some ⟨b2, o2, none⟩) q.length c2 from hbase 1 rfl)
                exact Rv.step_op (op := Go.Op.move (Go.Operand.tmp 1)) (v := .slice (some ⟨b2, o2, none⟩) q.length c2) (w1 := W) rfl rfl (fun d pos aft g => by unfold execOp; go_simp) ⟨_, rfl, rfl, Below.refl _ _⟩
              | 5, _ =>
                obtain ⟨e5, x5⟩ := Rv.ev (show a.tmps.getD 5 undef = .int .i64 (k : Int) from hbase 5 rfl)
                exact Rv.step_op (op := Go.Op.move (Go.Operand.tmp 5)) (v := .int .i64 (k : Int)) (w1 := W) rfl rfl (fun d pos aft g => by unfold execOp; go_simp) ⟨_, rfl, rfl, Below.refl _ _⟩
              | 6, _ =>
                obtain ⟨e27, x27⟩ := Rv.ev (show a.tmps.getD 27 undef = .slice (some ⟨b2, o2, none⟩) q.length c2 from hdep 4 rfl)
                obtain ⟨e28, x28⟩ := Rv.ev (show a.tmps.getD 28 undef = .int .i64 (k : Int) from hdep 5 rfl)
                exact Rv.step_op (op := Go.Op.indexAddr 22 (Go.Operand.tmp 27) (Go.Operand.tmp 28)) (v := .pointer (some ⟨b2, o2 + k * 4, none⟩)) (w1 := W) rfl rfl (fun d pos aft g => by unfold execOp; go_simp) ⟨_, rfl, rfl, Below.refl _ _⟩
              | 7, _ =>
                obtain ⟨e29, x29⟩ := Rv.ev (show a.tmps.getD 29 undef = .pointer (some ⟨b2, o2 + k * 4, none⟩) from hdep 6 rfl)
                exact Rv.step_op (op := Go.Op.load 54 (Go.Operand.tmp 29)) (v := Q.v) (w1 := W) rfl rfl (fun d pos aft g => by unfold execOp; go_simp) ⟨_, rfl, rfl, Below.refl _ _⟩
              | 8, _ =>
                obtain ⟨e26, x26⟩ := Rv.ev (show a.tmps.getD 26 undef = P.v from hdep 3 rfl)
                obtain ⟨e30, x30⟩ := Rv.ev (show a.tmps.getD 30 undef = Q.v from hdep 7 rfl)
                have cf : ∀ x0 x1 W, (callFunc 32 #[x0, x1]).run Tryz.prog W = .ok (.enter 32 #[x0, x1]) W := fun _ _ _ => by kernel_rfl
                refine Rv.step_fn (op := Go.Op.call { callee := Go.Callee.value (Go.Operand.func 32), args := #[Go.Operand.tmp 26, Go.Operand.tmp 30], argTypes := #[54, 54] }) (f := 32) (args := #[P.v, Q.v]) (R := fun v W' => v = .bool sm ∧ Below W.heap.size W W') rfl rfl (fun d pos aft g => by unfold execOp; go_simp) ((SA.out W).mono ?_) ?_
                · (rintro e W' ⟨rfl, hb⟩; exact ⟨_, rfl, rfl, hb⟩)
                · (rintro v W' ⟨rfl, hb⟩; exact ⟨_, rfl, rfl, hb⟩)
              | 9, _ =>
                obtain ⟨e31, x31⟩ := Rv.ev (show a.tmps.getD 31 undef = .bool sm from hdep 8 rfl)
                exact Rv.step_op (op := Go.Op.unOp Go.UnOp.not 4 (Go.Operand.tmp 31)) (v := .bool (!sm)) (w1 := W) rfl rfl (fun d pos aft g => by unfold execOp; go_simp) ⟨_, rfl, rfl, Below.refl _ _⟩
              | m + 10, h => exact absurd h (by show ¬ m + 10 < 10; omega)
            intro W f hf htr
            have f0 : f 0 = .slice (some ⟨b1, o1, none⟩) p.length c := hf 0 (by show 0 < 10; omega)
            have f1 : f 1 = .int .i64 (k : Int) := hf 1 (by show 1 < 10; omega)
            have f2 : f 2 = .pointer (some ⟨b1, o1 + k * 4, none⟩) := hf 2 (by show 2 < 10; omega)
            have f3 : f 3 = P.v := hf 3 (by show 3 < 10; omega)
            have f4 : f 4 = .slice (some ⟨b2, o2, none⟩) q.length c2 := hf 4 (by show 4 < 10; omega)
            have f5 : f 5 = .int .i64 (k : Int) := hf 5 (by show 5 < 10; omega)
            have f6 : f 6 = .pointer (some ⟨b2, o2 + k * 4, none⟩) := hf 6 (by show 6 < 10; omega)
            have f7 : f 7 = Q.v := hf 7 (by show 7 < 10; omega)
            have f8 : f 8 = .bool sm := hf 8 (by show 8 < 10; omega)
            have f9 : f 9 = .bool (!sm) := hf 9 (by show 9 < 10; omega)
            refine (show ∀ (a : Act) (w : World), Code.wp _ _ _ a w → _ from by assumption) _ _ ?_
            refine Rv.fin_swap (L' := [(23, f 0), (24, f 1), (25, f 2), (26, f 3), (27, f 4), (28, f 5), (29, f 6), (30, f 7), (31, f 8), (32, f 9)]) rfl ?_
            rw [f0, f1, f2, f3, f4, f5, f6, f7, f8, f9]
            clear f0 f1 f2 f3 f4 f5 f6 f7 f8 f9
            simp only [Rv.fin, List.foldl_cons, List.foldl_nil, Act.put, List.setIfInBounds_toArray, List.set_cons_succ, List.set_cons_zero]
            have HB2 := Lib.hid (HB.out.trans (htr.mono HB.out.size))
            clear htr
            cases sm
            · have e : res = false := HE.out.symm.trans (HF.out rfl)
              subst e
              go_wp2
              go_ret
              exact ⟨rfl, HB2.out⟩
            · go_wp2
              go_roundw
              case rel => exact ⟨k + 1, by go_num, by omega, HM, HB2⟩
              case measure => simp [intOf]; omega
          · obtain rfl : k = p.length := by omega
            rw [List.take_of_length_le (by rw [List.length_zip, ← HLQ.out]; omega)] at HN
            have e : res = true := HE.out.symm.trans HN.out
            subst e
            go_wp2
            go_ret
            exact ⟨rfl, HB.out⟩
      · have hne : ((p.length : Int) != (q.length : Int)) = true := by simp; omega
        rw [decide_eq_false hlen, Bool.false_and] at HE
        clear hlen
        have e : res = false := HE.out.symm
        subst e
        clear HE
        go_enter Tryz.func21, Tryz.ntmps21
        go_wp2_with (first
          | (go_at_call 8; (with_reducible refine N1.out.mono ?_); rintro e w1 ⟨rfl, hb1⟩; have H1 := Lib.hid hb1; clear hb1)
          | (go_at_call 8; (with_reducible refine (N2.out _ H1.out).mono ?_); rintro e w2 ⟨rfl, hb2⟩; have H2 := Lib.hid (H1.out.trans (hb2.mono H1.out.size)); clear hb2))
        go_ret
        exact ⟨rfl, H2.out⟩
  case false =>
    have HE : Hid ((decide (p.length = q.length) && (p.zip q).all fun c => sameC c.1 c.2) = res) := Lib.hid HS.out
    clear HS
    by_cases hlen : p.length = q.length
    · have hne : ((p.length : Int) != (q.length : Int)) = false := by simp [hlen]
      rw [decide_eq_true hlen, Bool.true_and] at HE
      have HLQ := Lib.hid hlen
      clear hlen
      go_enter Tryz.func21, Tryz.ntmps21
      go_wp2_with (first
        | (go_at_call 8; (with_reducible refine N1.out.mono ?_); rintro e w1 ⟨rfl, hb1⟩; have H1 := Lib.hid hb1; clear hb1))
      go_loopw [5] (fun v5 wr => ∃ (k : Nat), v5 = .int .i64 k ∧ k ≤ p.length ∧ Hid ((((p.zip q).take k).all fun c => sameC c.1 c.2) = true) ∧ Hid (Below w.heap.size w wr)) (fun v5 _ => (p.length - (intOf v5)).toNat)
      case atStart => exact ⟨0, rfl, Nat.zero_le _, Lib.hid rfl, H1⟩
      case round =>
        obtain ⟨k, rfl, hk, HN, HB⟩ := hrel
        by_cases hlt : k < p.length
        · have hlt2 : k < q.length := by rw [← HLQ.out]; exact hlt
          obtain ⟨b1, o1, rfl, hb1, c0, c1, c2', c3⟩ := rd_cl HR.out k hlt
          obtain ⟨b2, o2, rfl, hb2, d0, d1, d2, d3⟩ := rd_cl HU.out k hlt2
          have SA := Lib.hid (fun W => same_cl p[k] q[k] W (PA.out _ (List.getElem_mem hlt)) (PB.out _ (List.getElem_mem hlt2)))
          have hz : k < (p.zip q).length := by rw [List.length_zip]; omega
          have HM := Lib.hid (show (((p.zip q).take (k + 1)).all fun c => sameC c.1 c.2) = sameC p[k] q[k] from by rw [take_snocA _ k hz, List.all_append, HN.out, List.getElem_zip]; simp)
          have HF := Lib.hid (show sameC p[k] q[k] = false → ((p.zip q).all fun c => sameC c.1 c.2) = false from fun h => by
            rw [← List.take_append_drop (k + 1) (p.zip q), List.all_append, HM.out, h, Bool.false_and])
          clear hz
          generalize p[k] = P at *
          generalize q[k] = Q at *
          obtain ⟨sm, hsm⟩ : ∃ sm, sameC P Q = sm := ⟨_, rfl⟩
          rw [hsm] at SA HM HF
          have hno : ∀ (v : Bool) (W : World), (Op.unary .not (.bool v)).run Tryz.prog W = .ok (.bool (!v)) W := fun _ _ => rfl
          clear hsm
          go_upto_region 8 with fail
          obtain ⟨X, rfl⟩ : ∃ X : World, X = wr := ⟨_, rfl⟩
          refine Rv.region_goods (n := 33) (by kernel_rfl) #[23, 24, 25, 26, 27, 28, 29, 30, 31, 32] #[] (fun i v W => v = (#[.slice (some ⟨b1, o1, none⟩) p.length c, .int .i64 (k : Int), .pointer (some ⟨b1, o1 + k * 4, none⟩), P.v, .slice (some ⟨b2, o2, none⟩) q.length c2, .int .i64 (k : Int), .pointer (some ⟨b2, o2 + k * 4, none⟩), Q.v, .bool sm, .bool (!sm)] : Array Value).getD i undef) (fun i v w w' h hb => ?_) (fun i h g b hg => ?_) rfl (by kernel_rfl) (by kernel_rfl) (fun i h hr w => ?_) ?_ ?_
          · exact h
          · match i, h, hg with
            | 0, _, hg => cases hg
            | 1, _, hg => cases hg
            | 2, _, hg => cases hg
            | 3, _, hg => cases hg
            | 4, _, hg => cases hg
            | 5, _, hg => cases hg
            | 6, _, hg => cases hg
            | 7, _, hg => cases hg
            | 8, _, hg => cases hg
            | 9, _, hg => cases hg
            | m + 10, h, _ => exact absurd h (by show ¬ m + 10 < 10; omega)
          · match i, h, hr with
            | 0, _, hr => exact Bool.noConfusion (show true = false from hr)
            | 1, _, hr => exact Bool.noConfusion (show true = false from hr)
            | 2, _, hr => exact Bool.noConfusion (show true = false from hr)
            | 3, _, hr => exact Bool.noConfusion (show true = false from hr)
            | 4, _, hr => exact Bool.noConfusion (show true = false from hr)
            | 5, _, hr => exact Bool.noConfusion (show true = false from hr)
            | 6, _, hr => exact Bool.noConfusion (show true = false from hr)
            | 7, _, hr => exact Bool.noConfusion (show true = false from hr)
            | 8, _, hr => exact Bool.noConfusion (show true = false from hr)
            | 9, _, hr => exact Bool.noConfusion (show true = false from hr)
            | m + 10, h, _ => exact absurd h (by show ¬ m + 10 < 10; omega)
          · intro i h a W hrun hbase hpre hdep htr
            have HBW := HB.out.trans (htr.mono HB.out.size)
            have q0 := (HBW.cell (p := ⟨b1, o1 + k * 4, none⟩) hb1).trans c0
            have q1 := (HBW.cell (p := ⟨b1, o1 + k * 4 + 1, none⟩) hb1).trans c1
            have q2 := (HBW.cell (p := ⟨b1, o1 + k * 4 + 2, none⟩) hb1).trans c2'
            have q3 := (HBW.cell (p := ⟨b1, o1 + k * 4 + 3, none⟩) hb1).trans c3
            have r0 := (HBW.cell (p := ⟨b2, o2 + k * 4, none⟩) hb2).trans d0
            have r1 := (HBW.cell (p := ⟨b2, o2 + k * 4 + 1, none⟩) hb2).trans d1
            have r2 := (HBW.cell (p := ⟨b2, o2 + k * 4 + 2, none⟩) hb2).trans d2
            have r3 := (HBW.cell (p := ⟨b2, o2 + k * 4 + 3, none⟩) hb2).trans d3
            match i, h with
            | 0, _ =>
              obtain ⟨e0, x0⟩ := Rv.ev (show a.tmps.getD 0 undef = .slice (some ⟨b1, o1, none⟩) p.length c from hbase 0 rfl)
              exact Rv.step_op (op := Go.Op.move (Go.Operand.tmp 0)) (v := .slice (some ⟨b1, o1, none⟩) p.length c) (w1 := W) rfl rfl (fun d pos aft g => by unfold execOp; go_simp) ⟨_, rfl, rfl, Below.refl _ _⟩
            | 1, _ =>
              obtain ⟨e5, x5⟩ := Rv.ev (show a.tmps.getD 5 undef = .int .i64 (k : Int) from hbase 5 rfl)
              exact Rv.step_op (op := Go.Op.move (Go.Operand.tmp 5)) (v := .int .i64 (k : Int)) (w1 := W) rfl rfl (fun d pos aft g => by unfold execOp; go_simp) ⟨_, rfl, rfl, Below.refl _ _⟩
            | 2, _ =>
              obtain ⟨e23, x23⟩ := Rv.ev (show a.tmps.getD 23 undef = .slice (some ⟨b1, o1, none⟩) p.length c from hdep 0 rfl)
              obtain ⟨e24, x24⟩ := Rv.ev (show a.tmps.getD 24 undef = .int .i64 (k : Int) from hdep 1 rfl)
              exact Rv.step_op (op := Go.Op.indexAddr 22 (Go.Operand.tmp 23) (Go.Operand.tmp 24)) (v := .pointer (some ⟨b1, o1 + k * 4, none⟩)) (w1 := W) rfl rfl (fun d pos aft g => by unfold execOp; go_simp) ⟨_, rfl, rfl, Below.refl _ _⟩
            | 3, _ =>
              obtain ⟨e25, x25⟩ := Rv.ev (show a.tmps.getD 25 undef = .pointer (some ⟨b1, o1 + k * 4, none⟩) from hdep 2 rfl)
              exact Rv.step_op (op := Go.Op.load 54 (Go.Operand.tmp 25)) (v := P.v) (w1 := W) rfl rfl (fun d pos aft g => by unfold execOp; go_simp) ⟨_, rfl, rfl, Below.refl _ _⟩
            | 4, _ =>
              obtain ⟨e1, x1⟩ := Rv.ev (show a.tmps.getD 1 undef = .slice (some ⟨b2, o2, none⟩) q.length c2 from hbase 1 rfl)
              exact Rv.step_op (op := Go.Op.move (Go.Operand.tmp 1)) (v := .slice (some ⟨b2, o2, none⟩) q.length c2) (w1 := W) rfl rfl (fun d pos aft g => by unfold execOp; go_simp) ⟨_, rfl, rfl, Below.refl _ _⟩
            | 5, _ =>
              obtain ⟨e5, x5⟩ := Rv.ev (show a.tmps.getD 5 undef = .int .i64 (k : Int) from hbase 5 rfl)
              exact Rv.step_op (op := Go.Op.move (Go.Operand.tmp 5)) (v := .int .i64 (k : Int)) (w1 := W) rfl rfl (fun d pos aft g => by unfold execOp; go_simp) ⟨_, rfl, rfl, Below.refl _ _⟩
            | 6, _ =>
              obtain ⟨e27, x27⟩ := Rv.ev (show a.tmps.getD 27 undef = .slice (some ⟨b2, o2, none⟩) q.length c2 from hdep 4 rfl)
              obtain ⟨e28, x28⟩ := Rv.ev (show a.tmps.getD 28 undef = .int .i64 (k : Int) from hdep 5 rfl)
              exact Rv.step_op (op := Go.Op.indexAddr 22 (Go.Operand.tmp 27) (Go.Operand.tmp 28)) (v := .pointer (some ⟨b2, o2 + k * 4, none⟩)) (w1 := W) rfl rfl (fun d pos aft g => by unfold execOp; go_simp) ⟨_, rfl, rfl, Below.refl _ _⟩
            | 7, _ =>
              obtain ⟨e29, x29⟩ := Rv.ev (show a.tmps.getD 29 undef = .pointer (some ⟨b2, o2 + k * 4, none⟩) from hdep 6 rfl)
              exact Rv.step_op (op := Go.Op.load 54 (Go.Operand.tmp 29)) (v := Q.v) (w1 := W) rfl rfl (fun d pos aft g => by unfold execOp; go_simp) ⟨_, rfl, rfl, Below.refl _ _⟩
            | 8, _ =>
              obtain ⟨e26, x26⟩ := Rv.ev (show a.tmps.getD 26 undef = P.v from hdep 3 rfl)
              obtain ⟨e30, x30⟩ := Rv.ev (show a.tmps.getD 30 undef = Q.v from hdep 7 rfl)
              have cf : ∀ x0 x1 W, (callFunc 32 #[x0, x1]).run Tryz.prog W = .ok (.enter 32 #[x0, x1]) W := fun _ _ _ => by kernel_rfl
              refine Rv.step_fn (op := Go.Op.call { callee := Go.Callee.value (Go.Operand.func 32), args := #[Go.Operand.tmp 26, Go.Operand.tmp 30], argTypes := #[54, 54] }) (f := 32) (args := #[P.v, Q.v]) (R := fun v W' => v = .bool sm ∧ Below W.heap.size W W') rfl rfl (fun d pos aft g => by unfold execOp; go_simp) ((SA.out W).mono ?_) ?_
              · (rintro e W' ⟨rfl, hb⟩; exact ⟨_, rfl, rfl, hb⟩)
              · (rintro v W' ⟨rfl, hb⟩; exact ⟨_, rfl, rfl, hb⟩)
            | 9, _ =>
              obtain ⟨e31, x31⟩ := Rv.ev (show a.tmps.getD 31 undef = .bool sm from hdep 8 rfl)
              exact Rv.step_op (op := Go.Op.unOp Go.UnOp.not 4 (Go.Operand.tmp 31)) (v := .bool (!sm)) (w1 := W) rfl rfl (fun d pos aft g => by unfold execOp; go_simp) ⟨_, rfl, rfl, Below.refl _ _⟩
            | m + 10, h => exact absurd h (by show ¬ m + 10 < 10; omega)
          intro W f hf htr
          have f0 : f 0 = .slice (some ⟨b1, o1, none⟩) p.length c := hf 0 (by show 0 < 10; omega)
          have f1 : f 1 = .int .i64 (k : Int) := hf 1 (by show 1 < 10; omega)
          have f2 : f 2 = .pointer (some ⟨b1, o1 + k * 4, none⟩) := hf 2 (by show 2 < 10; omega)
          have f3 : f 3 = P.v := hf 3 (by show 3 < 10; omega)
          have f4 : f 4 = .slice (some ⟨b2, o2, none⟩) q.length c2 := hf 4 (by show 4 < 10; omega)
          have f5 : f 5 = .int .i64 (k : Int) := hf 5 (by show 5 < 10; omega)
          have f6 : f 6 = .pointer (some ⟨b2, o2 + k * 4, none⟩) := hf 6 (by show 6 < 10; omega)
          have f7 : f 7 = Q.v := hf 7 (by show 7 < 10; omega)
          have f8 : f 8 = .bool sm := hf 8 (by show 8 < 10; omega)
          have f9 : f 9 = .bool (!sm) := hf 9 (by show 9 < 10; omega)
          refine (show ∀ (a : Act) (w : World), Code.wp _ _ _ a w → _ from by assumption) _ _ ?_
          refine Rv.fin_swap (L' := [(23, f 0), (24, f 1), (25, f 2), (26, f 3), (27, f 4), (28, f 5), (29, f 6), (30, f 7), (31, f 8), (32, f 9)]) rfl ?_
          rw [f0, f1, f2, f3, f4, f5, f6, f7, f8, f9]
          clear f0 f1 f2 f3 f4 f5 f6 f7 f8 f9
          simp only [Rv.fin, List.foldl_cons, List.foldl_nil, Act.put, List.setIfInBounds_toArray, List.set_cons_succ, List.set_cons_zero]
          have HB2 := Lib.hid (HB.out.trans (htr.mono HB.out.size))
          clear htr
          cases sm
          · have e : res = false := HE.out.symm.trans (HF.out rfl)
            subst e
            go_wp2
            go_ret
            exact ⟨rfl, HB2.out⟩
          · go_wp2
            go_roundw
            case rel => exact ⟨k + 1, by go_num, by omega, HM, HB2⟩
            case measure => simp [intOf]; omega
        · obtain rfl : k = p.length := by omega
          rw [List.take_of_length_le (by rw [List.length_zip, ← HLQ.out]; omega)] at HN
          have e : res = true := HE.out.symm.trans HN.out
          subst e
          go_wp2
          go_ret
          exact ⟨rfl, HB.out⟩
    · have hne : ((p.length : Int) != (q.length : Int)) = true := by simp; omega
      rw [decide_eq_false hlen, Bool.false_and] at HE
      clear hlen
      have e : res = false := HE.out.symm
      subst e
      clear HE
      go_enter Tryz.func21, Tryz.ntmps21
      go_wp2_with (first
        | (go_at_call 8; (with_reducible refine N1.out.mono ?_); rintro e w1 ⟨rfl, hb1⟩; have H1 := Lib.hid hb1; clear hb1))
      go_ret
      exact ⟨rfl, H1.out⟩
/-- The ranges that rrFull makes. -/
def fullN (l : List Cl) (n : Nat) : List Cl := (List.range n).map fun i => full (l.getD i ⟨0, 0, 0, 0⟩)
theorem fullN_len (l : List Cl) (n : Nat) : (fullN l n).length = n := by simp [fullN]
theorem fullN_take (l : List Cl) (n k : Nat) (h : k < n) : (fullN l n).take (k + 1) = (fullN l n).take k ++ [full (l.getD k ⟨0, 0, 0, 0⟩)] := by
  rw [take_snocA _ k (by rw [fullN_len]; exact h)]
  unfold fullN
  rw [List.getElem_map, List.getElem_range]
theorem fullN_ful (l : List Cl) (n : Nat) : ∀ c ∈ fullN l n, Ful c := by
  intro c hc
  unfold fullN at hc
  obtain ⟨i, _, rfl⟩ := List.mem_map.1 hc
  exact full_ful _
theorem rrfull_any (v : Value) (l : List Cl) (n : Nat) (w : World) (hr : Rd w 4 v l.length (clc l)) (hn : n ≤ 1000) :
    Calls Tryz.prog 6 #[v, .int .i64 (n : Int)] w fun e w' => ∃ A c, e = .returned (.slice A n c) ∧ w'.ownsRow w.heap.size 54 4 (.slice A n c) n (clc (fullN l n)) ∧ Below w.heap.size w w' := by
  obtain ⟨A, c, rfl, hlc, hcm⟩ := hr.shape
  have HR := Lib.hid hr
  clear hr
  go_enter Tryz.func6, Tryz.ntmps6
  go_wp2
  go_loopw [5, 6, 7] (fun v5 v6 v7 wr => ∃ (k : Nat), v6 = .int .i64 k ∧ k ≤ n ∧ Hid (wr.ownsRow w.heap.size 54 4 v5 k (clc ((fullN l n).take k))) ∧ Hid (Below w.heap.size w wr)) (fun _ v6 _ _ => (n - (intOf v6)).toNat)
  case atStart => exact ⟨0, rfl, Nat.zero_le _, Lib.hid (World.ownsRow_nil _ _ _ _), Lib.hid (Below.refl _ _)⟩
  case round =>
    obtain ⟨k, rfl, hk, HO, HB⟩ := hrel
    have hbs := HB.out.size
    by_cases hlt : k < n
    · have HM := Lib.hid (show clc ((fullN l n).take (k + 1)) = clc ((fullN l n).take k) ++ clc [full (l.getD k ⟨0, 0, 0, 0⟩)] from by rw [fullN_take l n k hlt, clc_append])
      rw [clc_one] at HM
      have FU := Lib.hid (fun W => full_any (l.getD k ⟨0, 0, 0, 0⟩) W)
      by_cases hlt2 : k < l.length
      · obtain ⟨b, o, rfl, hb, c0, c1, c2, c3⟩ := rd_cl HR.out k hlt2
        have e : l.getD k ⟨0, 0, 0, 0⟩ = l[k] := by rw [List.getD_eq_getElem?_getD, List.getElem?_eq_getElem hlt2]; rfl
        rw [e] at FU HM
        have d0 := (HB.out.cell (p := ⟨b, o + k * 4, none⟩) hb).trans c0
        have d1 := (HB.out.cell (p := ⟨b, o + k * 4 + 1, none⟩) hb).trans c1
        have d2 := (HB.out.cell (p := ⟨b, o + k * 4 + 2, none⟩) hb).trans c2
        have d3 := (HB.out.cell (p := ⟨b, o + k * 4 + 3, none⟩) hb).trans c3
        have hbw := Nat.lt_of_lt_of_le hb hbs
        clear c0 c1 c2 c3 e
        generalize full l[k] = F at *
        generalize l[k] = D at *
        have HBA := Lib.hid (HB.out.alloc hbs (cl4 D))
        have HOA := Lib.hid (own_below HO.out ((Below.refl _ _).alloc (Nat.le_refl _) (cl4 D)))
        go_wp2_with (first
          | (go_at_call 23; (with_reducible refine (FU.out _).mono ?_); rintro e w1 ⟨rfl, hb1⟩; have HB1 := Lib.hid (HBA.out.trans (hb1.mono HBA.out.size)); have HO1 := Lib.hid (own_below HOA.out hb1); clear hb1)
          | (at_builtin; go_loud (refine app1 (w0 := w) w.heap.size rfl (.tmp 22) (.tmp 25) 22 54 (.agg #[.int .i64 0, .int .i64 0, .int .i64 0, .int .i64 0]) 4 32 rfl Tryz.underlying22 info27 rfl (by omega) (by omega) u5 _ _ #[.int .i64 F.a, .int .i64 F.x, .int .i64 F.b, .int .i64 F.y] rfl rfl rfl (clc_one_cell [F]) HO1.out HB1.out HB1.out.size (by omega) ?_); intro v3 w3 hown3 hb3 _ _; have HO3 := Lib.hid hown3; have HB3 := Lib.hid hb3; clear hown3 hb3))
        go_roundw
        case rel => exact ⟨k + 1, by go_num, by omega, Lib.hid (by rw [HM.out]; exact HO3.out), HB3⟩
        case measure => simp [intOf]; omega
      · have e : l.getD k ⟨0, 0, 0, 0⟩ = ⟨0, 0, 0, 0⟩ := by rw [List.getD_eq_getElem?_getD, List.getElem?_eq_none (by omega)]; rfl
        rw [e] at FU HM
        clear e
        generalize full ⟨0, 0, 0, 0⟩ = F at *
        have HBA := Lib.hid (HB.out.alloc hbs (cl4 ⟨0, 0, 0, 0⟩))
        have HOA := Lib.hid (own_below HO.out ((Below.refl _ _).alloc (Nat.le_refl _) (cl4 ⟨0, 0, 0, 0⟩)))
        go_wp2_with (first
          | (go_at_call 23; (refine (FU.out _).mono ?_); rintro e w1 ⟨rfl, hb1⟩; have HB1 := Lib.hid (HBA.out.trans (hb1.mono HBA.out.size)); have HO1 := Lib.hid (own_below HOA.out hb1); clear hb1)
          | (at_builtin; go_loud (refine app1 (w0 := w) w.heap.size rfl (.tmp 22) (.tmp 25) 22 54 (.agg #[.int .i64 0, .int .i64 0, .int .i64 0, .int .i64 0]) 4 32 rfl Tryz.underlying22 info27 rfl (by omega) (by omega) u5 _ _ #[.int .i64 F.a, .int .i64 F.x, .int .i64 F.b, .int .i64 F.y] rfl rfl rfl (clc_one_cell [F]) HO1.out HB1.out HB1.out.size (by omega) ?_); intro v3 w3 hown3 hb3 _ _; have HO3 := Lib.hid hown3; have HB3 := Lib.hid hb3; clear hown3 hb3))
        go_roundw
        case rel => exact ⟨k + 1, by go_num, by omega, Lib.hid (by rw [HM.out]; exact HO3.out), HB3⟩
        case measure => simp [intOf]; omega
    · obtain rfl : k = n := by omega
      have HL := Lib.hid (List.take_of_length_le (Nat.le_of_eq (fullN_len l k)))
      rw [HL.out] at HO
      obtain ⟨A3, c3, rfl, _⟩ := (Rd.of_own HO.out).shape
      go_wp2
      go_ret
      exact ⟨A3, c3, rfl, HO.out, HB.out⟩
/-- Some truth value. -/
def SomeBool (e : Ending) : Prop := ∃ b, e = .returned (.bool b)
theorem fits_any (v : Value) (ls : List (List Cl)) (w : World) (hr : RL w v ls) :
    Calls Tryz.prog 13 #[v] w fun e w' => SomeBool e ∧ w = w' := by
  obtain ⟨A, c, rfl, hlc, hcm⟩ : ∃ A c, v = .slice A ls.length c ∧ ls.length ≤ c ∧ c ≤ 9223372036854775807 := by
    obtain ⟨vs, A, c, h1, h2, _⟩ := hr
    subst h1
    obtain ⟨A', c', e, h3, h4⟩ := h2.shape
    injection e with e1 e2 e3
    subst e3
    exact ⟨A, c, rfl, h3, h4⟩
  have HR := Lib.hid hr
  clear hr
  by_cases hbig : (2147483647 : Int) < ls.length
  · go_enter Tryz.func13, Tryz.ntmps13
    go_wp2
    go_ret
    exact ⟨⟨_, rfl⟩, rfl⟩
  · go_enter Tryz.func13, Tryz.ntmps13
    go_wp2
    go_loop [4, 10] (fun v4 v10 => ∃ k : Nat, v10 = .int .i64 k ∧ k ≤ ls.length) (fun _ v10 => (ls.length - (intOf v10)).toNat)
    case atStart => exact ⟨0, rfl, Nat.zero_le _⟩
    case round =>
      obtain ⟨k, rfl, hk⟩ := hrel
      by_cases hlt : k < ls.length
      · obtain ⟨b, o, A3, c3, rfl, hb, hc, hr3⟩ := HR.out.get k hlt
        have hcw : w.cell? ⟨b, o + k, none⟩ = some (.slice A3 ls[k].length c3) := hc
        clear hc hr3
        generalize ls[k].length = m at *
        by_cases hm : (2147483647 : Int) < m
        · go_wp2
          go_ret
          exact ⟨⟨_, rfl⟩, rfl⟩
        · go_wp2
          go_round
          case rel => exact ⟨k + 1, by go_num, by omega⟩
          case measure => simp [intOf]; omega
      · obtain rfl : k = ls.length := by omega
        go_wp2
        go_ret
        exact ⟨⟨_, rfl⟩, rfl⟩
end Go.Proofs.YtfnogpelaoofbaaGreatDoor.Rg

/- Has one of some ranges the values at places? Conditions: those written at each lemma. -/
import Derived.Test.YtfnogpelaoofbaaGreatDoorSuc
set_option linter.unusedVariables false
set_option linter.unusedSimpArgs false
set_option maxRecDepth 100000
set_option maxHeartbeats 4000000
namespace Go.Proofs.YtfnogpelaoofbaaGreatDoor.Rg
open Go.RowKit Go.Proofs.YtfnogpelaoofbaaGreatDoor.B Go.Proofs.YtfnogpelaoofbaaGreatDoor.Sp

/-- The first j columns have the values. -/
def okP (l : List Cl) (ps : List Int) (j : Nat) : Bool := decide (l.length = ps.length) && ((l.zip ps).take j).all fun p => inB p.1 p.2
def okB (l : List Cl) (ps : List Int) : Bool := decide (l.length = ps.length) && (l.zip ps).all fun p => inB p.1 p.2
def hasB (ls : List (List Cl)) (ps : List Int) : Bool := ls.any fun l => okB l ps
theorem okP_zero (l : List Cl) (ps : List Int) : okP l ps 0 = decide (l.length = ps.length) := by simp [okP]
theorem okP_succ (l : List Cl) (ps : List Int) (j : Nat) (h1 : j < l.length) (h2 : j < ps.length) : okP l ps (j + 1) = (okP l ps j && inB l[j] ps[j]) := by
  unfold okP
  have hz : j < (l.zip ps).length := by rw [List.length_zip]; omega
  rw [take_snocA (l.zip ps) j hz, List.all_append, Bool.and_assoc, List.getElem_zip]
  simp
theorem okP_all (l : List Cl) (ps : List Int) : okP l ps ps.length = okB l ps := by
  unfold okP okB
  rw [List.take_of_length_le (by rw [List.length_zip]; omega)]
theorem okP_false (l : List Cl) (ps : List Int) (j : Nat) (h : okP l ps j = false) : okB l ps = false := by
  unfold okP at h
  unfold okB
  by_cases he : l.length = ps.length
  · rw [decide_eq_true he, Bool.true_and] at h ⊢
    rw [← List.take_append_drop j (l.zip ps), List.all_append, h, Bool.false_and]
  · rw [decide_eq_false he, Bool.false_and]
theorem okP_len (l : List Cl) (ps : List Int) (j : Nat) (h : okP l ps j = true) : l.length = ps.length := by
  unfold okP at h
  rw [Bool.and_eq_true] at h
  exact of_decide_eq_true h.1
theorem hasB_snoc (ls : List (List Cl)) (ps : List Int) (k : Nat) (h : k < ls.length) (h1 : hasB (ls.take k) ps = false) : hasB (ls.take (k + 1)) ps = okB ls[k] ps := by
  unfold hasB at *
  rw [take_snocA ls k h, List.any_append, h1]
  simp
theorem hasB_yes (ls : List (List Cl)) (ps : List Int) (k : Nat) (h : hasB (ls.take k) ps = true) : hasB ls ps = true := by
  unfold hasB at *
  rw [← List.take_append_drop k ls, List.any_append, h, Bool.true_or]
theorem has_any (v u : Value) (ls : List (List Cl)) (ps : List Int) (w : World) (hr : RL w v ls) (hu : Rd w 1 u ps.length (nums ps)) (hp : ∀ l ∈ ls, ∀ c ∈ l, Pcl c) :
    Calls Tryz.prog 18 #[v, u] w fun e w' => e = .returned (.bool (hasB ls ps)) ∧ Below w.heap.size w w' := by
  obtain ⟨A, c, rfl, hlc, hcm⟩ : ∃ A c, v = .slice A ls.length c ∧ ls.length ≤ c ∧ c ≤ 9223372036854775807 := by
    obtain ⟨vs, A, c, h1, h2, _⟩ := hr
    subst h1
    obtain ⟨A', c', e, h3, h4⟩ := h2.shape
    injection e with e1 e2 e3
    subst e3
    exact ⟨A, c, rfl, h3, h4⟩
  obtain ⟨A2, c2, rfl, hlc2, hcm2⟩ := hu.shape
  have HR := Lib.hid hr
  have HU := Lib.hid hu
  have HP := Lib.hid hp
  obtain ⟨res, hres⟩ : ∃ res, hasB ls ps = res := ⟨_, rfl⟩
  rw [hres]
  have HS := Lib.hid hres
  clear hr hu hp hres
  go_enter Tryz.func18, Tryz.ntmps18
  go_wp2
  go_loopw [5, 6, 7] (fun v5 v6 v7 wr => ∃ k : Nat, v5 = .int .i64 k ∧ k ≤ ls.length ∧ Hid (hasB (ls.take k) ps = false) ∧ Hid (Below w.heap.size w wr)) (fun v5 _ _ _ => (ls.length - (intOf v5)).toNat)
  case atStart => exact ⟨0, rfl, Nat.zero_le _, Lib.hid (by simp [hasB]), Lib.hid (Below.refl _ _)⟩
  case round =>
    obtain ⟨k, rfl, hk, HN, HB⟩ := hrel
    have hbs := HB.out.size
    by_cases hlt : k < ls.length
    · obtain ⟨b, o, A3, c3, rfl, hb, hc, hr3⟩ := HR.out.get k hlt
      have d0 := (HB.out.cell (p := ⟨b, o + k, none⟩) hb).trans hc
      have HE := Lib.hid (hasB_snoc ls ps k hlt HN.out)
      have HPK := Lib.hid (HP.out _ (List.getElem_mem hlt))
      have hR3 := Lib.hid hr3
      have HC := Lib.hid hc
      have hl3 := hr3.le
      clear hc hr3
      generalize ls[k] = L at *
      obtain ⟨w2, rfl⟩ : ∃ w2 : World, w2 = wr := ⟨_, rfl⟩
      have HBQ := Lib.hid (show (((L.length : Int) == (ps.length : Int)) = decide (L.length = ps.length)) from by
        by_cases h : L.length = ps.length
        · rw [decide_eq_true h, h]; simp
        · rw [decide_eq_false h]; simp; omega)
      go_wp2
      rw [HBQ.out]
      go_loopw [6, 7] (fun v6 v7 wr => ∃ j : Nat, v7 = .int .i64 j ∧ j ≤ ps.length ∧ v6 = .bool (okP L ps j) ∧ Hid (Below w.heap.size w wr)) (fun _ v7 _ => (ps.length - (intOf v7)).toNat)
      case atStart => exact ⟨0, rfl, Nat.zero_le _, by rw [okP_zero], HB⟩
      case round =>
        obtain ⟨j, rfl, hj, rfl, HB3⟩ := hrel
        obtain ⟨bb, hbb⟩ : ∃ bb, okP L ps j = bb := ⟨_, rfl⟩
        rw [hbb]
        have HBB := Lib.hid hbb
        clear hbb
        cases bb with
        | false =>
          have HE2 := Lib.hid (HE.out.trans (okP_false L ps j HBB.out))
          by_cases hjl : j < ps.length
          · go_wp2
            go_roundw
            case rel => exact ⟨k + 1, by go_num, by omega, HE2, HB3⟩
            case measure => simp [intOf]; omega
          · obtain rfl : j = ps.length := by omega
            go_wp2
            go_roundw
            case rel => exact ⟨k + 1, by go_num, by omega, HE2, HB3⟩
            case measure => simp [intOf]; omega
        | true =>
          have hlen := okP_len L ps j HBB.out
          by_cases hjl : j < ps.length
          · obtain ⟨b3, o3, rfl, hb3, e0, e1, e2, e3⟩ := rd_cl hR3.out j (by omega)
            obtain ⟨b4, o4, rfl, hb4, f0⟩ := rd_num HU.out j hjl
            have HS2 := Lib.hid (okP_succ L ps j (by omega) hjl)
            have IN := Lib.hid (fun W => in_cl L[j] ps[j] W (HPK.out _ (List.getElem_mem (by omega))))
            generalize ps[j] = p at *
            generalize L[j]'(by omega) = C at *
            go_upto_region 8 with fail
            obtain ⟨X, rfl⟩ : ∃ X : World, X = wr := ⟨_, rfl⟩
            refine Rv.region_goods (n := 44) (by kernel_rfl) #[31, 32, 33, 34, 35, 36, 37, 38, 39, 40, 41, 42, 6] #[] (fun i v W => v = (#[.slice (some ⟨b, o, none⟩) ls.length c, .int .i64 (k : Int), .pointer (some ⟨b, o + k, none⟩), .slice (some ⟨b3, o3, none⟩) L.length c3, .int .i64 (j : Int), .pointer (some ⟨b3, o3 + j * 4, none⟩), C.v, .slice (some ⟨b4, o4, none⟩) ps.length c2, .int .i64 (j : Int), .pointer (some ⟨b4, o4 + j, none⟩), .int .i64 p, .bool (inB C p), .bool (inB C p)] : Array Value).getD i undef) (fun i v w w' h hb => ?_) (fun i h g b hg => ?_) rfl (by kernel_rfl) (by kernel_rfl) (fun i h hr w => ?_) ?_ ?_
            · exact h
            · match i, h, hg with
              | 0, _, hg => cases hg
              | 1, _, hg => cases hg
              | 2, _, hg => cases hg
              | 3, _, hg => cases hg
              | 4, _, hg => cases hg
              | 5, _, hg => cases hg
              | 6, _, hg => cases hg
              | 7, _, hg => cases hg
              | 8, _, hg => cases hg
              | 9, _, hg => cases hg
              | 10, _, hg => cases hg
              | 11, _, hg => cases hg
              | 12, _, hg => cases hg
              | m + 13, h, _ => exact absurd h (by show ¬ m + 13 < 13; omega)
            · match i, h, hr with
              | 0, _, hr => exact Bool.noConfusion (show true = false from hr)
              | 1, _, hr => exact Bool.noConfusion (show true = false from hr)
              | 2, _, hr => exact Bool.noConfusion (show true = false from hr)
              | 3, _, hr => exact Bool.noConfusion (show true = false from hr)
              | 4, _, hr => exact Bool.noConfusion (show true = false from hr)
              | 5, _, hr => exact Bool.noConfusion (show true = false from hr)
              | 6, _, hr => exact Bool.noConfusion (show true = false from hr)
              | 7, _, hr => exact Bool.noConfusion (show true = false from hr)
              | 8, _, hr => exact Bool.noConfusion (show true = false from hr)
              | 9, _, hr => exact Bool.noConfusion (show true = false from hr)
              | 10, _, hr => exact Bool.noConfusion (show true = false from hr)
              | 11, _, hr => exact Bool.noConfusion (show true = false from hr)
              | 12, _, hr => exact Bool.noConfusion (show true = false from hr)
              | m + 13, h, _ => exact absurd h (by show ¬ m + 13 < 13; omega)
            · intro i h a W hrun hbase hpre hdep htr
              have HBW := HB3.out.trans (htr.mono HB3.out.size)
              have q0 := (HBW.cell (p := ⟨b, o + k, none⟩) hb).trans HC.out
              have q1 := (HBW.cell (p := ⟨b3, o3 + j * 4, none⟩) hb3).trans e0
              have q2 := (HBW.cell (p := ⟨b3, o3 + j * 4 + 1, none⟩) hb3).trans e1
              have q3 := (HBW.cell (p := ⟨b3, o3 + j * 4 + 2, none⟩) hb3).trans e2
              have q4 := (HBW.cell (p := ⟨b3, o3 + j * 4 + 3, none⟩) hb3).trans e3
              have q5 := (HBW.cell (p := ⟨b4, o4 + j, none⟩) hb4).trans f0
              match i, h with
              | 0, _ =>
                obtain ⟨e0, x0⟩ := Rv.ev (show a.tmps.getD 0 undef = .slice (some ⟨b, o, none⟩) ls.length c from hbase 0 rfl)
                exact Rv.step_op (op := Go.Op.move (Go.Operand.tmp 0)) (v := .slice (some ⟨b, o, none⟩) ls.length c) (w1 := W) rfl rfl (fun d pos aft g => by unfold execOp; go_simp) ⟨_, rfl, rfl, Below.refl _ _⟩
              | 1, _ =>
                obtain ⟨e5, x5⟩ := Rv.ev (show a.tmps.getD 5 undef = .int .i64 (k : Int) from hbase 5 rfl)
                exact Rv.step_op (op := Go.Op.move (Go.Operand.tmp 5)) (v := .int .i64 (k : Int)) (w1 := W) rfl rfl (fun d pos aft g => by unfold execOp; go_simp) ⟨_, rfl, rfl, Below.refl _ _⟩
              | 2, _ =>
                obtain ⟨e31, x31⟩ := Rv.ev (show a.tmps.getD 31 undef = .slice (some ⟨b, o, none⟩) ls.length c from hdep 0 rfl)
                obtain ⟨e32, x32⟩ := Rv.ev (show a.tmps.getD 32 undef = .int .i64 (k : Int) from hdep 1 rfl)
                exact Rv.step_op (op := Go.Op.indexAddr 24 (Go.Operand.tmp 31) (Go.Operand.tmp 32)) (v := .pointer (some ⟨b, o + k, none⟩)) (w1 := W) rfl rfl (fun d pos aft g => by unfold execOp; go_simp) ⟨_, rfl, rfl, Below.refl _ _⟩
              | 3, _ =>
                obtain ⟨e33, x33⟩ := Rv.ev (show a.tmps.getD 33 undef = .pointer (some ⟨b, o + k, none⟩) from hdep 2 rfl)
                exact Rv.step_op (op := Go.Op.load 22 (Go.Operand.tmp 33)) (v := .slice (some ⟨b3, o3, none⟩) L.length c3) (w1 := W) rfl rfl (fun d pos aft g => by unfold execOp; go_simp) ⟨_, rfl, rfl, Below.refl _ _⟩
              | 4, _ =>
                obtain ⟨e7, x7⟩ := Rv.ev (show a.tmps.getD 7 undef = .int .i64 (j : Int) from hbase 7 rfl)
                exact Rv.step_op (op := Go.Op.move (Go.Operand.tmp 7)) (v := .int .i64 (j : Int)) (w1 := W) rfl rfl (fun d pos aft g => by unfold execOp; go_simp) ⟨_, rfl, rfl, Below.refl _ _⟩
              | 5, _ =>
                obtain ⟨e34, x34⟩ := Rv.ev (show a.tmps.getD 34 undef = .slice (some ⟨b3, o3, none⟩) L.length c3 from hdep 3 rfl)
                obtain ⟨e35, x35⟩ := Rv.ev (show a.tmps.getD 35 undef = .int .i64 (j : Int) from hdep 4 rfl)
                exact Rv.step_op (op := Go.Op.indexAddr 22 (Go.Operand.tmp 34) (Go.Operand.tmp 35)) (v := .pointer (some ⟨b3, o3 + j * 4, none⟩)) (w1 := W) rfl rfl (fun d pos aft g => by unfold execOp; go_simp) ⟨_, rfl, rfl, Below.refl _ _⟩
              | 6, _ =>
                obtain ⟨e36, x36⟩ := Rv.ev (show a.tmps.getD 36 undef = .pointer (some ⟨b3, o3 + j * 4, none⟩) from hdep 5 rfl)
                exact Rv.step_op (op := Go.Op.load 54 (Go.Operand.tmp 36)) (v := C.v) (w1 := W) rfl rfl (fun d pos aft g => by unfold execOp; go_simp) ⟨_, rfl, rfl, Below.refl _ _⟩
              | 7, _ =>
                obtain ⟨e1, x1⟩ := Rv.ev (show a.tmps.getD 1 undef = .slice (some ⟨b4, o4, none⟩) ps.length c2 from hbase 1 rfl)
                exact Rv.step_op (op := Go.Op.move (Go.Operand.tmp 1)) (v := .slice (some ⟨b4, o4, none⟩) ps.length c2) (w1 := W) rfl rfl (fun d pos aft g => by unfold execOp; go_simp) ⟨_, rfl, rfl, Below.refl _ _⟩
              | 8, _ =>
                obtain ⟨e7, x7⟩ := Rv.ev (show a.tmps.getD 7 undef = .int .i64 (j : Int) from hbase 7 rfl)
                exact Rv.step_op (op := Go.Op.move (Go.Operand.tmp 7)) (v := .int .i64 (j : Int)) (w1 := W) rfl rfl (fun d pos aft g => by unfold execOp; go_simp) ⟨_, rfl, rfl, Below.refl _ _⟩
              | 9, _ =>
                obtain ⟨e38, x38⟩ := Rv.ev (show a.tmps.getD 38 undef = .slice (some ⟨b4, o4, none⟩) ps.length c2 from hdep 7 rfl)
                obtain ⟨e39, x39⟩ := Rv.ev (show a.tmps.getD 39 undef = .int .i64 (j : Int) from hdep 8 rfl)
                exact Rv.step_op (op := Go.Op.indexAddr 41 (Go.Operand.tmp 38) (Go.Operand.tmp 39)) (v := .pointer (some ⟨b4, o4 + j, none⟩)) (w1 := W) rfl rfl (fun d pos aft g => by unfold execOp; go_simp) ⟨_, rfl, rfl, Below.refl _ _⟩
              | 10, _ =>
                obtain ⟨e40, x40⟩ := Rv.ev (show a.tmps.getD 40 undef = .pointer (some ⟨b4, o4 + j, none⟩) from hdep 9 rfl)
                exact Rv.step_op (op := Go.Op.load 3 (Go.Operand.tmp 40)) (v := .int .i64 p) (w1 := W) rfl rfl (fun d pos aft g => by unfold execOp; go_simp) ⟨_, rfl, rfl, Below.refl _ _⟩
              | 11, _ =>
                obtain ⟨e37, x37⟩ := Rv.ev (show a.tmps.getD 37 undef = C.v from hdep 6 rfl)
                obtain ⟨e41, x41⟩ := Rv.ev (show a.tmps.getD 41 undef = .int .i64 p from hdep 10 rfl)
                have cf : ∀ x0 x1 W, (callFunc 39 #[x0, x1]).run Tryz.prog W = .ok (.enter 39 #[x0, x1]) W := fun _ _ _ => by kernel_rfl
                refine Rv.step_fn (op := Go.Op.call { callee := Go.Callee.value (Go.Operand.func 39), args := #[Go.Operand.tmp 37, Go.Operand.tmp 41], argTypes := #[54, 3] }) (f := 39) (args := #[C.v, .int .i64 p]) (R := fun v W' => v = .bool (inB C p) ∧ Below W.heap.size W W') rfl rfl (fun d pos aft g => by unfold execOp; go_simp) ((IN.out W).mono ?_) ?_
                · (rintro e W' ⟨rfl, hb⟩; exact ⟨_, rfl, rfl, hb⟩)
                · (rintro v W' ⟨rfl, hb⟩; exact ⟨_, rfl, rfl, hb⟩)
              | 12, _ =>
                obtain ⟨e42, x42⟩ := Rv.ev (show a.tmps.getD 42 undef = .bool (inB C p) from hdep 11 rfl)
                exact Rv.step_op (op := Go.Op.assign (Go.Operand.tmp 42)) (v := .bool (inB C p)) (w1 := W) rfl rfl (fun d pos aft g => by unfold execOp; go_simp) ⟨_, rfl, rfl, Below.refl _ _⟩
              | m + 13, h => exact absurd h (by show ¬ m + 13 < 13; omega)
            intro W f hf htr
            have f0 : f 0 = .slice (some ⟨b, o, none⟩) ls.length c := hf 0 (by show 0 < 13; omega)
            have f1 : f 1 = .int .i64 (k : Int) := hf 1 (by show 1 < 13; omega)
            have f2 : f 2 = .pointer (some ⟨b, o + k, none⟩) := hf 2 (by show 2 < 13; omega)
            have f3 : f 3 = .slice (some ⟨b3, o3, none⟩) L.length c3 := hf 3 (by show 3 < 13; omega)
            have f4 : f 4 = .int .i64 (j : Int) := hf 4 (by show 4 < 13; omega)
            have f5 : f 5 = .pointer (some ⟨b3, o3 + j * 4, none⟩) := hf 5 (by show 5 < 13; omega)
            have f6 : f 6 = C.v := hf 6 (by show 6 < 13; omega)
            have f7 : f 7 = .slice (some ⟨b4, o4, none⟩) ps.length c2 := hf 7 (by show 7 < 13; omega)
            have f8 : f 8 = .int .i64 (j : Int) := hf 8 (by show 8 < 13; omega)
            have f9 : f 9 = .pointer (some ⟨b4, o4 + j, none⟩) := hf 9 (by show 9 < 13; omega)
            have f10 : f 10 = .int .i64 p := hf 10 (by show 10 < 13; omega)
            have f11 : f 11 = .bool (inB C p) := hf 11 (by show 11 < 13; omega)
            have f12 : f 12 = .bool (inB C p) := hf 12 (by show 12 < 13; omega)
            refine (show ∀ (a : Act) (w : World), Code.wp _ _ _ a w → _ from by assumption) _ _ ?_
            refine Rv.fin_swap (L' := [(31, f 0), (32, f 1), (33, f 2), (34, f 3), (35, f 4), (36, f 5), (37, f 6), (38, f 7), (39, f 8), (40, f 9), (41, f 10), (42, f 11), (6, f 12)]) rfl ?_
            rw [f0, f1, f2, f3, f4, f5, f6, f7, f8, f9, f10, f11, f12]
            clear f0 f1 f2 f3 f4 f5 f6 f7 f8 f9 f10 f11 f12
            simp only [Rv.fin, List.foldl_cons, List.foldl_nil, Act.put, List.setIfInBounds_toArray, List.set_cons_succ, List.set_cons_zero]
            have HBW := Lib.hid (HB3.out.trans (htr.mono HB3.out.size))
            go_wp2
            go_roundw
            case rel => exact ⟨j + 1, by go_num, by omega, by rw [HS2.out, HBB.out, Bool.true_and], HBW⟩
            case measure => simp [intOf]; omega
          · obtain rfl : j = ps.length := by omega
            have e : res = true := by rw [← HS.out]; exact hasB_yes ls ps (k + 1) (by rw [HE.out, ← okP_all]; exact HBB.out)
            subst e
            go_wp2
            go_ret
            exact ⟨rfl, HB3.out⟩
    · obtain rfl : k = ls.length := by omega
      rw [List.take_length] at HN
      go_wp2
      go_ret
      have e : res = false := HS.out.symm.trans HN.out
      subst e
      exact ⟨rfl, HB.out⟩
end Go.Proofs.YtfnogpelaoofbaaGreatDoor.Rg

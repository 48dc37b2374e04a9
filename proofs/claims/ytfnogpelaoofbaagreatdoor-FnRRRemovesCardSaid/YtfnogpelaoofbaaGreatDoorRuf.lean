/- Do two ranges overlap? Conditions: those written at each lemma. -/
import Derived.Test.YtfnogpelaoofbaaGreatDoorRue
set_option linter.unusedVariables false
set_option linter.unusedSimpArgs false
set_option maxRecDepth 100000
set_option maxHeartbeats 8000000
namespace Go.Proofs.YtfnogpelaoofbaaGreatDoor.Rg
open Go.RowKit Go.Proofs.YtfnogpelaoofbaaGreatDoor.B Go.Proofs.YtfnogpelaoofbaaGreatDoor.Sp

/-- Do two columns' ranges overlap, by the program's own comparisons? -/
def ovC (a b : Cl) : Bool := ovY (ctOf a.a a.x) (ctOf a.b a.y) (ctOf b.a b.x) (ctOf b.b b.y)
theorem ov_cl (a b : Cl) : ∃ (r1 : TypeId) (j1 : Value) (r2 : TypeId) (j2 : Value), ∀ W, Calls Tryz.prog 51 #[a.e, b.e] W fun e w' => e = .returned (.tuple #[exI r1 j1 r2 j2, .bool (ovC a b), .nilIface]) ∧ Below W.heap.size W w' := by
  refine ⟨(ovL (ctOf a.a a.x) (ctOf a.b a.y) (ctOf b.a b.x) (ctOf b.b b.y)).tid, (ovL (ctOf a.a a.x) (ctOf a.b a.y) (ctOf b.a b.x) (ctOf b.b b.y)).inner, (ovU (ctOf a.a a.x) (ctOf a.b a.y) (ctOf b.a b.x) (ctOf b.b b.y)).tid, (ovU (ctOf a.a a.x) (ctOf a.b a.y) (ctOf b.a b.x) (ctOf b.b b.y)).inner, fun W => ?_⟩
  have h := overlaps_ct (ctOf a.a a.x) (ctOf a.b a.y) (ctOf b.a b.x) (ctOf b.b b.y) W
  rw [ex_eq (ctOf a.a a.x), ex_eq (ctOf b.a b.x), ex_eq (ovL (ctOf a.a a.x) (ctOf a.b a.y) (ctOf b.a b.x) (ctOf b.b b.y))] at h
  exact h
theorem roverlaps_any (v u : Value) (p q : List Cl) (w : World) (hr : Rd w 3 v p.length (exs p)) (hu : Rd w 3 u q.length (exs q)) (hlen : p.length = q.length) (hl : p.length ≤ 100000) :
    Calls Tryz.prog 49 #[v, u] w fun e w' => e = .returned (.tuple #[.bool ((p.zip q).all fun c => ovC c.1 c.2), .nilIface]) ∧ Below w.heap.size w w' := by
  obtain ⟨A, c, rfl, hlc, hcm⟩ := hr.shape
  obtain ⟨A2, c2, rfl, hlc2, hcm2⟩ := hu.shape
  have HR := Lib.hid hr
  have HU := Lib.hid hu
  obtain ⟨res, hres⟩ : ∃ res, ((p.zip q).all fun c => ovC c.1 c.2) = res := ⟨_, rfl⟩
  rw [hres]
  have HE := Lib.hid hres
  have hne : ((p.length : Int) != (q.length : Int)) = false := by simp [hlen]
  have HLQ := Lib.hid hlen
  clear hr hu hres hlen
  go_enter Tryz.func49, Tryz.ntmps49
  go_wp2
  go_loopw [17] (fun v16 wr => ∃ (k : Nat), v16 = .int .i64 k ∧ k ≤ p.length ∧ Hid ((((p.zip q).take k).all fun c => ovC c.1 c.2) = true) ∧ Hid (Below w.heap.size w wr)) (fun v16 _ => (p.length - (intOf v16)).toNat)
  case atStart => exact ⟨0, rfl, Nat.zero_le _, Lib.hid rfl, Lib.hid (Below.refl _ _)⟩
  case round =>
    obtain ⟨k, rfl, hk, HN, HB⟩ := hrel
    by_cases hlt : k < p.length
    · have hlt2 : k < q.length := by rw [← HLQ.out]; exact hlt
      obtain ⟨b1, o1, rfl, hb1, c0, c1, c2'⟩ := rd_ex HR.out k hlt
      obtain ⟨b2, o2, rfl, hb2, d0, d1, d2⟩ := rd_ex HU.out k hlt2
      obtain ⟨r1, j1, r2, j2, sa⟩ := ov_cl p[k] q[k]
      have SA := Lib.hid sa
      clear sa
      have hz : k < (p.zip q).length := by rw [List.length_zip]; omega
      have HM := Lib.hid (show (((p.zip q).take (k + 1)).all fun c => ovC c.1 c.2) = ovC p[k] q[k] from by rw [take_snocA _ k hz, List.all_append, HN.out, List.getElem_zip]; simp)
      have HF := Lib.hid (show ovC p[k] q[k] = false → ((p.zip q).all fun c => ovC c.1 c.2) = false from fun h => by
        rw [← List.take_append_drop (k + 1) (p.zip q), List.all_append, HM.out, h, Bool.false_and])
      clear hz
      generalize p[k] = P at *
      generalize q[k] = Q at *
      obtain ⟨sm, hsm⟩ : ∃ sm, ovC P Q = sm := ⟨_, rfl⟩
      rw [hsm] at SA HM HF
      unfold Cl.e at SA
      generalize (ctOf P.a P.x).tid = ta at *
      generalize (ctOf P.a P.x).inner = ai at *
      generalize (ctOf P.b P.y).tid = tb at *
      generalize (ctOf P.b P.y).inner = bi at *
      generalize (ctOf Q.a Q.x).tid = tc at *
      generalize (ctOf Q.a Q.x).inner = ci at *
      generalize (ctOf Q.b Q.y).tid = td at *
      generalize (ctOf Q.b Q.y).inner = di at *
      clear hsm
      go_upto_region 6 with fail
      obtain ⟨X, rfl⟩ : ∃ X : World, X = wr := ⟨_, rfl⟩
      refine Rv.region_fin (n := 41) (by kernel_rfl) #[21, 22, 23, 24, 25, 26, 27, 28, 29, 20, 30, 31, 32, 7, 1014, 8, 9] #[] (fun i f W => if i = 14 then (fun f W => ∃ g, f 13 = .pointer (some ⟨g, 0, none⟩) ∧ W.heap[g]? = some (.cells #[.iface r1 j1, .iface r2 j2, tv] 92 (0, 0))) f W else if i = 13 then (fun f W => ∃ g, f 13 = .pointer (some ⟨g, 0, none⟩) ∧ W.heap[g]? = some (.cells #[.nilIface, .nilIface, .nilIface] 92 (0, 0))) f W else f i = (#[.slice (some ⟨b1, o1, none⟩) p.length c, .int .i64 (k : Int), .pointer (some ⟨b1, o1 + k * 3, none⟩), exI ta ai tb bi, .slice (some ⟨b2, o2, none⟩) q.length c2, .int .i64 (k : Int), .pointer (some ⟨b2, o2 + k * 3, none⟩), exI tc ci td di, .tuple #[exI r1 j1 r2 j2, .bool sm, .nilIface], .tuple #[exI r1 j1 r2 j2, .bool sm, .nilIface], exI r1 j1 r2 j2, .bool sm, .nilIface, undef, undef, .bool sm, .nilIface] : Array Value).getD i undef) (fun i j => (i == 14 && (j == 13))) (fun i => i == 14) (fun i f W W' => if i = 14 then (fun f W W' => ∃ g, f 13 = .pointer (some ⟨g, 0, none⟩) ∧ Rv.But g W W') f W W' else True) (fun W => Below X.heap.size X W) (fun _ => True) (Rv.One 13 X.heap.size) (Rv.One.loc (by show 13 < 17; omega)) (fun i f f' w hi h hd hg => ?_) (fun i j f w w' hi hj hij hK hdp h hr => ?_) (fun i h g b hg => ?_) rfl (by kernel_rfl) (fun i h g b hg => ?_) ((Below.refl _ _).drew) (trivial) (fun f => Rv.One.start) (fun i h hr f w hf => ?_) (fun i h hr => absurd hr (Rv.allrun (by kernel_rfl) i h)) ?_ ?_
      · by_cases hi1014 : i = 14
        · subst hi1014
          rw [if_pos rfl] at hg ⊢
          obtain ⟨g, q1, q2⟩ := hg
          exact ⟨g, (hd 13 rfl).symm.trans q1, q2⟩
        rw [if_neg hi1014] at hg ⊢
        by_cases hi7 : i = 13
        · subst hi7
          rw [if_pos rfl] at hg ⊢
          obtain ⟨g, q1, q2⟩ := hg
          exact ⟨g, h.symm.trans q1, q2⟩
        rw [if_neg hi7] at hg ⊢
        rw [← h]; exact hg
      · by_cases hj1014 : j = 14
        · subst hj1014
          rw [if_pos rfl] at h ⊢
          rcases hr with ⟨hK1, hr⟩ | hr
          · exfalso
            exact hij (by simpa using hK1)
          · obtain ⟨g, e, hb⟩ := h
            exact ⟨g, e, (hr.block _ (Rv.lt_of_blk hb)).trans hb⟩
        rw [if_neg hj1014] at h ⊢
        by_cases hj7 : j = 13
        · subst hj7
          rw [if_pos rfl] at h ⊢
          rcases hr with ⟨hK1, hr⟩ | hr
          · exfalso
            have e : i = 14 := by simpa using hK1
            subst e
            revert hK
            decide
          · obtain ⟨g, e, hb⟩ := h
            exact ⟨g, e, (hr.block _ (Rv.lt_of_blk hb)).trans hb⟩
        rw [if_neg hj7] at h ⊢
        exact h
      · match i, h, hg with
        | 0, _, hg => cases hg
        | 1, _, hg => cases hg
        | 2, _, hg => cases hg
        | 3, _, hg => cases hg
        | 4, _, hg => cases hg
        | 5, _, hg => cases hg
        | 6, _, hg => cases hg
        | 7, _, hg => cases hg
        | 8, _, hg => cases hg
        | 9, _, hg => cases hg
        | 10, _, hg => cases hg
        | 11, _, hg => cases hg
        | 12, _, hg => cases hg
        | 13, _, hg => cases hg
        | 14, _, hg => cases hg
        | 15, _, hg => cases hg
        | 16, _, hg => cases hg
        | m + 17, h, _ => exact absurd h (by show ¬ m + 17 < 17; omega)
      · match i, h, hg with
        | 0, _, hg => cases hg
        | 1, _, hg => cases hg
        | 2, _, hg => cases hg
        | 3, _, hg => cases hg
        | 4, _, hg => cases hg
        | 5, _, hg => cases hg
        | 6, _, hg => cases hg
        | 7, _, hg => cases hg
        | 8, _, hg => cases hg
        | 9, _, hg => cases hg
        | 10, _, hg => cases hg
        | 11, _, hg => cases hg
        | 12, _, hg => cases hg
        | 13, _, hg => cases hg
        | 14, _, hg => cases hg
        | 15, _, hg => cases hg
        | 16, _, hg => cases hg
        | m + 17, h, _ => exact absurd h (by show ¬ m + 17 < 17; omega)
      · match i, h, hr, hf with
        | 0, _, hr, _ => exact Bool.noConfusion (show true = false from hr)
        | 1, _, hr, _ => exact Bool.noConfusion (show true = false from hr)
        | 2, _, hr, _ => exact Bool.noConfusion (show true = false from hr)
        | 3, _, hr, _ => exact Bool.noConfusion (show true = false from hr)
        | 4, _, hr, _ => exact Bool.noConfusion (show true = false from hr)
        | 5, _, hr, _ => exact Bool.noConfusion (show true = false from hr)
        | 6, _, hr, _ => exact Bool.noConfusion (show true = false from hr)
        | 7, _, hr, _ => exact Bool.noConfusion (show true = false from hr)
        | 8, _, hr, _ => exact Bool.noConfusion (show true = false from hr)
        | 9, _, hr, _ => exact Bool.noConfusion (show true = false from hr)
        | 10, _, hr, _ => exact Bool.noConfusion (show true = false from hr)
        | 11, _, hr, _ => exact Bool.noConfusion (show true = false from hr)
        | 12, _, hr, _ => exact Bool.noConfusion (show true = false from hr)
        | 13, _, hr, _ => exact Bool.noConfusion (show true = false from hr)
        | 14, _, hr, _ => exact Bool.noConfusion (show true = false from hr)
        | 15, _, hr, _ => exact Bool.noConfusion (show true = false from hr)
        | 16, _, hr, _ => exact Bool.noConfusion (show true = false from hr)
        | m + 17, h, _, _ => exact absurd h (by show ¬ m + 17 < 17; omega)
      · intro i h a W hrun hbase hpre hdep htr hta hJ
        have HBW := HB.out.trans (htr.mono HB.out.size)
        have q0 := (HBW.cell (p := ⟨b1, o1 + k * 3, none⟩) hb1).trans c0
        have q1 := (HBW.cell (p := ⟨b1, o1 + k * 3 + 1, none⟩) hb1).trans c1
        have q2 := (HBW.cell (p := ⟨b1, o1 + k * 3 + 2, none⟩) hb1).trans c2'
        have s0 := (HBW.cell (p := ⟨b2, o2 + k * 3, none⟩) hb2).trans d0
        have s1 := (HBW.cell (p := ⟨b2, o2 + k * 3 + 1, none⟩) hb2).trans d1
        have s2 := (HBW.cell (p := ⟨b2, o2 + k * 3 + 2, none⟩) hb2).trans d2
        match i, h with
        | 0, _ =>
          obtain ⟨e0, x0⟩ := Rv.ev (show a.tmps.getD 0 undef = .slice (some ⟨b1, o1, none⟩) p.length c from hbase 0 rfl)
          exact Rv.step_op (op := Go.Op.move (Go.Operand.tmp 0)) (v := .slice (some ⟨b1, o1, none⟩) p.length c) (w1 := W) rfl rfl (fun d pos aft g => by unfold execOp; go_simp) ⟨_, rfl, rfl, .inr (Below.refl _ _), htr, fun _ ht => ht, fun L _ hJ => Rv.One.keep (by decide) _ (Nat.le_refl _) hJ⟩
        | 1, _ =>
          obtain ⟨e6, x6⟩ := Rv.ev (show a.tmps.getD 6 undef = .int .i64 (k : Int) from hbase 6 rfl)
          exact Rv.step_op (op := Go.Op.move (Go.Operand.tmp 6)) (v := .int .i64 (k : Int)) (w1 := W) rfl rfl (fun d pos aft g => by unfold execOp; go_simp) ⟨_, rfl, rfl, .inr (Below.refl _ _), htr, fun _ ht => ht, fun L _ hJ => Rv.One.keep (by decide) _ (Nat.le_refl _) hJ⟩
        | 2, _ =>
          obtain ⟨e21, x21⟩ := Rv.ev (show a.tmps.getD 21 undef = .slice (some ⟨b1, o1, none⟩) p.length c from hdep 0 rfl rfl)
          obtain ⟨e22, x22⟩ := Rv.ev (show a.tmps.getD 22 undef = .int .i64 (k : Int) from hdep 1 rfl rfl)
          exact Rv.step_op (op := Go.Op.indexAddr 63 (Go.Operand.tmp 21) (Go.Operand.tmp 22)) (v := .pointer (some ⟨b1, o1 + k * 3, none⟩)) (w1 := W) rfl rfl (fun d pos aft g => by unfold execOp; go_simp) ⟨_, rfl, rfl, .inr (Below.refl _ _), htr, fun _ ht => ht, fun L _ hJ => Rv.One.keep (by decide) _ (Nat.le_refl _) hJ⟩
        | 3, _ =>
          obtain ⟨e23, x23⟩ := Rv.ev (show a.tmps.getD 23 undef = .pointer (some ⟨b1, o1 + k * 3, none⟩) from hdep 2 rfl rfl)
          exact Rv.step_op (op := Go.Op.load 92 (Go.Operand.tmp 23)) (v := exI ta ai tb bi) (w1 := W) rfl rfl (fun d pos aft g => by unfold execOp; go_simp) ⟨_, rfl, rfl, .inr (Below.refl _ _), htr, fun _ ht => ht, fun L _ hJ => Rv.One.keep (by decide) _ (Nat.le_refl _) hJ⟩
        | 4, _ =>
          obtain ⟨e1, x1⟩ := Rv.ev (show a.tmps.getD 1 undef = .slice (some ⟨b2, o2, none⟩) q.length c2 from hbase 1 rfl)
          exact Rv.step_op (op := Go.Op.move (Go.Operand.tmp 1)) (v := .slice (some ⟨b2, o2, none⟩) q.length c2) (w1 := W) rfl rfl (fun d pos aft g => by unfold execOp; go_simp) ⟨_, rfl, rfl, .inr (Below.refl _ _), htr, fun _ ht => ht, fun L _ hJ => Rv.One.keep (by decide) _ (Nat.le_refl _) hJ⟩
        | 5, _ =>
          obtain ⟨e6, x6⟩ := Rv.ev (show a.tmps.getD 6 undef = .int .i64 (k : Int) from hbase 6 rfl)
          exact Rv.step_op (op := Go.Op.move (Go.Operand.tmp 6)) (v := .int .i64 (k : Int)) (w1 := W) rfl rfl (fun d pos aft g => by unfold execOp; go_simp) ⟨_, rfl, rfl, .inr (Below.refl _ _), htr, fun _ ht => ht, fun L _ hJ => Rv.One.keep (by decide) _ (Nat.le_refl _) hJ⟩
        | 6, _ =>
          obtain ⟨e25, x25⟩ := Rv.ev (show a.tmps.getD 25 undef = .slice (some ⟨b2, o2, none⟩) q.length c2 from hdep 4 rfl rfl)
          obtain ⟨e26, x26⟩ := Rv.ev (show a.tmps.getD 26 undef = .int .i64 (k : Int) from hdep 5 rfl rfl)
          exact Rv.step_op (op := Go.Op.indexAddr 63 (Go.Operand.tmp 25) (Go.Operand.tmp 26)) (v := .pointer (some ⟨b2, o2 + k * 3, none⟩)) (w1 := W) rfl rfl (fun d pos aft g => by unfold execOp; go_simp) ⟨_, rfl, rfl, .inr (Below.refl _ _), htr, fun _ ht => ht, fun L _ hJ => Rv.One.keep (by decide) _ (Nat.le_refl _) hJ⟩
        | 7, _ =>
          obtain ⟨e27, x27⟩ := Rv.ev (show a.tmps.getD 27 undef = .pointer (some ⟨b2, o2 + k * 3, none⟩) from hdep 6 rfl rfl)
          exact Rv.step_op (op := Go.Op.load 92 (Go.Operand.tmp 27)) (v := exI tc ci td di) (w1 := W) rfl rfl (fun d pos aft g => by unfold execOp; go_simp) ⟨_, rfl, rfl, .inr (Below.refl _ _), htr, fun _ ht => ht, fun L _ hJ => Rv.One.keep (by decide) _ (Nat.le_refl _) hJ⟩
        | 8, _ =>
          obtain ⟨e24, x24⟩ := Rv.ev (show a.tmps.getD 24 undef = exI ta ai tb bi from hdep 3 rfl rfl)
          obtain ⟨e28, x28⟩ := Rv.ev (show a.tmps.getD 28 undef = exI tc ci td di from hdep 7 rfl rfl)
          have cf : ∀ x0 x1 W, (callFunc 51 #[x0, x1]).run Tryz.prog W = .ok (.enter 51 #[x0, x1]) W := fun _ _ _ => by kernel_rfl
          refine Rv.step_fn (op := Go.Op.call { callee := Go.Callee.value (Go.Operand.func 51), args := #[Go.Operand.tmp 24, Go.Operand.tmp 28], argTypes := #[92, 92] }) (f := 51) (args := #[exI ta ai tb bi, exI tc ci td di]) (R := fun v W' => v = .tuple #[exI r1 j1 r2 j2, .bool sm, .nilIface] ∧ Below W.heap.size W W') rfl rfl (fun d pos aft g => by unfold execOp; go_simp) ((SA.out W).mono ?_) ?_
          · (rintro e W' ⟨rfl, hb⟩; exact ⟨_, rfl, rfl, hb⟩)
          · (rintro v W' ⟨rfl, hb⟩; exact ⟨_, rfl, rfl, .inr hb, (fun W W' ht hb => ht.trans (hb.mono ht.size)) W W' htr hb, fun _ ht => (fun _ _ _ _ => trivial) W W' ht hb, fun L _ hJ => Rv.One.keep (by decide) _ (hb.size) hJ⟩)
        | 9, _ =>
          obtain ⟨e29, x29⟩ := Rv.ev (show a.tmps.getD 29 undef = .tuple #[exI r1 j1 r2 j2, .bool sm, .nilIface] from hdep 8 rfl rfl)
          exact Rv.step_op (op := Go.Op.move (Go.Operand.tmp 29)) (v := .tuple #[exI r1 j1 r2 j2, .bool sm, .nilIface]) (w1 := W) rfl rfl (fun d pos aft g => by unfold execOp; go_simp) ⟨_, rfl, rfl, .inr (Below.refl _ _), htr, fun _ ht => ht, fun L _ hJ => Rv.One.keep (by decide) _ (Nat.le_refl _) hJ⟩
        | 10, _ =>
          obtain ⟨e20, x20⟩ := Rv.ev (show a.tmps.getD 20 undef = .tuple #[exI r1 j1 r2 j2, .bool sm, .nilIface] from hdep 9 rfl rfl)
          exact Rv.step_op (op := Go.Op.extract (Go.Operand.tmp 20) 0) (v := exI r1 j1 r2 j2) (w1 := W) rfl rfl (fun d pos aft g => by unfold execOp; go_simp) ⟨_, rfl, rfl, .inr (Below.refl _ _), htr, fun _ ht => ht, fun L _ hJ => Rv.One.keep (by decide) _ (Nat.le_refl _) hJ⟩
        | 11, _ =>
          obtain ⟨e20, x20⟩ := Rv.ev (show a.tmps.getD 20 undef = .tuple #[exI r1 j1 r2 j2, .bool sm, .nilIface] from hdep 9 rfl rfl)
          exact Rv.step_op (op := Go.Op.extract (Go.Operand.tmp 20) 1) (v := .bool sm) (w1 := W) rfl rfl (fun d pos aft g => by unfold execOp; go_simp) ⟨_, rfl, rfl, .inr (Below.refl _ _), htr, fun _ ht => ht, fun L _ hJ => Rv.One.keep (by decide) _ (Nat.le_refl _) hJ⟩
        | 12, _ =>
          obtain ⟨e20, x20⟩ := Rv.ev (show a.tmps.getD 20 undef = .tuple #[exI r1 j1 r2 j2, .bool sm, .nilIface] from hdep 9 rfl rfl)
          exact Rv.step_op (op := Go.Op.extract (Go.Operand.tmp 20) 2) (v := .nilIface) (w1 := W) rfl rfl (fun d pos aft g => by unfold execOp; go_simp) ⟨_, rfl, rfl, .inr (Below.refl _ _), htr, fun _ ht => ht, fun L _ hJ => Rv.One.keep (by decide) _ (Nat.le_refl _) hJ⟩
        | 13, _ =>
          have hal : Below W.heap.size W (W.alloc (.cells #[.nilIface, .nilIface, .nilIface] 92)) := (Below.refl _ _).alloc (Nat.le_refl _) _
          exact Rv.step_op (op := Go.Op.alloc 92) (ty := 0) (v := .pointer (some ⟨W.heap.size, 0, none⟩)) (w1 := W.alloc (.cells #[.nilIface, .nilIface, .nilIface] 92)) rfl rfl (fun d pos aft g => by unfold execOp; go_simp) ⟨_, rfl, ⟨W.heap.size, rfl, heap_alloc_new W _⟩, .inr hal, htr.trans (hal.mono htr.size), fun _ ht => ht, fun L _ hJ => Rv.One.new htr.size (by simp) hJ⟩
        | 14, _ =>
          obtain ⟨g7, e7', h7⟩ : ∃ g, a.tmps.getD 7 undef = .pointer (some ⟨g, 0, none⟩) ∧ W.heap[g]? = some (.cells #[.nilIface, .nilIface, .nilIface] 92 (0, 0)) := hdep 13 rfl rfl
          obtain ⟨e7, x7⟩ := Rv.ev e7'
          obtain ⟨e30, x30⟩ := Rv.ev (show a.tmps.getD 30 undef = exI r1 j1 r2 j2 from hdep 10 rfl rfl)
          obtain ⟨L, _, hL, hJ2⟩ := hJ
          have hge : X.heap.size ≤ g7 := by
            obtain ⟨g, eg, hge, _⟩ := hJ2 (hL 13 rfl)
            have eg2 : Value.pointer (some ⟨g, 0, none⟩) = .pointer (some ⟨g7, 0, none⟩) := eg.symm.trans e7'
            injection eg2 with eg2
            injection eg2 with eg2
            injection eg2 with eg2
            omega
          obtain ⟨k0, k1, k2⟩ := Rv.cells3 h7
          obtain ⟨m0, m1, m2⟩ := Rv.frozen3 h7
          exact Rv.step_skip (op := Go.Op.store 92 (Go.Operand.tmp 7) (Go.Operand.tmp 30)) (ty := 0) (w1 := (((W.setCell ⟨g7, 0, none⟩ (.iface r1 j1)).setCell ⟨g7, 1, none⟩ (.iface r2 j2)).setCell ⟨g7, 2, none⟩ (tv))) rfl rfl (fun d pos aft g => by unfold execOp; go_simp) ⟨undef, rfl, ⟨g7, e7', Rv.sets3 h7 _ _ _⟩, .inl ⟨rfl, g7, e7', Rv.buts3 g7 W _ _ _⟩, Rv.belows3 htr hge _ _ _, (fun h _ => by cases h), fun L _ hJ => Rv.One.keep (by decide) _ ((Rv.buts3 g7 W _ _ _).1) hJ⟩
        | 15, _ =>
          obtain ⟨e31, x31⟩ := Rv.ev (show a.tmps.getD 31 undef = .bool sm from hdep 11 rfl rfl)
          exact Rv.step_op (op := Go.Op.assign (Go.Operand.tmp 31)) (v := .bool sm) (w1 := W) rfl rfl (fun d pos aft g => by unfold execOp; go_simp) ⟨_, rfl, rfl, .inr (Below.refl _ _), htr, fun _ ht => ht, fun L _ hJ => Rv.One.keep (by decide) _ (Nat.le_refl _) hJ⟩
        | 16, _ =>
          obtain ⟨e32, x32⟩ := Rv.ev (show a.tmps.getD 32 undef = .nilIface from hdep 12 rfl rfl)
          exact Rv.step_op (op := Go.Op.assign (Go.Operand.tmp 32)) (v := .nilIface) (w1 := W) rfl rfl (fun d pos aft g => by unfold execOp; go_simp) ⟨_, rfl, rfl, .inr (Below.refl _ _), htr, fun _ ht => ht, fun L _ hJ => Rv.One.keep (by decide) _ (Nat.le_refl _) hJ⟩
        | m + 17, h => exact absurd h (by show ¬ m + 17 < 17; omega)
      intro W f hf htr hJ
      have f0 : f 0 = .slice (some ⟨b1, o1, none⟩) p.length c := hf 0 (by show 0 < 17; omega) rfl
      have f1 : f 1 = .int .i64 (k : Int) := hf 1 (by show 1 < 17; omega) rfl
      have f2 : f 2 = .pointer (some ⟨b1, o1 + k * 3, none⟩) := hf 2 (by show 2 < 17; omega) rfl
      have f3 : f 3 = exI ta ai tb bi := hf 3 (by show 3 < 17; omega) rfl
      have f4 : f 4 = .slice (some ⟨b2, o2, none⟩) q.length c2 := hf 4 (by show 4 < 17; omega) rfl
      have f5 : f 5 = .int .i64 (k : Int) := hf 5 (by show 5 < 17; omega) rfl
      have f6 : f 6 = .pointer (some ⟨b2, o2 + k * 3, none⟩) := hf 6 (by show 6 < 17; omega) rfl
      have f7 : f 7 = exI tc ci td di := hf 7 (by show 7 < 17; omega) rfl
      have f8 : f 8 = .tuple #[exI r1 j1 r2 j2, .bool sm, .nilIface] := hf 8 (by show 8 < 17; omega) rfl
      have f9 : f 9 = .tuple #[exI r1 j1 r2 j2, .bool sm, .nilIface] := hf 9 (by show 9 < 17; omega) rfl
      have f10 : f 10 = exI r1 j1 r2 j2 := hf 10 (by show 10 < 17; omega) rfl
      have f11 : f 11 = .bool sm := hf 11 (by show 11 < 17; omega) rfl
      have f12 : f 12 = .nilIface := hf 12 (by show 12 < 17; omega) rfl
      have HS14 := Lib.hid (show (fun f W => ∃ g, f 13 = .pointer (some ⟨g, 0, none⟩) ∧ W.heap[g]? = some (.cells #[.iface r1 j1, .iface r2 j2, tv] 92 (0, 0))) f W from hf 14 (by show 14 < 17; omega) rfl)
      have f15 : f 15 = .bool sm := hf 15 (by show 15 < 17; omega) rfl
      have f16 : f 16 = .nilIface := hf 16 (by show 16 < 17; omega) rfl
      clear hf
      refine (show ∀ (a : Act) (w : World), Code.wp _ _ _ a w → _ from by assumption) _ _ ?_
      refine Rv.fin_swap (L' := [(21, f 0), (22, f 1), (23, f 2), (24, f 3), (25, f 4), (26, f 5), (27, f 6), (28, f 7), (29, f 8), (20, f 9), (30, f 10), (31, f 11), (32, f 12), (7, f 13), (1014, f 14), (8, f 15), (9, f 16)]) rfl ?_
      rw [f0, f1, f2, f3, f4, f5, f6, f7, f8, f9, f10, f11, f12, f15, f16]
      clear f0 f1 f2 f3 f4 f5 f6 f7 f8 f9 f10 f11 f12 f15 f16
      simp only [Rv.fin, List.foldl_cons, List.foldl_nil, Act.put, List.setIfInBounds_toArray, List.set_cons_succ, List.set_cons_zero, List.set_nil]
      obtain ⟨g8, e13, hg8⟩ := HS14.out
      rw [e13]
      clear e13 HS14 hJ hg8
      have HB2 := Lib.hid (HB.out.trans (htr.mono HB.out.size))
      clear htr
      cases sm
      · have e : res = false := HE.out.symm.trans (HF.out rfl)
        subst e
        go_wp2
        go_ret2
        exact ⟨rfl, HB2.out⟩
      · go_wp2
        go_roundw
        case rel => exact ⟨k + 1, by go_num, by omega, HM, HB2⟩
        case measure => simp [intOf]; omega
    · obtain rfl : k = p.length := by omega
      rw [List.take_of_length_le (by rw [List.length_zip, ← HLQ.out]; omega)] at HN
      have e : res = true := HE.out.symm.trans HN.out
      subst e
      go_wp2
      go_ret2
      exact ⟨rfl, HB.out⟩
end Go.Proofs.YtfnogpelaoofbaaGreatDoor.Rg

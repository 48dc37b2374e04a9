/- Ranges of several columns, by the reference. Conditions: those written at each lemma. -/
import Derived.Test.YtfnogpelaoofbaaGreatDoorSuc
import Derived.IntWalk
set_option linter.unusedVariables false
set_option linter.unusedSimpArgs false
set_option maxRecDepth 100000
set_option maxHeartbeats 4000000
namespace Go.Proofs.YtfnogpelaoofbaaGreatDoor.Rg
open Go.RowKit Go.Proofs.YtfnogpelaoofbaaGreatDoor.B Go.Proofs.YtfnogpelaoofbaaGreatDoor.Sp

/-- Has a range of several columns no values? -/
def noneL (l : List Cl) : Bool := (l.any fun c => decide (c.hi ≤ c.lo)) || decide (l.length = 0)
theorem rrnone_any (v : Value) (l : List Cl) (w : World) (hr : Rd w 4 v l.length (clc l)) (hp : ∀ c ∈ l, Pcl c) :
    Calls Tryz.prog 8 #[v] w fun e w' => e = .returned (.bool (noneL l)) ∧ Below w.heap.size w w' := by
  obtain ⟨A, c, rfl, hlc, hcm⟩ := hr.shape
  have HR := Lib.hid hr
  have HP := Lib.hid hp
  obtain ⟨res, hres⟩ : ∃ res, noneL l = res := ⟨_, rfl⟩
  rw [hres]
  have HS := Lib.hid hres
  clear hr hp hres
  go_enter Tryz.func8, Tryz.ntmps8
  go_wp2
  go_loopw [3] (fun v3 wr => ∃ (k : Nat), v3 = .int .i64 k ∧ k ≤ l.length ∧ Hid (((l.take k).any fun c => decide (c.hi ≤ c.lo)) = false) ∧ Hid (Below w.heap.size w wr)) (fun v3 _ => (l.length - (intOf v3)).toNat)
  case atStart => exact ⟨0, rfl, Nat.zero_le _, Lib.hid rfl, Lib.hid (Below.refl _ _)⟩
  case round =>
    obtain ⟨k, rfl, hk, HN, HB⟩ := hrel
    by_cases hlt : k < l.length
    · obtain ⟨b, o, rfl, hb, c0, c1, c2, c3⟩ := rd_cl HR.out k hlt
      have d0 := (HB.out.cell (p := ⟨b, o + k * 4, none⟩) hb).trans c0
      have d1 := (HB.out.cell (p := ⟨b, o + k * 4 + 1, none⟩) hb).trans c1
      have d2 := (HB.out.cell (p := ⟨b, o + k * 4 + 2, none⟩) hb).trans c2
      have d3 := (HB.out.cell (p := ⟨b, o + k * 4 + 3, none⟩) hb).trans c3
      have NO := Lib.hid (fun W => none_cl l[k] W (HP.out _ (List.getElem_mem hlt)))
      have HM := Lib.hid (show ((l.take (k + 1)).any fun c => decide (c.hi ≤ c.lo)) = decide (l[k].hi ≤ l[k].lo) from by rw [take_snocA l k hlt, List.any_append, HN.out]; simp)
      have HY := Lib.hid (show l[k].hi ≤ l[k].lo → (l.any fun c => decide (c.hi ≤ c.lo)) = true from fun h => List.any_eq_true.2 ⟨_, List.getElem_mem hlt, decide_eq_true h⟩)
      clear c0 c1 c2 c3
      generalize l[k] = C at *
      by_cases hc : C.hi ≤ C.lo
      · have hres : res = true := by rw [← HS.out]; unfold noneL; rw [HY.out hc]; rfl
        rw [decide_eq_true hc] at NO
        subst hres
        clear hc
        go_wp2_with (go_at_call 29; (with_reducible refine (NO.out _).mono ?_); rintro e w1 ⟨rfl, hb1⟩; have HB1 := Lib.hid (HB.out.trans (hb1.mono HB.out.size)); clear hb1)
        go_ret
        exact ⟨rfl, HB1.out⟩
      · rw [decide_eq_false hc] at NO HM
        clear hc
        go_wp2_with (go_at_call 29; (with_reducible refine (NO.out _).mono ?_); rintro e w1 ⟨rfl, hb1⟩; have HB1 := Lib.hid (HB.out.trans (hb1.mono HB.out.size)); clear hb1)
        go_roundw
        case rel => exact ⟨k + 1, by go_num, by omega, HM, HB1⟩
        case measure => simp [intOf]; omega
    · obtain rfl : k = l.length := by omega
      rw [List.take_length] at HN
      have hres : decide (l.length = 0) = res := by rw [← HS.out]; unfold noneL; rw [HN.out]; simp
      by_cases h0 : l.length = 0
      · rw [decide_eq_true h0] at hres
        subst hres
        have h1 : ((l.length : Int) == 0) = true := by rw [beq_iff_eq]; omega
        go_wp2
        go_ret
        exact ⟨by first | rfl | simp [h0], HB.out⟩
      · rw [decide_eq_false h0] at hres
        subst hres
        have h1 : ((l.length : Int) == 0) = false := by rw [beq_eq_false_iff_ne]; omega
        go_wp2
        go_ret
        exact ⟨by first | rfl | simp [h0], HB.out⟩
/-- What two ranges of several columns have in common. -/
def meetL (a b : List Cl) : List Cl := List.zipWith mtc a b
theorem meetL_len (a b : List Cl) : (meetL a b).length = min a.length b.length := List.length_zipWith
theorem meetL_take (a b : List Cl) (k : Nat) (h1 : k < a.length) (h2 : k < b.length) : (meetL a b).take (k + 1) = (meetL a b).take k ++ [mtc a[k] b[k]] := by
  rw [take_snocA _ k (by rw [meetL_len]; omega)]
  unfold meetL
  rw [List.getElem_zipWith]
theorem meetL_pcl {a b : List Cl} (ha : ∀ c ∈ a, Pcl c) (hb : ∀ c ∈ b, Pcl c) : ∀ c ∈ meetL a b, Pcl c := by
  intro c hc
  unfold meetL at hc
  obtain ⟨k, hk, rfl⟩ := List.getElem_of_mem hc
  rw [List.getElem_zipWith]
  exact mtc_pos (ha _ (List.getElem_mem _)) (hb _ (List.getElem_mem _))
theorem rrmeet_any (v u : Value) (p q : List Cl) (w : World) (hr : Rd w 4 v p.length (clc p)) (hu : Rd w 4 u q.length (clc q)) (ha : ∀ c ∈ p, Pcl c) (hb : ∀ c ∈ q, Pcl c) (hl : p.length ≤ 100000) :
    Calls Tryz.prog 9 #[v, u] w fun e w' => ∃ v', e = .returned v' ∧ w'.ownsRow w.heap.size 54 4 v' (meetL p q).length (clc (meetL p q)) ∧ Below w.heap.size w w' := by
  obtain ⟨A, c, rfl, hlc, hcm⟩ := hr.shape
  obtain ⟨A2, c2, rfl, hlc2, hcm2⟩ := hu.shape
  have HR := Lib.hid hr
  have HU := Lib.hid hu
  have PA := Lib.hid ha
  have PB := Lib.hid hb
  clear hr hu ha hb
  go_enter Tryz.func9, Tryz.ntmps9
  go_wp2
  go_loopw [5, 6] (fun v5 v6 wr => ∃ (k : Nat), v6 = .int .i64 k ∧ k ≤ p.length ∧ k ≤ q.length ∧ Hid (wr.ownsRow w.heap.size 54 4 v5 k (clc ((meetL p q).take k))) ∧ Hid (Below w.heap.size w wr)) (fun _ v6 _ => (p.length - (intOf v6)).toNat)
  case atStart => exact ⟨0, rfl, Nat.zero_le _, Nat.zero_le _, Lib.hid (World.ownsRow_nil _ _ _ _), Lib.hid (Below.refl _ _)⟩
  case round =>
    obtain ⟨k, rfl, hk, hk2, HO, HB⟩ := hrel
    by_cases hlt : k < p.length
    · by_cases hlt2 : k < q.length
      · obtain ⟨b1, o1, rfl, hb1, c0, c1, c2', c3⟩ := rd_cl HR.out k hlt
        obtain ⟨b2, o2, rfl, hb2, d0, d1, d2, d3⟩ := rd_cl HU.out k hlt2
        have ME := Lib.hid (fun W => meet_cl p[k] q[k] W (PA.out _ (List.getElem_mem hlt)) (PB.out _ (List.getElem_mem hlt2)))
        have HM := Lib.hid (show clc ((meetL p q).take (k + 1)) = clc ((meetL p q).take k) ++ clc [mtc p[k] q[k]] from by rw [meetL_take p q k hlt hlt2, clc_append])
        rw [clc_one] at HM
        generalize mtc p[k] q[k] = M at *
        generalize p[k] = P at *
        generalize q[k] = Q at *
        have hkb : k ≤ 100000 := by omega
        go_upto_region 5 with fail
        obtain ⟨X, rfl⟩ : ∃ X : World, X = wr := ⟨_, rfl⟩
        refine Rv.region_fin (n := 32) (by kernel_rfl) #[19, 20, 21, 22, 23, 24, 25, 26, 27, 28, 29, 30, 5] #[] (fun i f W => if i = 12 then (fun f W => ∃ A9 c9, f 12 = .slice A9 (k + 1) c9 ∧ W.ownsRow w.heap.size 54 4 (.slice A9 (k + 1) c9) (k + 1) (clc ((meetL p q).take k) ++ ([.int .i64 M.a, .int .i64 M.x, .int .i64 M.b, .int .i64 M.y] : List Value))) f W else if i = 11 then (fun f W => ∃ A9 c9, f 11 = .slice A9 (k + 1) c9 ∧ W.ownsRow w.heap.size 54 4 (.slice A9 (k + 1) c9) (k + 1) (clc ((meetL p q).take k) ++ ([.int .i64 M.a, .int .i64 M.x, .int .i64 M.b, .int .i64 M.y] : List Value))) f W else if i = 10 then (fun f W => ∃ g, f 10 = .slice (some ⟨g, 0, none⟩) 1 1 ∧ Rd W 4 (.slice (some ⟨g, 0, none⟩) 1 1) 1 ([.int .i64 M.a, .int .i64 M.x, .int .i64 M.b, .int .i64 M.y] : List Value)) f W else f i = (#[u5, .slice (some ⟨b1, o1, none⟩) p.length c, .int .i64 (k : Int), .pointer (some ⟨b1, o1 + k * 4, none⟩), P.v, .slice (some ⟨b2, o2, none⟩) q.length c2, .int .i64 (k : Int), .pointer (some ⟨b2, o2 + k * 4, none⟩), Q.v, M.v, undef, undef, undef] : Array Value).getD i undef) (fun i j => (i == 11 && (j == 10))) (fun i => i == 11) (fun i f W W' => True) (fun W => Below w.heap.size w W) (fun W => W.ownsRow w.heap.size 54 4 (u5) (k) (clc ((meetL p q).take k))) (fun _ _ _ => True) (fun _ _ _ _ _ _ _ _ => trivial) (fun i f f' w hi h hd hg => ?_) (fun i j f w w' hi hj hij hK hdp h hr => ?_) (fun i h g b hg => ?_) rfl (by kernel_rfl) (fun i h g b hg => ?_) ((HB.out).drew) (HO.out) (fun _ => trivial) (fun i h hr f w hf => ?_) (fun i h hr => absurd hr (Rv.allrun (by kernel_rfl) i h)) ?_ ?_
        · by_cases hi5 : i = 12
          · subst hi5
            rw [if_pos rfl] at hg ⊢
            obtain ⟨A, c, e, q⟩ := hg
            exact ⟨A, c, h.symm.trans e, q⟩
          rw [if_neg hi5] at hg ⊢
          by_cases hi30 : i = 11
          · subst hi30
            rw [if_pos rfl] at hg ⊢
            obtain ⟨A, c, e, q⟩ := hg
            exact ⟨A, c, h.symm.trans e, q⟩
          rw [if_neg hi30] at hg ⊢
          by_cases hi29 : i = 10
          · subst hi29
            rw [if_pos rfl] at hg ⊢
            obtain ⟨g, e, q⟩ := hg
            exact ⟨g, h.symm.trans e, q⟩
          rw [if_neg hi29] at hg ⊢
          rw [← h]; exact hg
        · by_cases hj5 : j = 12
          · subst hj5
            rw [if_pos rfl] at h ⊢
            rcases hr with ⟨hK1, hr⟩ | hr
            · exfalso
              have e : i = 11 := by simpa using hK1
              subst e
              revert hdp
              decide
            · obtain ⟨A, c, e, h⟩ := h
              exact ⟨A, c, e, own_below h hr⟩
          rw [if_neg hj5] at h ⊢
          by_cases hj30 : j = 11
          · subst hj30
            rw [if_pos rfl] at h ⊢
            rcases hr with ⟨hK1, hr⟩ | hr
            · exact absurd (show i = 11 by simpa using hK1) hij
            · obtain ⟨A, c, e, h⟩ := h
              exact ⟨A, c, e, own_below h hr⟩
          rw [if_neg hj30] at h ⊢
          by_cases hj29 : j = 10
          · subst hj29
            rw [if_pos rfl] at h ⊢
            rcases hr with ⟨hK1, hr⟩ | hr
            · exfalso
              have e : i = 11 := by simpa using hK1
              subst e
              revert hK
              decide
            · obtain ⟨g, e, h⟩ := h
              exact ⟨g, e, h.below hr⟩
          rw [if_neg hj29] at h ⊢
          exact h
        · match i, h, hg with
          | 0, _, hg => cases hg
          | 1, _, hg => cases hg
          | 2, _, hg => cases hg
          | 3, _, hg => cases hg
          | 4, _, hg => cases hg
          | 5, _, hg => cases hg
          | 6, _, hg => cases hg
          | 7, _, hg => cases hg
          | 8, _, hg => cases hg
          | 9, _, hg => cases hg
          | 10, _, hg => cases hg
          | 11, _, hg => cases hg
          | 12, _, hg => cases hg
          | m + 13, h, _ => exact absurd h (by show ¬ m + 13 < 13; omega)
        · match i, h, hg with
          | 0, _, hg => cases hg
          | 1, _, hg => cases hg
          | 2, _, hg => cases hg
          | 3, _, hg => cases hg
          | 4, _, hg => cases hg
          | 5, _, hg => cases hg
          | 6, _, hg => cases hg
          | 7, _, hg => cases hg
          | 8, _, hg => cases hg
          | 9, _, hg => cases hg
          | 10, _, hg => cases hg
          | 11, _, hg => cases hg
          | 12, _, hg => cases hg
          | m + 13, h, _ => exact absurd h (by show ¬ m + 13 < 13; omega)
        · match i, h, hr, hf with
          | 0, _, hr, _ => exact Bool.noConfusion (show true = false from hr)
          | 1, _, hr, _ => exact Bool.noConfusion (show true = false from hr)
          | 2, _, hr, _ => exact Bool.noConfusion (show true = false from hr)
          | 3, _, hr, _ => exact Bool.noConfusion (show true = false from hr)
          | 4, _, hr, _ => exact Bool.noConfusion (show true = false from hr)
          | 5, _, hr, _ => exact Bool.noConfusion (show true = false from hr)
          | 6, _, hr, _ => exact Bool.noConfusion (show true = false from hr)
          | 7, _, hr, _ => exact Bool.noConfusion (show true = false from hr)
          | 8, _, hr, _ => exact Bool.noConfusion (show true = false from hr)
          | 9, _, hr, _ => exact Bool.noConfusion (show true = false from hr)
          | 10, _, hr, _ => exact Bool.noConfusion (show true = false from hr)
          | 11, _, hr, _ => exact Bool.noConfusion (show true = false from hr)
          | 12, _, hr, _ => exact Bool.noConfusion (show true = false from hr)
          | m + 13, h, _, _ => exact absurd h (by show ¬ m + 13 < 13; omega)
        · intro i h a W hrun hbase hpre hdep htr hta hJ
          have q0 := (htr.cell (p := ⟨b1, o1 + k * 4, none⟩) hb1).trans c0
          have q1 := (htr.cell (p := ⟨b1, o1 + k * 4 + 1, none⟩) hb1).trans c1
          have q2 := (htr.cell (p := ⟨b1, o1 + k * 4 + 2, none⟩) hb1).trans c2'
          have q3 := (htr.cell (p := ⟨b1, o1 + k * 4 + 3, none⟩) hb1).trans c3
          have r0 := (htr.cell (p := ⟨b2, o2 + k * 4, none⟩) hb2).trans d0
          have r1 := (htr.cell (p := ⟨b2, o2 + k * 4 + 1, none⟩) hb2).trans d1
          have r2 := (htr.cell (p := ⟨b2, o2 + k * 4 + 2, none⟩) hb2).trans d2
          have r3 := (htr.cell (p := ⟨b2, o2 + k * 4 + 3, none⟩) hb2).trans d3
          match i, h with
          | 0, _ =>
            obtain ⟨e5, x5⟩ := Rv.ev (show a.tmps.getD 5 undef = u5 from hpre 12 (by show 12 < 13; omega) rfl)
            exact Rv.step_op (op := Go.Op.move (Go.Operand.tmp 5)) (v := u5) (w1 := W) rfl rfl (fun d pos aft g => by unfold execOp; go_simp) ⟨_, rfl, rfl, .inr (Below.refl _ _), htr, fun _ ht => ht, fun _ _ _ => trivial⟩
          | 1, _ =>
            obtain ⟨e0, x0⟩ := Rv.ev (show a.tmps.getD 0 undef = .slice (some ⟨b1, o1, none⟩) p.length c from hbase 0 rfl)
            exact Rv.step_op (op := Go.Op.move (Go.Operand.tmp 0)) (v := .slice (some ⟨b1, o1, none⟩) p.length c) (w1 := W) rfl rfl (fun d pos aft g => by unfold execOp; go_simp) ⟨_, rfl, rfl, .inr (Below.refl _ _), htr, fun _ ht => ht, fun _ _ _ => trivial⟩
          | 2, _ =>
            obtain ⟨e6, x6⟩ := Rv.ev (show a.tmps.getD 6 undef = .int .i64 (k : Int) from hbase 6 rfl)
            exact Rv.step_op (op := Go.Op.move (Go.Operand.tmp 6)) (v := .int .i64 (k : Int)) (w1 := W) rfl rfl (fun d pos aft g => by unfold execOp; go_simp) ⟨_, rfl, rfl, .inr (Below.refl _ _), htr, fun _ ht => ht, fun _ _ _ => trivial⟩
          | 3, _ =>
            obtain ⟨e20, x20⟩ := Rv.ev (show a.tmps.getD 20 undef = .slice (some ⟨b1, o1, none⟩) p.length c from hdep 1 rfl rfl)
            obtain ⟨e21, x21⟩ := Rv.ev (show a.tmps.getD 21 undef = .int .i64 (k : Int) from hdep 2 rfl rfl)
            exact Rv.step_op (op := Go.Op.indexAddr 22 (Go.Operand.tmp 20) (Go.Operand.tmp 21)) (v := .pointer (some ⟨b1, o1 + k * 4, none⟩)) (w1 := W) rfl rfl (fun d pos aft g => by unfold execOp; go_simp) ⟨_, rfl, rfl, .inr (Below.refl _ _), htr, fun _ ht => ht, fun _ _ _ => trivial⟩
          | 4, _ =>
            obtain ⟨e22, x22⟩ := Rv.ev (show a.tmps.getD 22 undef = .pointer (some ⟨b1, o1 + k * 4, none⟩) from hdep 3 rfl rfl)
            exact Rv.step_op (op := Go.Op.load 54 (Go.Operand.tmp 22)) (v := P.v) (w1 := W) rfl rfl (fun d pos aft g => by unfold execOp; go_simp) ⟨_, rfl, rfl, .inr (Below.refl _ _), htr, fun _ ht => ht, fun _ _ _ => trivial⟩
          | 5, _ =>
            obtain ⟨e1, x1⟩ := Rv.ev (show a.tmps.getD 1 undef = .slice (some ⟨b2, o2, none⟩) q.length c2 from hbase 1 rfl)
            exact Rv.step_op (op := Go.Op.move (Go.Operand.tmp 1)) (v := .slice (some ⟨b2, o2, none⟩) q.length c2) (w1 := W) rfl rfl (fun d pos aft g => by unfold execOp; go_simp) ⟨_, rfl, rfl, .inr (Below.refl _ _), htr, fun _ ht => ht, fun _ _ _ => trivial⟩
          | 6, _ =>
            obtain ⟨e6, x6⟩ := Rv.ev (show a.tmps.getD 6 undef = .int .i64 (k : Int) from hbase 6 rfl)
            exact Rv.step_op (op := Go.Op.move (Go.Operand.tmp 6)) (v := .int .i64 (k : Int)) (w1 := W) rfl rfl (fun d pos aft g => by unfold execOp; go_simp) ⟨_, rfl, rfl, .inr (Below.refl _ _), htr, fun _ ht => ht, fun _ _ _ => trivial⟩
          | 7, _ =>
            obtain ⟨e24, x24⟩ := Rv.ev (show a.tmps.getD 24 undef = .slice (some ⟨b2, o2, none⟩) q.length c2 from hdep 5 rfl rfl)
            obtain ⟨e25, x25⟩ := Rv.ev (show a.tmps.getD 25 undef = .int .i64 (k : Int) from hdep 6 rfl rfl)
            exact Rv.step_op (op := Go.Op.indexAddr 22 (Go.Operand.tmp 24) (Go.Operand.tmp 25)) (v := .pointer (some ⟨b2, o2 + k * 4, none⟩)) (w1 := W) rfl rfl (fun d pos aft g => by unfold execOp; go_simp) ⟨_, rfl, rfl, .inr (Below.refl _ _), htr, fun _ ht => ht, fun _ _ _ => trivial⟩
          | 8, _ =>
            obtain ⟨e26, x26⟩ := Rv.ev (show a.tmps.getD 26 undef = .pointer (some ⟨b2, o2 + k * 4, none⟩) from hdep 7 rfl rfl)
            exact Rv.step_op (op := Go.Op.load 54 (Go.Operand.tmp 26)) (v := Q.v) (w1 := W) rfl rfl (fun d pos aft g => by unfold execOp; go_simp) ⟨_, rfl, rfl, .inr (Below.refl _ _), htr, fun _ ht => ht, fun _ _ _ => trivial⟩
          | 9, _ =>
            obtain ⟨e23, x23⟩ := Rv.ev (show a.tmps.getD 23 undef = P.v from hdep 4 rfl rfl)
            obtain ⟨e27, x27⟩ := Rv.ev (show a.tmps.getD 27 undef = Q.v from hdep 8 rfl rfl)
            have cf : ∀ x0 x1 W, (callFunc 30 #[x0, x1]).run Tryz.prog W = .ok (.enter 30 #[x0, x1]) W := fun _ _ _ => by kernel_rfl
            refine Rv.step_fn (op := Go.Op.call { callee := Go.Callee.value (Go.Operand.func 30), args := #[Go.Operand.tmp 23, Go.Operand.tmp 27], argTypes := #[54, 54] }) (f := 30) (args := #[P.v, Q.v]) (R := fun v W' => v = M.v ∧ Below W.heap.size W W') rfl rfl (fun d pos aft g => by unfold execOp; go_simp) ((ME.out W).mono ?_) ?_
            · (rintro e W' ⟨rfl, hb⟩; exact ⟨_, rfl, rfl, hb⟩)
            · (rintro v W' ⟨rfl, hb⟩; exact ⟨_, rfl, rfl, .inr hb, (fun W W' ht hb => ht.trans (hb.mono ht.size)) W W' htr hb, fun _ ht => (fun W W' ht hb => own_below ht hb) W W' ht hb, fun _ _ _ => trivial⟩)
          | 10, _ =>
            obtain ⟨e28, x28⟩ := Rv.ev (show a.tmps.getD 28 undef = M.v from hdep 9 rfl rfl)
            have hal : Below W.heap.size W (W.alloc (.cells #[.int .i64 M.a, .int .i64 M.x, .int .i64 M.b, .int .i64 M.y] 54)) := (Below.refl _ _).alloc (Nat.le_refl _) _
            exact Rv.step_op (op := Go.Op.buildSlice 22 1 #[(0, Go.Operand.tmp 28)]) (ty := 22) (v := .slice (some ⟨W.heap.size, 0, none⟩) 1 1) (w1 := W.alloc (.cells #[.int .i64 M.a, .int .i64 M.x, .int .i64 M.b, .int .i64 M.y] 54)) rfl rfl (fun d pos aft g => by unfold execOp; go_simp) ⟨_, rfl, ⟨W.heap.size, rfl, Rd.of_own (World.ownsRow_lit (base := W.heap.size) (e := 54) (size := 4) W #[.int .i64 M.a, .int .i64 M.x, .int .i64 M.b, .int .i64 M.y] 1 (Nat.le_refl _) (by simp [maxLen]) rfl)⟩, .inr hal, htr.trans (hal.mono htr.size), fun _ ht => own_below ht hal, fun _ _ _ => trivial⟩
          | 11, _ =>
            obtain ⟨e19, x19⟩ := Rv.ev (show a.tmps.getD 19 undef = u5 from hdep 0 rfl rfl)
            obtain ⟨gl, el', rl⟩ : ∃ g, a.tmps.getD 29 undef = .slice (some ⟨g, 0, none⟩) 1 1 ∧ Rd W 4 (.slice (some ⟨g, 0, none⟩) 1 1) 1 ([.int .i64 M.a, .int .i64 M.x, .int .i64 M.b, .int .i64 M.y] : List Value) := hdep 10 rfl rfl
            obtain ⟨e29, x29⟩ := Rv.ev el'
            have hown := hta (by decide)
            obtain ⟨v', w', hrun, h2, h3, _⟩ := run_append_rd (P := Tryz.prog) W w.heap.size 22 22 54 (.agg #[.int .i64 0, .int .i64 0, .int .i64 0, .int .i64 0]) 4 32 Tryz.underlying22 info27 rfl (by omega) (by omega) _ _ _ hown _ _ _ rl (by simp [Value.oneCell']) (by omega) htr.size
            obtain ⟨A9, c9, rfl, _⟩ := (Rd.of_own h2).shape
            exact Rv.step_op (op := Go.Op.call { callee := Go.Callee.builtin Go.Builtin.append, args := #[Go.Operand.tmp 19, Go.Operand.tmp 29], argTypes := #[22, 22] }) (ty := 22) (v := .slice A9 (k + 1) c9) (w1 := w') rfl rfl (fun d pos aft g => by unfold execOp; simp only [resolve, invoke, builtin, Sem.run_bind, Sem.run_pure, Result.andThen_ok, List.map_toArray, List.map_cons, List.map_nil, e19, e29, hrun]) ⟨_, rfl, ⟨A9, c9, rfl, h2⟩, .inl ⟨rfl, trivial⟩, htr.grown h3 htr.size (own_base hown), (fun h _ => by cases h), fun _ _ _ => trivial⟩
          | 12, _ =>
            obtain ⟨A9, c9, e9', h9⟩ : ∃ A9 c9, a.tmps.getD 30 undef = .slice A9 (k + 1) c9 ∧ W.ownsRow w.heap.size 54 4 (.slice A9 (k + 1) c9) (k + 1) (clc ((meetL p q).take k) ++ ([.int .i64 M.a, .int .i64 M.x, .int .i64 M.b, .int .i64 M.y] : List Value)) := hdep 11 rfl rfl
            obtain ⟨e30, x30⟩ := Rv.ev e9'
            exact Rv.step_op (op := Go.Op.assign (Go.Operand.tmp 30)) (ty := 22) (v := .slice A9 (k + 1) c9) (w1 := W) rfl rfl (fun d pos aft g => by unfold execOp; go_simp) ⟨_, rfl, ⟨A9, c9, rfl, h9⟩, .inr (Below.refl _ _), htr, (fun _ ht => ht), fun _ _ _ => trivial⟩
          | m + 13, h => exact absurd h (by show ¬ m + 13 < 13; omega)
        intro W f hf htr hJ
        have f0 : f 0 = u5 := hf 0 (by show 0 < 13; omega) rfl
        have f1 : f 1 = .slice (some ⟨b1, o1, none⟩) p.length c := hf 1 (by show 1 < 13; omega) rfl
        have f2 : f 2 = .int .i64 (k : Int) := hf 2 (by show 2 < 13; omega) rfl
        have f3 : f 3 = .pointer (some ⟨b1, o1 + k * 4, none⟩) := hf 3 (by show 3 < 13; omega) rfl
        have f4 : f 4 = P.v := hf 4 (by show 4 < 13; omega) rfl
        have f5 : f 5 = .slice (some ⟨b2, o2, none⟩) q.length c2 := hf 5 (by show 5 < 13; omega) rfl
        have f6 : f 6 = .int .i64 (k : Int) := hf 6 (by show 6 < 13; omega) rfl
        have f7 : f 7 = .pointer (some ⟨b2, o2 + k * 4, none⟩) := hf 7 (by show 7 < 13; omega) rfl
        have f8 : f 8 = Q.v := hf 8 (by show 8 < 13; omega) rfl
        have f9 : f 9 = M.v := hf 9 (by show 9 < 13; omega) rfl
        have HS11 := Lib.hid (show (fun f W => ∃ A9 c9, f 11 = .slice A9 (k + 1) c9 ∧ W.ownsRow w.heap.size 54 4 (.slice A9 (k + 1) c9) (k + 1) (clc ((meetL p q).take k) ++ ([.int .i64 M.a, .int .i64 M.x, .int .i64 M.b, .int .i64 M.y] : List Value))) f W from hf 11 (by show 11 < 13; omega) rfl)
        have HS12 := Lib.hid (show (fun f W => ∃ A9 c9, f 12 = .slice A9 (k + 1) c9 ∧ W.ownsRow w.heap.size 54 4 (.slice A9 (k + 1) c9) (k + 1) (clc ((meetL p q).take k) ++ ([.int .i64 M.a, .int .i64 M.x, .int .i64 M.b, .int .i64 M.y] : List Value))) f W from hf 12 (by show 12 < 13; omega) rfl)
        clear hf
        refine (show ∀ (a : Act) (w : World), Code.wp _ _ _ a w → _ from by assumption) _ _ ?_
        refine Rv.fin_swap (L' := [(19, f 0), (20, f 1), (21, f 2), (22, f 3), (23, f 4), (24, f 5), (25, f 6), (26, f 7), (27, f 8), (28, f 9), (29, f 10), (30, f 11), (5, f 12)]) rfl ?_
        rw [f0, f1, f2, f3, f4, f5, f6, f7, f8, f9]
        clear f0 f1 f2 f3 f4 f5 f6 f7 f8 f9
        simp only [Rv.fin, List.foldl_cons, List.foldl_nil, Act.put, List.setIfInBounds_toArray, List.set_cons_succ, List.set_cons_zero, List.set_nil]
        obtain ⟨A9, c9, e12, h9⟩ := HS12.out
        rw [e12]
        have HO2 := Lib.hid h9
        have HB2 := Lib.hid htr
        clear e12 HS12 htr hJ h9
        go_wp2
        go_roundw
        case rel => exact ⟨k + 1, by go_num, by omega, by omega, Lib.hid (by rw [HM.out]; exact HO2.out), HB2⟩
        case measure => simp [intOf]; omega
      · obtain rfl : k = q.length := by omega
        have hm : (meetL p q).length = q.length := by rw [meetL_len]; omega
        rw [List.take_of_length_le (by omega)] at HO
        have HM := Lib.hid hm
        clear hm
        go_wp2
        go_ret
        exact ⟨_, rfl, by rw [HM.out]; exact HO.out, HB.out⟩
    · obtain rfl : k = p.length := by omega
      have hm : (meetL p q).length = p.length := by rw [meetL_len]; omega
      rw [List.take_of_length_le (by omega)] at HO
      have HM := Lib.hid hm
      clear hm
      go_wp2
      go_ret
      exact ⟨_, rfl, by rw [HM.out]; exact HO.out, HB.out⟩
end Go.Proofs.YtfnogpelaoofbaaGreatDoor.Rg

/- The reference's comparison of what ranges cover; RRRemove as the thin package has it. Conditions: those written at each lemma. -/
import Derived.Test.YtfnogpelaoofbaaGreatDoorRum
set_option linter.unusedVariables false
set_option linter.unusedSimpArgs false
set_option maxRecDepth 100000
set_option maxHeartbeats 8000000
namespace Go.Proofs.YtfnogpelaoofbaaGreatDoor.Rg
open Go.RowKit Go.Proofs.YtfnogpelaoofbaaGreatDoor.B Go.Proofs.YtfnogpelaoofbaaGreatDoor.Sp

theorem R1.slice {W : World} {v : Value} {l : List Cl} (h : R1 W v l) : v.oneCell' = true := by
  obtain ⟨A, c, rfl, _⟩ := h
  rfl
theorem r1_slices {W : World} {vs : List Value} {L : List (List Cl)} (h : All1 (R1 W) vs L) : ∀ u ∈ vs, u.oneCell' = true := by
  intro u hu
  obtain ⟨i, hi, rfl⟩ := List.mem_iff_getElem.1 hu
  exact (h.2 i hi (by rw [← h.1]; exact hi)).slice
theorem cover_any (v u : Value) (la lb : List (List Cl)) (n : Nat) (w : World) (hr : RL w v la) (hu : RL w u lb) (hp : ∀ l ∈ la, ∀ c ∈ l, Pcl c) (hq : ∀ l ∈ lb, ∀ c ∈ l, Pcl c) (hn : n ≤ 3) (hl : la.length + lb.length ≤ 100)
    (H : ∀ a : List Int, a.length = n → hasB la a = hasB lb a) :
    Calls Tryz.prog 11 #[v, u, .int .i64 (n : Int)] w fun e w' => e = .returned (.bool true) ∧ Below w.heap.size w w' := by
  have HV := Lib.hid (fun a W (h : Below w.heap.size w W) u' (hu' : Rd W 1 u' a.length (nums a)) => has_any v u' la a W (hr.below h) hu' hp)
  have HU := Lib.hid (fun a W (h : Below w.heap.size w W) u' (hu' : Rd W 1 u' a.length (nums a)) => has_any u u' lb a W (hu.below h) hu' hq)
  obtain ⟨va, A, c, e1, r1, a1⟩ := hr
  obtain ⟨vb, A2, c2, e2, r2, a2⟩ := hu
  subst e1 e2
  have R1' := Lib.hid r1
  have R2' := Lib.hid r2
  have A1' := Lib.hid a1
  have A2' := Lib.hid a2
  have HH := Lib.hid H
  have hBA : Below w.heap.size w (w.alloc (.cells #[] 22)) := (Below.refl _ _).alloc (Nat.le_refl _) _
  have HN : Hid ((w.alloc (.cells #[] 22)).ownsRow w.heap.size 22 1 (.slice (some ⟨w.heap.size, 0, none⟩) 0 0) 0 []) := Lib.hid (World.ownsRow_lit (base := w.heap.size) (e := 22) (size := 1) w #[] 0 (Nat.le_refl _) (by simp [maxLen]) rfl)
  have HBA := Lib.hid hBA
  have RA := Lib.hid (r1.below hBA)
  have AL := Lib.hid (fun W v' (h : Below w.heap.size w W) (hr : Rd W 1 v' (la.length + lb.length) (va ++ vb)) (hs : ∃ A c, v' = .slice A (la.length + lb.length) c) => all_any v' (la ++ lb) n W (by
    obtain ⟨A, c, rfl⟩ := hs
    exact ⟨va ++ vb, A, c, by rw [List.length_append], by rw [List.length_append]; exact hr, (a1.imp fun _ _ k => k.below h).app (a2.imp fun _ _ k => k.below h)⟩) (fun l hl => (List.mem_append.1 hl).elim (hp l) (hq l)) hn (by rw [List.length_append]; exact hl))
  clear r1 r2 a1 a2 H hBA hp hq
  go_enter Tryz.func11, Tryz.ntmps11
  go_wp2_with (first
    | (at_builtin; go_loud (refine appRs (w0 := w) rfl (.tmp 9) (.tmp 10) 24 rfl w.heap.size 22 (.slice none 0 0) 1 24 Tryz.underlying24 info28 rfl (by omega) (by omega) _ _ _ rfl HN.out HBA.out _ _ _ rfl RA.out (r1_slices A1'.out) (by omega) HBA.out.size ?_); intro A9 c9 w9 hown9 hb9 hg9; rw [Nat.zero_add, List.nil_append] at hown9; have HO9 := Lib.hid hown9; have HB9 := Lib.hid hb9; have RB9 := Lib.hid (R2'.out.below hb9); clear hown9 hb9 hg9)
    | (at_builtin; go_loud (refine appRs (w0 := w) rfl (.tmp 11) (.tmp 12) 24 rfl w.heap.size 22 (.slice none 0 0) 1 24 Tryz.underlying24 info28 rfl (by omega) (by omega) _ _ _ rfl HO9.out HB9.out _ _ _ rfl RB9.out (r1_slices A2'.out) (by omega) HB9.out.size ?_); intro A10 c10 w10 hown10 hb10 hg10; have HO10 := Lib.hid hown10; have HB10 := Lib.hid hb10; clear hown10 hb10 hg10)
    | (go_at_call 17; (with_reducible refine (AL.out w10 (.slice A10 (la.length + lb.length) c10) HB10.out (Rd.of_own HO10.out) ⟨A10, c10, rfl⟩).mono ?_); rintro e w3 ⟨A7, c7, vs, ats, rfl, ho7, ha7, hk7, hb7⟩; have HO7 := Lib.hid ho7; have HA7 := Lib.hid ha7; have HK7 := Lib.hid hk7; have HB7 := Lib.hid (HB10.out.trans (hb7.mono HB10.out.size)); clear ho7 ha7 hk7 hb7))
  have hvl : vs.length = ats.length := by have := HO7.out.1; omega
  have hal := (Rd.of_own HO7.out).le
  clear HO9 HB9 RB9 HO10 HB10 HN HBA RA AL
  go_loopw [8] (fun v8 wr => ∃ (i : Nat), v8 = .int .i64 i ∧ i ≤ ats.length ∧ Hid (Below w3.heap.size w3 wr)) (fun v8 _ => (ats.length - (intOf v8)).toNat)
  case atStart => exact ⟨0, rfl, Nat.zero_le _, Lib.hid (Below.refl _ _)⟩
  case round =>
    obtain ⟨i1, rfl, hi, HB⟩ := hrel
    by_cases hlt : i1 < ats.length
    · obtain ⟨b7, o7, c7', e7, _, _, hb7, hc7⟩ := (Rd.of_own HO7.out).open (by omega)
      injection e7 with e71 e72 e73
      subst e71 e73
      obtain ⟨A3, c3, e3, ho3⟩ := HA7.out.2 i1 (by omega) hlt
      have hcell := hc7 i1 _ (List.getElem?_eq_getElem (show i1 < vs.length by omega))
      rw [e3] at hcell ho3
      have R3 := Lib.hid ((Rd.of_own ho3).below HB.out)
      have HE := Lib.hid (HH.out _ (HK7.out _ (List.getElem_mem hlt)))
      have C7 := Lib.hid ((HB.out.cell (p := ⟨b7, o7 + i1, none⟩) hb7).trans hcell)
      have HBW := Lib.hid (HB7.out.trans (HB.out.mono HB7.out.size))
      clear hcell hc7 ho3 e3
      generalize ats[i1] = a0 at *
      obtain ⟨yn, hh⟩ : ∃ yn, hasB la a0 = yn := ⟨_, rfl⟩
      have CV := Lib.hid (fun W (hb : Below w.heap.size w W) hr => HV.out a0 W hb (.slice A3 a0.length c3) hr)
      have CU := Lib.hid (fun W (hb : Below w.heap.size w W) hr => HU.out a0 W hb (.slice A3 a0.length c3) hr)
      rw [hh] at CV
      rw [← HE.out, hh] at CU
      clear hh
      have hbs : (yn != yn) = false := by cases yn <;> rfl
      go_upto_region 5 with fail
      obtain ⟨X, rfl⟩ : ∃ X : World, X = wr := ⟨_, rfl⟩
      have hb7X := World.block_lt_of_cell? _ _ C7.out
      refine Rv.region_goods (n := 35) (by kernel_rfl) #[22, 23, 24, 25, 26, 27, 28, 29, 30, 31, 32, 33, 34] #[] (fun i v W => v = (#[.slice A la.length c, .slice (some ⟨b7, o7, none⟩) ats.length c7, .int .i64 (i1 : Int), .pointer (some ⟨b7, o7 + i1, none⟩), .slice A3 a0.length c3, .bool yn, .slice A2 lb.length c2, .slice (some ⟨b7, o7, none⟩) ats.length c7, .int .i64 (i1 : Int), .pointer (some ⟨b7, o7 + i1, none⟩), .slice A3 a0.length c3, .bool yn, .bool false] : Array Value).getD i undef) (fun i v w w' h hb => ?_) (fun i h g b hg => ?_) rfl (by kernel_rfl) (by kernel_rfl) (fun i h hr w => ?_) ?_ ?_
      · exact h
      · match i, h, hg with
        | 0, _, hg => cases hg
        | 1, _, hg => cases hg
        | 2, _, hg => cases hg
        | 3, _, hg => cases hg
        | 4, _, hg => cases hg
        | 5, _, hg => cases hg
        | 6, _, hg => cases hg
        | 7, _, hg => cases hg
        | 8, _, hg => cases hg
        | 9, _, hg => cases hg
        | 10, _, hg => cases hg
        | 11, _, hg => cases hg
        | 12, _, hg => cases hg
        | m + 13, h, _ => exact absurd h (by show ¬ m + 13 < 13; omega)
      · match i, h, hr with
        | 0, _, hr => exact Bool.noConfusion (show true = false from hr)
        | 1, _, hr => exact Bool.noConfusion (show true = false from hr)
        | 2, _, hr => exact Bool.noConfusion (show true = false from hr)
        | 3, _, hr => exact Bool.noConfusion (show true = false from hr)
        | 4, _, hr => exact Bool.noConfusion (show true = false from hr)
        | 5, _, hr => exact Bool.noConfusion (show true = false from hr)
        | 6, _, hr => exact Bool.noConfusion (show true = false from hr)
        | 7, _, hr => exact Bool.noConfusion (show true = false from hr)
        | 8, _, hr => exact Bool.noConfusion (show true = false from hr)
        | 9, _, hr => exact Bool.noConfusion (show true = false from hr)
        | 10, _, hr => exact Bool.noConfusion (show true = false from hr)
        | 11, _, hr => exact Bool.noConfusion (show true = false from hr)
        | 12, _, hr => exact Bool.noConfusion (show true = false from hr)
        | m + 13, h, _ => exact absurd h (by show ¬ m + 13 < 13; omega)
      · intro i h a W hrun hbase hpre hdep htr
        have q0 := (htr.cell (p := ⟨b7, o7 + i1, none⟩) hb7X).trans C7.out
        match i, h with
        | 0, _ =>
          obtain ⟨e0, x0⟩ := Rv.ev (show a.tmps.getD 0 undef = .slice A la.length c from hbase 0 rfl)
          exact Rv.step_op (op := Go.Op.move (Go.Operand.tmp 0)) (v := .slice A la.length c) (w1 := W) rfl rfl (fun d pos aft g => by unfold execOp; go_simp) ⟨_, rfl, rfl, Below.refl _ _⟩
        | 1, _ =>
          obtain ⟨e7, x7⟩ := Rv.ev (show a.tmps.getD 7 undef = .slice (some ⟨b7, o7, none⟩) ats.length c7 from hbase 7 rfl)
          exact Rv.step_op (op := Go.Op.move (Go.Operand.tmp 7)) (v := .slice (some ⟨b7, o7, none⟩) ats.length c7) (w1 := W) rfl rfl (fun d pos aft g => by unfold execOp; go_simp) ⟨_, rfl, rfl, Below.refl _ _⟩
        | 2, _ =>
          obtain ⟨e8, x8⟩ := Rv.ev (show a.tmps.getD 8 undef = .int .i64 (i1 : Int) from hbase 8 rfl)
          exact Rv.step_op (op := Go.Op.move (Go.Operand.tmp 8)) (v := .int .i64 (i1 : Int)) (w1 := W) rfl rfl (fun d pos aft g => by unfold execOp; go_simp) ⟨_, rfl, rfl, Below.refl _ _⟩
        | 3, _ =>
          obtain ⟨e23, x23⟩ := Rv.ev (show a.tmps.getD 23 undef = .slice (some ⟨b7, o7, none⟩) ats.length c7 from hdep 1 rfl)
          obtain ⟨e24, x24⟩ := Rv.ev (show a.tmps.getD 24 undef = .int .i64 (i1 : Int) from hdep 2 rfl)
          exact Rv.step_op (op := Go.Op.indexAddr 38 (Go.Operand.tmp 23) (Go.Operand.tmp 24)) (v := .pointer (some ⟨b7, o7 + i1, none⟩)) (w1 := W) rfl rfl (fun d pos aft g => by unfold execOp; go_simp) ⟨_, rfl, rfl, Below.refl _ _⟩
        | 4, _ =>
          obtain ⟨e25, x25⟩ := Rv.ev (show a.tmps.getD 25 undef = .pointer (some ⟨b7, o7 + i1, none⟩) from hdep 3 rfl)
          exact Rv.step_op (op := Go.Op.load 41 (Go.Operand.tmp 25)) (v := .slice A3 a0.length c3) (w1 := W) rfl rfl (fun d pos aft g => by unfold execOp; go_simp) ⟨_, rfl, rfl, Below.refl _ _⟩
        | 5, _ =>
          obtain ⟨e22, x22⟩ := Rv.ev (show a.tmps.getD 22 undef = .slice A la.length c from hdep 0 rfl)
          obtain ⟨e26, x26⟩ := Rv.ev (show a.tmps.getD 26 undef = .slice A3 a0.length c3 from hdep 4 rfl)
          have cf : ∀ x0 x1 W, (callFunc 18 #[x0, x1]).run Tryz.prog W = .ok (.enter 18 #[x0, x1]) W := fun _ _ _ => by kernel_rfl
          refine Rv.step_fn (op := Go.Op.call { callee := Go.Callee.value (Go.Operand.func 18), args := #[Go.Operand.tmp 22, Go.Operand.tmp 26], argTypes := #[24, 41] }) (f := 18) (args := #[.slice A la.length c, .slice A3 a0.length c3]) (R := fun v W' => v = .bool yn ∧ Below W.heap.size W W') rfl rfl (fun d pos aft g => by unfold execOp; go_simp) ((CV.out W (HBW.out.trans (htr.mono HBW.out.size)) (R3.out.below htr)).mono ?_) ?_
          · (rintro e W' ⟨rfl, hb⟩; exact ⟨_, rfl, rfl, hb⟩)
          · (rintro v W' ⟨rfl, hb⟩; exact ⟨_, rfl, rfl, hb⟩)
        | 6, _ =>
          obtain ⟨e1, x1⟩ := Rv.ev (show a.tmps.getD 1 undef = .slice A2 lb.length c2 from hbase 1 rfl)
          exact Rv.step_op (op := Go.Op.move (Go.Operand.tmp 1)) (v := .slice A2 lb.length c2) (w1 := W) rfl rfl (fun d pos aft g => by unfold execOp; go_simp) ⟨_, rfl, rfl, Below.refl _ _⟩
        | 7, _ =>
          obtain ⟨e7, x7⟩ := Rv.ev (show a.tmps.getD 7 undef = .slice (some ⟨b7, o7, none⟩) ats.length c7 from hbase 7 rfl)
          exact Rv.step_op (op := Go.Op.move (Go.Operand.tmp 7)) (v := .slice (some ⟨b7, o7, none⟩) ats.length c7) (w1 := W) rfl rfl (fun d pos aft g => by unfold execOp; go_simp) ⟨_, rfl, rfl, Below.refl _ _⟩
        | 8, _ =>
          obtain ⟨e8, x8⟩ := Rv.ev (show a.tmps.getD 8 undef = .int .i64 (i1 : Int) from hbase 8 rfl)
          exact Rv.step_op (op := Go.Op.move (Go.Operand.tmp 8)) (v := .int .i64 (i1 : Int)) (w1 := W) rfl rfl (fun d pos aft g => by unfold execOp; go_simp) ⟨_, rfl, rfl, Below.refl _ _⟩
        | 9, _ =>
          obtain ⟨e29, x29⟩ := Rv.ev (show a.tmps.getD 29 undef = .slice (some ⟨b7, o7, none⟩) ats.length c7 from hdep 7 rfl)
          obtain ⟨e30, x30⟩ := Rv.ev (show a.tmps.getD 30 undef = .int .i64 (i1 : Int) from hdep 8 rfl)
          exact Rv.step_op (op := Go.Op.indexAddr 38 (Go.Operand.tmp 29) (Go.Operand.tmp 30)) (v := .pointer (some ⟨b7, o7 + i1, none⟩)) (w1 := W) rfl rfl (fun d pos aft g => by unfold execOp; go_simp) ⟨_, rfl, rfl, Below.refl _ _⟩
        | 10, _ =>
          obtain ⟨e31, x31⟩ := Rv.ev (show a.tmps.getD 31 undef = .pointer (some ⟨b7, o7 + i1, none⟩) from hdep 9 rfl)
          exact Rv.step_op (op := Go.Op.load 41 (Go.Operand.tmp 31)) (v := .slice A3 a0.length c3) (w1 := W) rfl rfl (fun d pos aft g => by unfold execOp; go_simp) ⟨_, rfl, rfl, Below.refl _ _⟩
        | 11, _ =>
          obtain ⟨e28, x28⟩ := Rv.ev (show a.tmps.getD 28 undef = .slice A2 lb.length c2 from hdep 6 rfl)
          obtain ⟨e32, x32⟩ := Rv.ev (show a.tmps.getD 32 undef = .slice A3 a0.length c3 from hdep 10 rfl)
          have cf : ∀ x0 x1 W, (callFunc 18 #[x0, x1]).run Tryz.prog W = .ok (.enter 18 #[x0, x1]) W := fun _ _ _ => by kernel_rfl
          refine Rv.step_fn (op := Go.Op.call { callee := Go.Callee.value (Go.Operand.func 18), args := #[Go.Operand.tmp 28, Go.Operand.tmp 32], argTypes := #[24, 41] }) (f := 18) (args := #[.slice A2 lb.length c2, .slice A3 a0.length c3]) (R := fun v W' => v = .bool yn ∧ Below W.heap.size W W') rfl rfl (fun d pos aft g => by unfold execOp; go_simp) ((CU.out W (HBW.out.trans (htr.mono HBW.out.size)) (R3.out.below htr)).mono ?_) ?_
          · (rintro e W' ⟨rfl, hb⟩; exact ⟨_, rfl, rfl, hb⟩)
          · (rintro v W' ⟨rfl, hb⟩; exact ⟨_, rfl, rfl, hb⟩)
        | 12, _ =>
          obtain ⟨e27, x27⟩ := Rv.ev (show a.tmps.getD 27 undef = .bool yn from hdep 5 rfl)
          obtain ⟨e33, x33⟩ := Rv.ev (show a.tmps.getD 33 undef = .bool yn from hdep 11 rfl)
          exact Rv.step_op (op := Go.Op.binOp Go.BinOp.neq 4 (Go.Operand.tmp 27) (Go.Operand.tmp 33) 4) (v := .bool false) (w1 := W) rfl rfl (fun d pos aft g => by unfold execOp; go_simp) ⟨_, rfl, rfl, Below.refl _ _⟩
        | m + 13, h => exact absurd h (by show ¬ m + 13 < 13; omega)
      intro W f hf htr
      have f0 : f 0 = .slice A la.length c := hf 0 (by show 0 < 13; omega)
      have f1 : f 1 = .slice (some ⟨b7, o7, none⟩) ats.length c7 := hf 1 (by show 1 < 13; omega)
      have f2 : f 2 = .int .i64 (i1 : Int) := hf 2 (by show 2 < 13; omega)
      have f3 : f 3 = .pointer (some ⟨b7, o7 + i1, none⟩) := hf 3 (by show 3 < 13; omega)
      have f4 : f 4 = .slice A3 a0.length c3 := hf 4 (by show 4 < 13; omega)
      have f5 : f 5 = .bool yn := hf 5 (by show 5 < 13; omega)
      have f6 : f 6 = .slice A2 lb.length c2 := hf 6 (by show 6 < 13; omega)
      have f7 : f 7 = .slice (some ⟨b7, o7, none⟩) ats.length c7 := hf 7 (by show 7 < 13; omega)
      have f8 : f 8 = .int .i64 (i1 : Int) := hf 8 (by show 8 < 13; omega)
      have f9 : f 9 = .pointer (some ⟨b7, o7 + i1, none⟩) := hf 9 (by show 9 < 13; omega)
      have f10 : f 10 = .slice A3 a0.length c3 := hf 10 (by show 10 < 13; omega)
      have f11 : f 11 = .bool yn := hf 11 (by show 11 < 13; omega)
      have f12 : f 12 = .bool false := hf 12 (by show 12 < 13; omega)
      refine (show ∀ (a : Act) (w : World), Code.wp _ _ _ a w → _ from by assumption) _ _ ?_
      refine Rv.fin_swap (L' := [(22, f 0), (23, f 1), (24, f 2), (25, f 3), (26, f 4), (27, f 5), (28, f 6), (29, f 7), (30, f 8), (31, f 9), (32, f 10), (33, f 11), (34, f 12)]) rfl ?_
      rw [f0, f1, f2, f3, f4, f5, f6, f7, f8, f9, f10, f11, f12]
      clear f0 f1 f2 f3 f4 f5 f6 f7 f8 f9 f10 f11 f12
      simp only [Rv.fin, List.foldl_cons, List.foldl_nil, Act.put, List.setIfInBounds_toArray, List.set_cons_succ, List.set_cons_zero]
      have HB2 := Lib.hid (HB.out.trans (htr.mono HB.out.size))
      clear htr hf
      go_wp2
      go_roundw
      case rel => exact ⟨i1 + 1, by go_num, by omega, HB2⟩
      case measure => simp [intOf]; omega
    · obtain rfl : i1 = ats.length := by omega
      go_wp2
      go_ret
      exact ⟨rfl, HB7.out.trans (HB.out.mono HB7.out.size)⟩

theorem turned_rows (B : Nat) (v : Value) (L : List (List Cl)) (w : World) (hr : EL w B v L) (hp : ∀ l ∈ L, ∀ c ∈ l, Pcl c) (hl : L.length ≤ 100000) (hl2 : ∀ l ∈ L, l.length ≤ 1000) :
    Calls Tryz.prog 27 #[v, .func (.func 28) #[] #[]] w fun e w' => ∃ u, e = .returned u ∧ OL w' w.heap.size u L ∧ Below w.heap.size w w' := by
  obtain ⟨vs, h1, h2⟩ := hr
  have hvl : vs.length = L.length := by have := h1.1; omega
  obtain ⟨A, c, rfl, _⟩ := (Rd.of_own h1).shape
  have HR := Lib.hid (Rd.of_own h1)
  have HA0 := Lib.hid h2
  have HP := Lib.hid hp
  have HL2 := Lib.hid hl2
  clear h1 h2 hp hl2
  go_enter Tryz.func27, Tryz.ntmps27
  go_wp2
  go_loopw [5, 10] (fun v5 v10 wr => ∃ (k : Nat) (us : List Value), v10 = .int .i64 k ∧ k ≤ L.length ∧ Hid (wr.ownsRow w.heap.size 22 1 v5 k us) ∧ Hid (All1 (O1 wr w.heap.size) us (L.take k)) ∧ Hid (Below w.heap.size w wr)) (fun _ v10 _ => (L.length - (intOf v10)).toNat)
  case atStart => exact ⟨0, [], rfl, Nat.zero_le _, Lib.hid (World.ownsRow_nil _ _ _ _), Lib.hid (All1.nil _), Lib.hid (Below.refl _ _)⟩
  case round =>
    obtain ⟨k, us, rfl, hk, HO, HA, HB⟩ := hrel
    have hbs := HB.out.size
    by_cases hlt : k < L.length
    · obtain ⟨b, o, c', e, _, _, hb, hc⟩ := HR.out.open (by omega)
      injection e with e1 e2 e3
      subst e1 e3
      obtain ⟨A3, c3, e3, ho3⟩ := HA0.out.2 k (by omega) hlt
      have hcell := hc k _ (List.getElem?_eq_getElem (show k < vs.length by omega))
      rw [e3] at hcell ho3
      have hcw := (HB.out.cell (p := ⟨b, o + k, none⟩) hb).trans hcell
      have R3 := Lib.hid ((Rd.of_own ho3).below HB.out)
      have HM := Lib.hid (take_snocA L k hlt)
      have PM := Lib.hid (HP.out _ (List.getElem_mem hlt))
      have hml := HL2.out _ (List.getElem_mem hlt)
      clear hcell hc ho3 e3
      generalize L[k] = M at *
      go_wp2_with (first
        | (go_at_call 28; (with_reducible refine (cols_any _ M _ R3.out PM.out (by omega)).mono ?_); rintro e w4 ⟨u4, rfl, ho4, hb4⟩; obtain ⟨A4, c4, e4, O4'⟩ := O1.of (ho4.mono hbs); subst e4; have O4 := Lib.hid (show O1 w4 w.heap.size (.slice A4 M.length c4) M from ⟨A4, c4, rfl, O4'⟩); have HO4 := Lib.hid (own_below HO.out hb4); have HA4 := Lib.hid (HA.out.imp fun _ _ h => h.below hb4); have HB4 := Lib.hid (HB.out.trans (hb4.mono hbs)); clear ho4 hb4 O4')
        | (at_builtin; go_loud (refine app1 (w0 := w) w.heap.size rfl (.tmp 14) (.tmp 18) 24 22 (.slice none 0 0) 1 24 rfl Tryz.underlying24 info28 rfl (by omega) (by omega) u5 _ _ _ rfl rfl rfl (one1 rfl) HO4.out HB4.out HB4.out.size (by omega) ?_); intro v5 w5 hown5 hb5 hg5 _; have HO5 := Lib.hid hown5; have HB5 := Lib.hid hb5; have HG5 := Lib.hid hg5; clear hown5 hb5 hg5))
      go_roundw
      case rel => exact ⟨k + 1, us ++ [.slice A4 M.length c4], by go_num, by omega, Lib.hid HO5.out, Lib.hid (by rw [HM.out]; exact (HA4.out.push O4.out).imp fun _ _ h => h.grown HO4.out HG5.out), HB5⟩
      case measure => simp [intOf]; omega
    · obtain rfl : k = L.length := by omega
      rw [List.take_length] at HA
      go_wp2
      go_ret
      exact ⟨_, rfl, ⟨us, HO.out, HA.out⟩, HB.out⟩
theorem exprs_own (v : Value) (cs : List Cl) (w : World) (hr : Rd w 4 v cs.length (clc cs)) (hp : ∀ c ∈ cs, Pcl c) (hl : cs.length ≤ 100000) :
    Calls Tryz.prog 25 #[v] w fun e w' => ∃ u, e = .returned u ∧ w'.ownsRow 0 92 3 u cs.length (exs cs) ∧ Below w.heap.size w w' := by
  have T := Lib.hid (turned_exs v cs w hr hp hl)
  clear hr hp
  go_enter Tryz.func25, Tryz.ntmps25
  go_wp2_with (go_at_call 46; (with_reducible refine T.out.mono ?_); rintro e w1 ⟨v', rfl, ho, hb⟩; have HO := Lib.hid (ho.mono (Nat.zero_le _)); have HB := Lib.hid hb; clear ho hb)
  go_ret
  exact ⟨v', rfl, HO.out, HB.out⟩
theorem OL.keep {W W1 : World} {B : Nat} {v : Value} {ls : List (List Cl)} {r : Option Nat} (h : OL W B v ls) (hr : ∀ k, r = some k → k < B) (hg : W.grownBy W1 r) : OL W1 B v ls := by
  obtain ⟨vs, h1, h2⟩ := h
  refine ⟨vs, own_grown_lt h1 hr hg, h2.imp fun v l h => ?_⟩
  obtain ⟨A, c, e, ho⟩ := h
  exact ⟨A, c, e, own_grown_lt ho hr hg⟩
theorem rrremove_any (v u : Value) (p q : List Cl) (n : Nat) (w : World) (hr : Rd w 4 v p.length (clc p)) (hu : Rd w 4 u q.length (clc q)) (h : Two p q n) (h0 : 0 < n) (hl : n ≤ 1000) :
    Calls Tryz.prog 7 #[v, u] w fun e w' => ∃ r b L, e = .returned (.tuple #[r, .bool b, .bool true]) ∧ RO p q L b ∧ OL w' w.heap.size r L ∧ Below w.heap.size w w' := by
  have PA : Hid (∀ c ∈ p, Pcl c) := Lib.hid (fun c hc => ful_pcl (h.2.2.1 c hc))
  have PB : Hid (∀ c ∈ q, Pcl c) := Lib.hid (fun c hc => ful_pcl (h.2.2.2 c hc))
  have hA : Below w.heap.size w (w.alloc (fb false)) := (Below.refl _ _).alloc (Nat.le_refl _) _
  have HR0 := Lib.hid (hr.below hA)
  have HU0 := Lib.hid (hu.below hA)
  have HA := Lib.hid hA
  have H0 := Lib.hid (heap_alloc_new w (fb false))
  have hlp : p.length ≤ 100000 := by have := h.1; omega
  have hlq : q.length ≤ 100000 := by have := h.2.1; omega
  have HT := Lib.hid h
  have RM := Lib.hid (fun v u W h1 h2 => remove_any n v u p q n 0 W h1 h2 h h0 hl (by omega) (fun j hj => absurd hj (Nat.not_lt_zero j)))
  clear hr hu hA h
  go_enter_defers Tryz.func7, Tryz.ntmps7
  go_wp2_with (first
    | (go_at_call 25; (with_reducible refine (exprs_own v p _ HR0.out PA.out hlp).mono ?_); rintro e w1 ⟨u1, rfl, hr1, hb1⟩; have R1' := Lib.hid hr1; have U1 := Lib.hid (HU0.out.below hb1); have B1 := Lib.hid (HA.out.trans (hb1.mono HA.out.size)); have H1 := Lib.hid (blk_keep H0.out hb1); clear hr1 hb1)
    | (go_at_call 25; (with_reducible refine (exprs_own u q _ U1.out PB.out hlq).mono ?_); rintro e w2 ⟨u2, rfl, hr2, hb2⟩; have R2' := Lib.hid (own_below R1'.out hb2); have U2 := Lib.hid hr2; have B2 := Lib.hid (B1.out.trans (hb2.mono B1.out.size)); have H2 := Lib.hid (blk_keep H1.out hb2); clear hr2 hb2)
    | (go_at_call 26; (with_reducible refine (RM.out u1 u2 _ R2'.out U2.out).mono ?_); rintro e w3 ⟨r3, b3, L, rfl, hro, hel, hb3⟩; have HRO := Lib.hid hro; have HEL := Lib.hid hel; have B3 := Lib.hid (B2.out.trans (hb3.mono B2.out.size)); have H3 := Lib.hid (blk_keep H2.out hb3); have HML := Lib.hid (ro_ful hro HT.out); have hLl : L.length ≤ 100000 := (by have h3 := ro_len hro 0 (Nat.zero_le _) (fun j hj => absurd hj (Nat.not_lt_zero j)) (HT.out.1.trans HT.out.2.1.symm); have := HT.out.1; omega); clear hro hel hb3)
    | (go_at_call 27; (with_reducible refine (turned_rows _ r3 L _ HEL.out (fun l hl c hc => ful_pcl ((HML.out l hl).2 c hc)) hLl (fun l hl => by rw [(HML.out l hl).1]; omega)).mono ?_); rintro e w4 ⟨v4, rfl, ho4, hb4⟩; have O4 := Lib.hid ho4; have B4 := Lib.hid (B3.out.trans (hb4.mono B3.out.size)); have H4 := Lib.hid (blk_keep H3.out hb4); have hz := Rv.lt_of_blk H3.out; have s0 := Rv.cells1 H4.out; have t0 := Rv.frozen1 H4.out; clear ho4 hb4))
  have HF := Lib.hid (fun u => O4.out.keep (r := some w.heap.size) (fun k hk => by injection hk with hk; omega) (grown_set (Below.refl _ w4) w.heap.size 0 u))
  have hzz : w.heap.size ≤ w3.heap.size := by omega
  refine leaves_cons (f := 24) (args := #[.pointer (some ⟨w.heap.size, 0, none⟩)]) (by simp) (by simp [go_sem]) ?_
  refine (caught_idle ⟨w.heap.size, 0, none⟩ _).mono ?_
  rintro e u' w'' ⟨rfl, rfl, rfl⟩
  have q4 : (w4.setCell ⟨w.heap.size, 0, none⟩ (.bool true)).cell? ⟨w.heap.size, 0, none⟩ = some (.bool true) := by go_simp
  have BF := Lib.hid (Rv.belows1 B4.out (Nat.le_refl _) (.bool true))
  have RF := Lib.hid (HF.out (.bool true))
  simp [Leaves, settle, results, go_sem, q4]
  refine ⟨v4, ?_⟩
  cases b3
  · exact .inl ⟨⟨rfl, rfl⟩, L, HRO.out, RF.out.mono hzz, BF.out⟩
  · exact .inr ⟨⟨rfl, rfl⟩, L, HRO.out, RF.out.mono hzz, BF.out⟩
end Go.Proofs.YtfnogpelaoofbaaGreatDoor.Rg

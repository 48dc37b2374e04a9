/- The law FnGEEnds, walked. Conditions: those written at each lemma. -/
import Derived.Test.YtfelbaibbanllaaGei
import Derived.Test.YtfelbaibbanllaaGeg
import Derived.IntWalk
set_option linter.unusedVariables false
set_option linter.unusedSimpArgs false
set_option maxRecDepth 100000
set_option maxHeartbeats 8000000
namespace Go.Proofs.Ytfelbaibbanllaa.Ge
open Go.RowKit Go.Proofs.Ytfelbaibbanllaa.B
attribute [local go_sem] run_store_float

theorem geEnd_any (A : Option Addr) (c m : Nat) (l : List (Nat × Nat)) (w : World) (hr : Rd w 2 (.slice A (m + 1) c) (m + 1) (pc l)) (hlm : l.length = m + 1) (hl : m + 1 ≤ 100000) :
    Calls Try.prog 15 #[.slice A (m + 1) c] w fun e w' => e = .returned (ptV (l[m]'(by omega))) ∧ Below w.heap.size w w' := by
  have hX := Lib.hid ((Below.refl w.heap.size w).alloc (Nat.le_refl _) (.cells #[.float .f64 0, .float .f64 0] 28))
  have hN := Lib.hid (heap_alloc_new w (.cells #[.float .f64 0, .float .f64 0] 28))
  have L := Lib.hid (line_any A c l (w.alloc (.cells #[.float .f64 0, .float .f64 0] 28)) (by rw [hlm]; exact hr.below hX.out) (by omega))
  have hs1 : w.heap.size < (w.alloc (.cells #[.float .f64 0, .float .f64 0] 28)).heap.size := by simp
  have S := Lib.hid (fun W A2 c2 (h : Rd W 3 (.slice A2 (m + 1) c2) (m + 1) (qc l)) => endOf_any A2 (m + 1) c2 (l[m]'(by omega)) W fun W2 hW => end_any A2 c2 m l W2 (h.below hW) hlm)
  generalize l[m]'(by omega) = p at *
  have PT := Lib.hid (fun W => ptOf_any p W)
  have hne : (((m : Int) + 1) == 0) = false := by simp; omega
  unfold Line at L
  rw [hlm] at L
  obtain ⟨x, y⟩ := p
  clear hr hl hlm
  go_enter Try.func15, Try.ntmps15
  go_wp2_with (first
    | (go_at_call 35; go_loud (with_reducible refine L.out.mono ?_); rintro e w2 ⟨A2, c2, rfl, ho, hb⟩; have HO := Lib.hid (Rd.of_own ho); have HB := Lib.hid hb; clear ho hb)
    | (go_at_call 38; go_loud (with_reducible refine (S.out _ _ _ HO.out).mono ?_); rintro e w3 ⟨rfl, hb⟩; have HB3 := Lib.hid (HB.out.trans (hb.mono HB.out.size)); clear hb)
    | (go_at_call 36; go_loud (with_reducible refine (PT.out _).mono ?_); rintro e w4 ⟨rfl, hb⟩; have HB4 := Lib.hid (HB3.out.trans (hb.mono HB3.out.size)); obtain ⟨d0, d1, d2, d3⟩ := cells_two ((HB4.out.block _ hs1).trans hN.out); clear hb))
  refine bodyPost_ret (v := ptV (x, y)) ?_ rfl ⟨rfl, ?_⟩
  · simp only [results, show Try.f15.results = #[.cell 2 28] by kernel_rfl]
    go_simp
  · exact ((hX.out.trans (HB4.out.mono hX.out.size)).setCell (Nat.le_refl _) _).setCell (Nat.le_refl _) _
theorem eql28s (p q : Nat × Nat) (b : Bool) (h : peq p q = b) (W : World) : (binOp .eql 28 (ptV p) (ptV q)).run Try.prog W = .ok (.bool b) W := by rw [eql28, h]
theorem rd_at {W : World} {A : Option Addr} {n c : Nat} {l : List (Nat × Nat)} (h : Rd W 2 (.slice A n c) n (pc l)) (hl : l.length = n) (h0 : 0 < n) : ∃ b o, A = some ⟨b, o, none⟩ ∧ b < W.heap.size ∧ ∀ i (hi : i < l.length), ∀ W', Below W.heap.size W W' → W'.cell? ⟨b, o + i * 2, none⟩ = some (.float .f64 l[i].1) ∧ W'.cell? ⟨b, o + i * 2 + 1, none⟩ = some (.float .f64 l[i].2) := by
  obtain ⟨b, o, rfl, hb, _⟩ := pc_at h 0 (by omega)
  refine ⟨b, o, rfl, hb, fun i hi W' hW => ?_⟩
  obtain ⟨b', o', e, _, h1, h2⟩ := pc_at h i hi
  injection e with e
  injection e with e1 e2
  subst e1; subst e2
  exact ⟨(hW.cell (p := ⟨b, o + i * 2, none⟩) hb).trans h1, (hW.cell (p := ⟨b, o + i * 2 + 1, none⟩) hb).trans h2⟩

theorem spec_any (A : Option Addr) (c m : Nat) (l : List (Nat × Nat)) (w : World) (hr : Rd w 2 (.slice A (m + 1) c) (m + 1) (pc l)) (hl : l.length = m + 1) :
    Calls Try.prog 18 #[.slice A (m + 1) c] w fun e w' => e = .returned (.bool (decide (4 ≤ m + 1) && peq (l[0]'(by omega)) (l[m]'(by omega)))) ∧ Below w.heap.size w w' := by
  obtain ⟨b, o, rfl, hb, hc⟩ := rd_at hr hl (by omega)
  have hmx := hr.le
  have C0 := Lib.hid (hc 0 (by omega))
  have CM := Lib.hid (hc m (by omega))
  rw [Nat.zero_mul, Nat.add_zero] at C0
  clear hr hc
  generalize l[0]'(by omega) = p at *
  generalize l[m]'(by omega) = q at *
  clear hl
  have NQ := Lib.hid (fun W => eql28s p q _ rfl W)
  generalize peq p q = B at *
  obtain ⟨x, y⟩ := p
  obtain ⟨x2, y2⟩ := q
  by_cases h4 : 4 ≤ m + 1
  · rw [decide_eq_true h4, Bool.true_and]
    have H4 := Lib.hid (show decide ((4 : Int) ≤ (m : Int) + 1) = true from decide_eq_true (by omega))
    clear h4
    go_enter Try.func18, Try.ntmps18
    go_upto_region 1 with fail
    refine Rv.region_goods (n := 18) (by kernel_rfl) #[3, 4, 5, 6, 7, 8, 9, 10, 11, 12, 13, 14, 15, 16, 17, 2] #[none, none, none, some true] (fun i v W => v = (#[.slice (some ⟨b, o, none⟩) (m + 1) c, .int .i64 ((m : Int) + 1), .bool true, .bool true, .slice (some ⟨b, o, none⟩) (m + 1) c, .pointer (some ⟨b, o, none⟩), ptV (x, y), .slice (some ⟨b, o, none⟩) (m + 1) c, .slice (some ⟨b, o, none⟩) (m + 1) c, .int .i64 ((m : Int) + 1), .int .i64 (m : Int), .pointer (some ⟨b, o + m * 2, none⟩), ptV (x2, y2), .bool B, .bool B, .bool B] : Array Value).getD i undef) (fun i v w w' h hb => ?_) (fun i h g b hg => ?_) rfl (by kernel_rfl) (by kernel_rfl) (fun i h hr w => ?_) ?_ ?_
    · exact h
    · match i, h, hg with
      | 0, _, hg => cases hg
      | 1, _, hg => cases hg
      | 2, _, hg => cases hg
      | 3, _, hg => cases hg
      | 4, _, hg => (cases hg; exact fun v w e => e)
      | 5, _, hg => (cases hg; exact fun v w e => e)
      | 6, _, hg => (cases hg; exact fun v w e => e)
      | 7, _, hg => (cases hg; exact fun v w e => e)
      | 8, _, hg => (cases hg; exact fun v w e => e)
      | 9, _, hg => (cases hg; exact fun v w e => e)
      | 10, _, hg => (cases hg; exact fun v w e => e)
      | 11, _, hg => (cases hg; exact fun v w e => e)
      | 12, _, hg => (cases hg; exact fun v w e => e)
      | 13, _, hg => (cases hg; exact fun v w e => e)
      | 14, _, hg => cases hg
      | 15, _, hg => cases hg
      | m + 16, h, _ => exact absurd h (by show ¬ m + 16 < 16; omega)
    · match i, h, hr with
      | 0, _, hr => exact Bool.noConfusion (show true = false from hr)
      | 1, _, hr => exact Bool.noConfusion (show true = false from hr)
      | 2, _, hr => exact Bool.noConfusion (show true = false from hr)
      | 3, _, hr => exact Bool.noConfusion (show true = false from hr)
      | 4, _, hr => exact Bool.noConfusion (show true = false from hr)
      | 5, _, hr => exact Bool.noConfusion (show true = false from hr)
      | 6, _, hr => exact Bool.noConfusion (show true = false from hr)
      | 7, _, hr => exact Bool.noConfusion (show true = false from hr)
      | 8, _, hr => exact Bool.noConfusion (show true = false from hr)
      | 9, _, hr => exact Bool.noConfusion (show true = false from hr)
      | 10, _, hr => exact Bool.noConfusion (show true = false from hr)
      | 11, _, hr => exact Bool.noConfusion (show true = false from hr)
      | 12, _, hr => exact Bool.noConfusion (show true = false from hr)
      | 13, _, hr => exact Bool.noConfusion (show true = false from hr)
      | 14, _, hr => exact Bool.noConfusion (show true = false from hr)
      | 15, _, hr => exact Bool.noConfusion (show true = false from hr)
      | m + 16, h, _ => exact absurd h (by show ¬ m + 16 < 16; omega)
    · intro i h a W hrun hbase hpre hdep htr
      obtain ⟨k0, k1⟩ := C0.out W htr
      obtain ⟨k2, k3⟩ := CM.out W htr
      match i, h with
      | 0, _ =>
        obtain ⟨e0, x0⟩ := Rv.ev (show a.tmps.getD 0 undef = .slice (some ⟨b, o, none⟩) (m + 1) c from hbase 0 rfl)
        exact Rv.step_op (op := Go.Op.move (Go.Operand.tmp 0)) (v := .slice (some ⟨b, o, none⟩) (m + 1) c) (w1 := W) rfl rfl (fun d pos aft g => by unfold execOp; go_simp) ⟨_, rfl, rfl, Below.refl _ _⟩
      | 1, _ =>
        obtain ⟨e3, x3⟩ := Rv.ev (show a.tmps.getD 3 undef = .slice (some ⟨b, o, none⟩) (m + 1) c from hdep 0 rfl)
        exact Rv.step_op (op := Go.Op.call { callee := Go.Callee.builtin Go.Builtin.len, args := #[Go.Operand.tmp 3], argTypes := #[22] }) (v := .int .i64 ((m : Int) + 1)) (w1 := W) rfl rfl (fun d pos aft g => by unfold execOp; go_simp) ⟨_, rfl, rfl, Below.refl _ _⟩
      | 2, _ =>
        obtain ⟨e4, x4⟩ := Rv.ev (show a.tmps.getD 4 undef = .int .i64 ((m : Int) + 1) from hdep 1 rfl)
        have h4 := H4.out
        exact Rv.step_op (op := Go.Op.binOp Go.BinOp.geq 3 (Go.Operand.tmp 4) (Go.Operand.const (Go.Value.int Go.IntKind.i64 4)) 3) (v := .bool true) (w1 := W) rfl rfl (fun d pos aft g => by unfold execOp; go_simp) ⟨_, rfl, rfl, Below.refl _ _⟩
      | 3, _ =>
        obtain ⟨e5, x5⟩ := Rv.ev (show a.tmps.getD 5 undef = .bool true from hdep 2 rfl)
        exact Rv.step_op (op := Go.Op.move (Go.Operand.tmp 5)) (v := .bool true) (w1 := W) rfl rfl (fun d pos aft g => by unfold execOp; go_simp) ⟨_, rfl, rfl, Below.refl _ _⟩
      | 4, _ =>
        obtain ⟨e0, x0⟩ := Rv.ev (show a.tmps.getD 0 undef = .slice (some ⟨b, o, none⟩) (m + 1) c from hbase 0 rfl)
        exact Rv.step_op (op := Go.Op.move (Go.Operand.tmp 0)) (v := .slice (some ⟨b, o, none⟩) (m + 1) c) (w1 := W) rfl rfl (fun d pos aft g => by unfold execOp; go_simp) ⟨_, rfl, rfl, Below.refl _ _⟩
      | 5, _ =>
        obtain ⟨e7, x7⟩ := Rv.ev (show a.tmps.getD 7 undef = .slice (some ⟨b, o, none⟩) (m + 1) c from hdep 4 rfl)
        exact Rv.step_op (op := Go.Op.indexAddr 22 (Go.Operand.tmp 7) (Go.Operand.const (Go.Value.int Go.IntKind.i64 0))) (v := .pointer (some ⟨b, o, none⟩)) (w1 := W) rfl rfl (fun d pos aft g => by unfold execOp; go_simp) ⟨_, rfl, rfl, Below.refl _ _⟩
      | 6, _ =>
        obtain ⟨e8, x8⟩ := Rv.ev (show a.tmps.getD 8 undef = .pointer (some ⟨b, o, none⟩) from hdep 5 rfl)
        exact Rv.step_op (op := Go.Op.load 28 (Go.Operand.tmp 8)) (v := ptV (x, y)) (w1 := W) rfl rfl (fun d pos aft g => by unfold execOp; go_simp) ⟨_, rfl, rfl, Below.refl _ _⟩
      | 7, _ =>
        obtain ⟨e0, x0⟩ := Rv.ev (show a.tmps.getD 0 undef = .slice (some ⟨b, o, none⟩) (m + 1) c from hbase 0 rfl)
        exact Rv.step_op (op := Go.Op.move (Go.Operand.tmp 0)) (v := .slice (some ⟨b, o, none⟩) (m + 1) c) (w1 := W) rfl rfl (fun d pos aft g => by unfold execOp; go_simp) ⟨_, rfl, rfl, Below.refl _ _⟩
      | 8, _ =>
        obtain ⟨e0, x0⟩ := Rv.ev (show a.tmps.getD 0 undef = .slice (some ⟨b, o, none⟩) (m + 1) c from hbase 0 rfl)
        exact Rv.step_op (op := Go.Op.move (Go.Operand.tmp 0)) (v := .slice (some ⟨b, o, none⟩) (m + 1) c) (w1 := W) rfl rfl (fun d pos aft g => by unfold execOp; go_simp) ⟨_, rfl, rfl, Below.refl _ _⟩
      | 9, _ =>
        obtain ⟨e11, x11⟩ := Rv.ev (show a.tmps.getD 11 undef = .slice (some ⟨b, o, none⟩) (m + 1) c from hdep 8 rfl)
        exact Rv.step_op (op := Go.Op.call { callee := Go.Callee.builtin Go.Builtin.len, args := #[Go.Operand.tmp 11], argTypes := #[22] }) (v := .int .i64 ((m : Int) + 1)) (w1 := W) rfl rfl (fun d pos aft g => by unfold execOp; go_simp) ⟨_, rfl, rfl, Below.refl _ _⟩
      | 10, _ =>
        obtain ⟨e12, x12⟩ := Rv.ev (show a.tmps.getD 12 undef = .int .i64 ((m : Int) + 1) from hdep 9 rfl)
        have hwr : IntKind.i64.wrap (m : Int) = m := IntWalk.i64_in _ (by omega)
        exact Rv.step_op (op := Go.Op.binOp Go.BinOp.sub 3 (Go.Operand.tmp 12) (Go.Operand.const (Go.Value.int Go.IntKind.i64 1)) 3) (v := .int .i64 (m : Int)) (w1 := W) rfl rfl (fun d pos aft g => by unfold execOp; go_simp) ⟨_, rfl, rfl, Below.refl _ _⟩
      | 11, _ =>
        obtain ⟨e10, x10⟩ := Rv.ev (show a.tmps.getD 10 undef = .slice (some ⟨b, o, none⟩) (m + 1) c from hdep 7 rfl)
        obtain ⟨e13, x13⟩ := Rv.ev (show a.tmps.getD 13 undef = .int .i64 (m : Int) from hdep 10 rfl)
        have hlt : ¬ ((m : Int) + 1 ≤ m) := by omega
        exact Rv.step_op (op := Go.Op.indexAddr 22 (Go.Operand.tmp 10) (Go.Operand.tmp 13)) (v := .pointer (some ⟨b, o + m * 2, none⟩)) (w1 := W) rfl rfl (fun d pos aft g => by unfold execOp; go_simp) ⟨_, rfl, rfl, Below.refl _ _⟩
      | 12, _ =>
        obtain ⟨e14, x14⟩ := Rv.ev (show a.tmps.getD 14 undef = .pointer (some ⟨b, o + m * 2, none⟩) from hdep 11 rfl)
        exact Rv.step_op (op := Go.Op.load 28 (Go.Operand.tmp 14)) (v := ptV (x2, y2)) (w1 := W) rfl rfl (fun d pos aft g => by unfold execOp; go_simp) ⟨_, rfl, rfl, Below.refl _ _⟩
      | 13, _ =>
        obtain ⟨e9, x9⟩ := Rv.ev (show a.tmps.getD 9 undef = ptV (x, y) from hdep 6 rfl)
        obtain ⟨e15, x15⟩ := Rv.ev (show a.tmps.getD 15 undef = ptV (x2, y2) from hdep 12 rfl)
        have nq := NQ.out
        exact Rv.step_op (op := Go.Op.binOp Go.BinOp.eql 28 (Go.Operand.tmp 9) (Go.Operand.tmp 15) 28) (v := .bool B) (w1 := W) rfl rfl (fun d pos aft g => by unfold execOp; go_simp) ⟨_, rfl, rfl, Below.refl _ _⟩
      | 14, _ =>
        obtain ⟨e6, x6⟩ := Rv.ev (show a.tmps.getD 6 undef = .bool true from hdep 3 rfl)
        obtain ⟨e16, x16⟩ := Rv.ev (show a.tmps.getD 16 undef = .bool B from hdep 13 rfl)
        exact Rv.step_op (op := Go.Op.pick (Go.Operand.tmp 6) (Go.Operand.tmp 16) (Go.Operand.const (Go.Value.bool false))) (v := .bool B) (w1 := W) rfl rfl (fun d pos aft g => by unfold execOp; go_simp) ⟨_, rfl, rfl, Below.refl _ _⟩
      | 15, _ =>
        obtain ⟨e17, x17⟩ := Rv.ev (show a.tmps.getD 17 undef = .bool B from hdep 14 rfl)
        exact Rv.step_op (op := Go.Op.assign (Go.Operand.tmp 17)) (v := .bool B) (w1 := W) rfl rfl (fun d pos aft g => by unfold execOp; go_simp) ⟨_, rfl, rfl, Below.refl _ _⟩
      | m + 16, h => exact absurd h (by show ¬ m + 16 < 16; omega)
    intro W f hf htr
    have f0 : f 0 = .slice (some ⟨b, o, none⟩) (m + 1) c := hf 0 (by show 0 < 16; omega)
    have f1 : f 1 = .int .i64 ((m : Int) + 1) := hf 1 (by show 1 < 16; omega)
    have f2 : f 2 = .bool true := hf 2 (by show 2 < 16; omega)
    have f3 : f 3 = .bool true := hf 3 (by show 3 < 16; omega)
    have f4 : f 4 = .slice (some ⟨b, o, none⟩) (m + 1) c := hf 4 (by show 4 < 16; omega)
    have f5 : f 5 = .pointer (some ⟨b, o, none⟩) := hf 5 (by show 5 < 16; omega)
    have f6 : f 6 = ptV (x, y) := hf 6 (by show 6 < 16; omega)
    have f7 : f 7 = .slice (some ⟨b, o, none⟩) (m + 1) c := hf 7 (by show 7 < 16; omega)
    have f8 : f 8 = .slice (some ⟨b, o, none⟩) (m + 1) c := hf 8 (by show 8 < 16; omega)
    have f9 : f 9 = .int .i64 ((m : Int) + 1) := hf 9 (by show 9 < 16; omega)
    have f10 : f 10 = .int .i64 (m : Int) := hf 10 (by show 10 < 16; omega)
    have f11 : f 11 = .pointer (some ⟨b, o + m * 2, none⟩) := hf 11 (by show 11 < 16; omega)
    have f12 : f 12 = ptV (x2, y2) := hf 12 (by show 12 < 16; omega)
    have f13 : f 13 = .bool B := hf 13 (by show 13 < 16; omega)
    have f14 : f 14 = .bool B := hf 14 (by show 14 < 16; omega)
    have f15 : f 15 = .bool B := hf 15 (by show 15 < 16; omega)
    refine (show ∀ (a : Act) (w : World), Code.wp _ _ _ a w → _ from by assumption) _ _ ?_
    refine Rv.fin_swap (L' := [(3, f 0), (4, f 1), (5, f 2), (6, f 3), (7, f 4), (8, f 5), (9, f 6), (10, f 7), (11, f 8), (12, f 9), (13, f 10), (14, f 11), (15, f 12), (16, f 13), (17, f 14), (2, f 15)]) rfl ?_
    rw [f0, f1, f2, f3, f4, f5, f6, f7, f8, f9, f10, f11, f12, f13, f14, f15]
    clear f0 f1 f2 f3 f4 f5 f6 f7 f8 f9 f10 f11 f12 f13 f14 f15
    simp only [Rv.fin, List.foldl_cons, List.foldl_nil, Act.put, List.setIfInBounds_toArray, List.set_cons_succ, List.set_cons_zero]
    go_wp2
    go_ret
    exact ⟨rfl, htr⟩
  · rw [decide_eq_false h4, Bool.false_and]
    have H4 := Lib.hid (show decide ((4 : Int) ≤ (m : Int) + 1) = false from decide_eq_false (by omega))
    clear h4
    go_enter Try.func18, Try.ntmps18
    go_upto_region 1 with fail
    refine Rv.region_goods (n := 18) (by kernel_rfl) #[3, 4, 5, 6, 7, 8, 9, 10, 11, 12, 13, 14, 15, 16, 17, 2] #[none, none, none, some false] (fun i v W => v = (#[.slice (some ⟨b, o, none⟩) (m + 1) c, .int .i64 ((m : Int) + 1), .bool false, .bool false, undef, undef, undef, undef, undef, undef, undef, undef, undef, undef, .bool false, .bool false] : Array Value).getD i undef) (fun i v w w' h hb => ?_) (fun i h g b hg => ?_) rfl (by kernel_rfl) (by kernel_rfl) (fun i h hr w => ?_) ?_ ?_
    · exact h
    · match i, h, hg with
      | 0, _, hg => cases hg
      | 1, _, hg => cases hg
      | 2, _, hg => cases hg
      | 3, _, hg => cases hg
      | 4, _, hg => (cases hg; exact fun v w e => e)
      | 5, _, hg => (cases hg; exact fun v w e => e)
      | 6, _, hg => (cases hg; exact fun v w e => e)
      | 7, _, hg => (cases hg; exact fun v w e => e)
      | 8, _, hg => (cases hg; exact fun v w e => e)
      | 9, _, hg => (cases hg; exact fun v w e => e)
      | 10, _, hg => (cases hg; exact fun v w e => e)
      | 11, _, hg => (cases hg; exact fun v w e => e)
      | 12, _, hg => (cases hg; exact fun v w e => e)
      | 13, _, hg => (cases hg; exact fun v w e => e)
      | 14, _, hg => cases hg
      | 15, _, hg => cases hg
      | m + 16, h, _ => exact absurd h (by show ¬ m + 16 < 16; omega)
    · match i, h, hr with
      | 0, _, hr => exact Bool.noConfusion (show true = false from hr)
      | 1, _, hr => exact Bool.noConfusion (show true = false from hr)
      | 2, _, hr => exact Bool.noConfusion (show true = false from hr)
      | 3, _, hr => exact Bool.noConfusion (show true = false from hr)
      | 4, _, hr => rfl
      | 5, _, hr => rfl
      | 6, _, hr => rfl
      | 7, _, hr => rfl
      | 8, _, hr => rfl
      | 9, _, hr => rfl
      | 10, _, hr => rfl
      | 11, _, hr => rfl
      | 12, _, hr => rfl
      | 13, _, hr => rfl
      | 14, _, hr => exact Bool.noConfusion (show true = false from hr)
      | 15, _, hr => exact Bool.noConfusion (show true = false from hr)
      | m + 16, h, _ => exact absurd h (by show ¬ m + 16 < 16; omega)
    · intro i h a W hrun hbase hpre hdep htr
      obtain ⟨k0, k1⟩ := C0.out W htr
      obtain ⟨k2, k3⟩ := CM.out W htr
      match i, h with
      | 0, _ =>
        obtain ⟨e0, x0⟩ := Rv.ev (show a.tmps.getD 0 undef = .slice (some ⟨b, o, none⟩) (m + 1) c from hbase 0 rfl)
        exact Rv.step_op (op := Go.Op.move (Go.Operand.tmp 0)) (v := .slice (some ⟨b, o, none⟩) (m + 1) c) (w1 := W) rfl rfl (fun d pos aft g => by unfold execOp; go_simp) ⟨_, rfl, rfl, Below.refl _ _⟩
      | 1, _ =>
        obtain ⟨e3, x3⟩ := Rv.ev (show a.tmps.getD 3 undef = .slice (some ⟨b, o, none⟩) (m + 1) c from hdep 0 rfl)
        exact Rv.step_op (op := Go.Op.call { callee := Go.Callee.builtin Go.Builtin.len, args := #[Go.Operand.tmp 3], argTypes := #[22] }) (v := .int .i64 ((m : Int) + 1)) (w1 := W) rfl rfl (fun d pos aft g => by unfold execOp; go_simp) ⟨_, rfl, rfl, Below.refl _ _⟩
      | 2, _ =>
        obtain ⟨e4, x4⟩ := Rv.ev (show a.tmps.getD 4 undef = .int .i64 ((m : Int) + 1) from hdep 1 rfl)
        have h4 := H4.out
        exact Rv.step_op (op := Go.Op.binOp Go.BinOp.geq 3 (Go.Operand.tmp 4) (Go.Operand.const (Go.Value.int Go.IntKind.i64 4)) 3) (v := .bool false) (w1 := W) rfl rfl (fun d pos aft g => by unfold execOp; go_simp) ⟨_, rfl, rfl, Below.refl _ _⟩
      | 3, _ =>
        obtain ⟨e5, x5⟩ := Rv.ev (show a.tmps.getD 5 undef = .bool false from hdep 2 rfl)
        exact Rv.step_op (op := Go.Op.move (Go.Operand.tmp 5)) (v := .bool false) (w1 := W) rfl rfl (fun d pos aft g => by unfold execOp; go_simp) ⟨_, rfl, rfl, Below.refl _ _⟩
      | 4, _ => exact Bool.noConfusion (show false = true from hrun)
      | 5, _ => exact Bool.noConfusion (show false = true from hrun)
      | 6, _ => exact Bool.noConfusion (show false = true from hrun)
      | 7, _ => exact Bool.noConfusion (show false = true from hrun)
      | 8, _ => exact Bool.noConfusion (show false = true from hrun)
      | 9, _ => exact Bool.noConfusion (show false = true from hrun)
      | 10, _ => exact Bool.noConfusion (show false = true from hrun)
      | 11, _ => exact Bool.noConfusion (show false = true from hrun)
      | 12, _ => exact Bool.noConfusion (show false = true from hrun)
      | 13, _ => exact Bool.noConfusion (show false = true from hrun)
      | 14, _ =>
        obtain ⟨e6, x6⟩ := Rv.ev (show a.tmps.getD 6 undef = .bool false from hdep 3 rfl)
        obtain ⟨e16, x16⟩ := Rv.ev (show a.tmps.getD 16 undef = undef from hdep 13 rfl)
        exact Rv.step_op (op := Go.Op.pick (Go.Operand.tmp 6) (Go.Operand.tmp 16) (Go.Operand.const (Go.Value.bool false))) (v := .bool false) (w1 := W) rfl rfl (fun d pos aft g => by unfold execOp; go_simp) ⟨_, rfl, rfl, Below.refl _ _⟩
      | 15, _ =>
        obtain ⟨e17, x17⟩ := Rv.ev (show a.tmps.getD 17 undef = .bool false from hdep 14 rfl)
        exact Rv.step_op (op := Go.Op.assign (Go.Operand.tmp 17)) (v := .bool false) (w1 := W) rfl rfl (fun d pos aft g => by unfold execOp; go_simp) ⟨_, rfl, rfl, Below.refl _ _⟩
      | m + 16, h => exact absurd h (by show ¬ m + 16 < 16; omega)
    intro W f hf htr
    have f0 : f 0 = .slice (some ⟨b, o, none⟩) (m + 1) c := hf 0 (by show 0 < 16; omega)
    have f1 : f 1 = .int .i64 ((m : Int) + 1) := hf 1 (by show 1 < 16; omega)
    have f2 : f 2 = .bool false := hf 2 (by show 2 < 16; omega)
    have f3 : f 3 = .bool false := hf 3 (by show 3 < 16; omega)
    have f4 : f 4 = undef := hf 4 (by show 4 < 16; omega)
    have f5 : f 5 = undef := hf 5 (by show 5 < 16; omega)
    have f6 : f 6 = undef := hf 6 (by show 6 < 16; omega)
    have f7 : f 7 = undef := hf 7 (by show 7 < 16; omega)
    have f8 : f 8 = undef := hf 8 (by show 8 < 16; omega)
    have f9 : f 9 = undef := hf 9 (by show 9 < 16; omega)
    have f10 : f 10 = undef := hf 10 (by show 10 < 16; omega)
    have f11 : f 11 = undef := hf 11 (by show 11 < 16; omega)
    have f12 : f 12 = undef := hf 12 (by show 12 < 16; omega)
    have f13 : f 13 = undef := hf 13 (by show 13 < 16; omega)
    have f14 : f 14 = .bool false := hf 14 (by show 14 < 16; omega)
    have f15 : f 15 = .bool false := hf 15 (by show 15 < 16; omega)
    refine (show ∀ (a : Act) (w : World), Code.wp _ _ _ a w → _ from by assumption) _ _ ?_
    refine Rv.fin_swap (L' := [(3, f 0), (4, f 1), (5, f 2), (6, f 3), (7, f 4), (8, f 5), (9, f 6), (10, f 7), (11, f 8), (12, f 9), (13, f 10), (14, f 11), (15, f 12), (16, f 13), (17, f 14), (2, f 15)]) rfl ?_
    rw [f0, f1, f2, f3, f4, f5, f6, f7, f8, f9, f10, f11, f12, f13, f14, f15]
    clear f0 f1 f2 f3 f4 f5 f6 f7 f8 f9 f10 f11 f12 f13 f14 f15
    simp only [Rv.fin, List.foldl_cons, List.foldl_nil, Act.put, List.setIfInBounds_toArray, List.set_cons_succ, List.set_cons_zero]
    go_wp2
    go_ret
    exact ⟨rfl, htr⟩
end Go.Proofs.Ytfelbaibbanllaa.Ge

/- Lines of points: whether they are closed, whether they are rings, as the thin package asks it. Conditions: those written at each lemma. -/
import Derived.Test.YtfelbaibbanllaaGed
import Derived.Recover
import Derived.IntWalk
set_option linter.unusedVariables false
set_option linter.unusedSimpArgs false
set_option maxRecDepth 100000
set_option maxHeartbeats 4000000
namespace Go.Proofs.Ytfelbaibbanllaa.Ge
open Go.RowKit Go.Proofs.Ytfelbaibbanllaa.B
attribute [local go_sem] run_store_float

theorem caught_idle (p : Addr) (w : World) :
    CallsD Try.prog 39 #[.pointer (some p)] .returning w fun e u' w' => e = .returned (.tuple #[]) ∧ u' = .returning ∧ w' = w := by
  refine callsD_of_wpS Try.func39 rfl fun c₀ cs hu => ?_
  apply wpS_seq
  apply wpS_region
  simp [wpOpsS, go_sem, recoverD, hu, Try.ntmps39, Exit.thenS]
  refine wpS_cond (t := false) (by simp [Act.eval, Array.replicate]) ?_
  simp only [Bool.false_eq_true, if_false]
  refine wpS_of_wp (wp_skip ?_)
  cases c₀
  simp_all [bodyPostS, results, Try.results39]
theorem closed_any (A : Option Addr) (c m : Nat) (l : List (Nat × Nat)) (w : World) (hr : Rd w 3 (.slice A (m + 1) c) (m + 1) (qc l)) (hl : l.length = m + 1) :
    Calls Try.prog 65 #[lineV A (m + 1) c] w fun e w' => e = .returned (.bool (peq (l[0]'(by omega)) (l[m]'(by omega)))) ∧ Below w.heap.size w w' := by
  refine closed_gen A (m + 1) c _ _ w (fun W hW => ?_) (fun W hW => end_any A c m l W (hr.below hW) hl)
  match l, hl, hr with
  | p :: l, hl, hr =>
    rw [← hl] at hr ⊢
    exact start_any A c p l W (hr.below hW)
theorem closedOf_any (A : Option Addr) (c m : Nat) (l : List (Nat × Nat)) (w : World) (hr : Rd w 3 (.slice A (m + 1) c) (m + 1) (qc l)) (hl : l.length = m + 1) :
    Calls Try.prog 40 #[lineV A (m + 1) c] w fun e w' => e = .returned (.bool (peq (l[0]'(by omega)) (l[m]'(by omega)))) ∧ Below w.heap.size w w' := by
  have hX := Lib.hid ((Below.refl w.heap.size w).alloc (Nat.le_refl _) (.cells #[.int .u32 0, .slice A (m + 1) c] 57))
  have C := Lib.hid (closed_any A c m l _ (hr.below hX.out) hl)
  generalize peq (l[0]'(by omega)) (l[m]'(by omega)) = b at *
  clear hr
  go_enter Try.func40, Try.ntmps40
  go_wp2_with (go_at_call 65; go_loud (with_reducible refine C.out.mono ?_); rintro e w2 ⟨rfl, hb⟩; have HB := Lib.hid (hX.out.trans (hb.mono hX.out.size)); clear hb)
  go_ret
  exact ⟨rfl, HB.out⟩
/-- A question to a line, as the thin package asks it (f), by what the program answers (g). -/

theorem geClosed_gen (A : Option Addr) (c : Nat) (l : List (Nat × Nat)) (b : Bool) (w : World) (hr : Rd w 2 (.slice A l.length c) l.length (pc l)) (hl : l.length ≤ 100000)
    (h : ∀ W A2 c2, Rd W 3 (.slice A2 l.length c2) l.length (qc l) → Calls Try.prog 40 #[lineV A2 l.length c2] W fun e w' => e = .returned (.bool b) ∧ Below W.heap.size W w') :
    Calls Try.prog 16 #[.slice A l.length c] w fun e w' => e = .returned (.bool b) ∧ Below w.heap.size w w' := by
  have hX := Lib.hid ((Below.refl w.heap.size w).alloc (Nat.le_refl _) (.cells #[.bool false] 4))
  have hN := Lib.hid (heap_alloc_new w (.cells #[.bool false] 4))
  have hs : w.heap.size < (w.alloc (.cells #[.bool false] 4)).heap.size := by simp
  have L := Lib.hid (line_any A c l _ (hr.below hX.out) hl)
  have H := Lib.hid h
  clear hr h
  go_enter_defers Try.func16, Try.ntmps16
  go_wp2_with (first
    | (go_at_call 35; go_loud (with_reducible refine L.out.mono ?_); rintro e w2 ⟨A2, c2, rfl, ho, hb⟩; have HO := Lib.hid (Rd.of_own ho); have HB := Lib.hid hb; clear ho hb)
    | (go_at_call 40; go_loud (with_reducible refine (H.out _ _ _ HO.out).mono ?_); rintro e w3 ⟨rfl, hb⟩; have HB3 := Lib.hid (HB.out.trans (hb.mono HB.out.size)); obtain ⟨d0, d1⟩ := cell1 ((HB3.out.block _ hs).trans hN.out); clear hb))
  refine leaves_cons (f := 39) (args := #[.pointer (some ⟨w.heap.size, 0, none⟩)]) (by simp) (by simp [go_sem]) ?_
  refine (caught_idle ⟨w.heap.size, 0, none⟩ _).mono ?_
  rintro e u' w'' ⟨rfl, rfl, rfl⟩
  have kk : (w3.setCell ⟨w.heap.size, 0, none⟩ (.bool b)).cell? ⟨w.heap.size, 0, none⟩ = some (.bool b) := by go_simp
  have B3 := Lib.hid ((hX.out.trans (HB3.out.mono hX.out.size)).setCell (p := ⟨w.heap.size, 0, none⟩) (Nat.le_refl _) (.bool b))
  simp [Leaves, settle, results, go_sem, kk]
  exact B3.out
theorem geRing_gen (A : Option Addr) (c : Nat) (l : List (Nat × Nat)) (b : Bool) (w : World) (hr : Rd w 2 (.slice A l.length c) l.length (pc l)) (hl : l.length ≤ 100000)
    (h : ∀ W A2 c2, Rd W 3 (.slice A2 l.length c2) l.length (qc l) → Calls Try.prog 41 #[lineV A2 l.length c2] W fun e w' => e = .returned (.bool b) ∧ Below W.heap.size W w') :
    Calls Try.prog 17 #[.slice A l.length c] w fun e w' => e = .returned (.bool b) ∧ Below w.heap.size w w' := by
  have hX := Lib.hid ((Below.refl w.heap.size w).alloc (Nat.le_refl _) (.cells #[.bool false] 4))
  have hN := Lib.hid (heap_alloc_new w (.cells #[.bool false] 4))
  have hs : w.heap.size < (w.alloc (.cells #[.bool false] 4)).heap.size := by simp
  have L := Lib.hid (line_any A c l _ (hr.below hX.out) hl)
  have H := Lib.hid h
  clear hr h
  go_enter_defers Try.func17, Try.ntmps17
  go_wp2_with (first
    | (go_at_call 35; go_loud (with_reducible refine L.out.mono ?_); rintro e w2 ⟨A2, c2, rfl, ho, hb⟩; have HO := Lib.hid (Rd.of_own ho); have HB := Lib.hid hb; clear ho hb)
    | (go_at_call 41; go_loud (with_reducible refine (H.out _ _ _ HO.out).mono ?_); rintro e w3 ⟨rfl, hb⟩; have HB3 := Lib.hid (HB.out.trans (hb.mono HB.out.size)); obtain ⟨d0, d1⟩ := cell1 ((HB3.out.block _ hs).trans hN.out); clear hb))
  refine leaves_cons (f := 39) (args := #[.pointer (some ⟨w.heap.size, 0, none⟩)]) (by simp) (by simp [go_sem]) ?_
  refine (caught_idle ⟨w.heap.size, 0, none⟩ _).mono ?_
  rintro e u' w'' ⟨rfl, rfl, rfl⟩
  have kk : (w3.setCell ⟨w.heap.size, 0, none⟩ (.bool b)).cell? ⟨w.heap.size, 0, none⟩ = some (.bool b) := by go_simp
  have B3 := Lib.hid ((hX.out.trans (HB3.out.mono hX.out.size)).setCell (p := ⟨w.heap.size, 0, none⟩) (Nat.le_refl _) (.bool b))
  simp [Leaves, settle, results, go_sem, kk]
  exact B3.out
/-- The six cells of a line's beginning and end. -/
abbrev X6 (W : World) (b o m : Nat) (p q : Nat × Nat) : Prop := W.cell? ⟨b, o, none⟩ = some (.int .u32 0) ∧ W.cell? ⟨b, o + 1, none⟩ = some (.float .f64 p.1) ∧ W.cell? ⟨b, o + 2, none⟩ = some (.float .f64 p.2) ∧
  W.cell? ⟨b, o + m * 3, none⟩ = some (.int .u32 0) ∧ W.cell? ⟨b, o + m * 3 + 1, none⟩ = some (.float .f64 q.1) ∧ W.cell? ⟨b, o + m * 3 + 2, none⟩ = some (.float .f64 q.2)
theorem X6.below {W W1 : World} {B b o m : Nat} {p q : Nat × Nat} (h : X6 W b o m p q) (hb : Below B W W1) (hlt : b < B) : X6 W1 b o m p q :=
  ⟨(hb.cell (p := ⟨b, o, none⟩) hlt).trans h.1, (hb.cell (p := ⟨b, o + 1, none⟩) hlt).trans h.2.1, (hb.cell (p := ⟨b, o + 2, none⟩) hlt).trans h.2.2.1, (hb.cell (p := ⟨b, o + m * 3, none⟩) hlt).trans h.2.2.2.1, (hb.cell (p := ⟨b, o + m * 3 + 1, none⟩) hlt).trans h.2.2.2.2.1, (hb.cell (p := ⟨b, o + m * 3 + 2, none⟩) hlt).trans h.2.2.2.2.2⟩
theorem ring_any (A : Option Addr) (c m : Nat) (l : List (Nat × Nat)) (w : World) (hr : Rd w 3 (.slice A (m + 1) c) (m + 1) (qc l)) (hl : l.length = m + 1) :
    Calls Try.prog 66 #[lineV A (m + 1) c] w fun e w' => e = .returned (.bool (decide (4 ≤ m + 1) && peq (l[0]'(by omega)) (l[m]'(by omega)))) ∧ Below w.heap.size w w' := by
  obtain ⟨b, o, rfl, hb, c0, c1, c2⟩ := qc_at hr m (by omega)
  obtain ⟨b', o', e, _, d0, d1, d2⟩ := qc_at hr 0 (by omega)
  injection e with e
  injection e with e1 e2
  subst e1
  subst e2
  have hmx := hr.le
  rw [Nat.zero_mul, Nat.add_zero] at d0 d1 d2
  have HC : Hid (X6 w b o m (l[0]'(by omega)) (l[m]'(by omega))) := Lib.hid ⟨d0, d1, d2, c0, c1, c2⟩
  have HN := Lib.hid (heap_alloc_new w (.cells #[.int .u32 0, .slice (some ⟨b, o, none⟩) (m + 1) c] 57))
  have HX := Lib.hid ((Below.refl w.heap.size w).alloc (Nat.le_refl _) (.cells #[.int .u32 0, .slice (some ⟨b, o, none⟩) (m + 1) c] 57))
  have hs : w.heap.size < (w.alloc (.cells #[.int .u32 0, .slice (some ⟨b, o, none⟩) (m + 1) c] 57)).heap.size := by simp
  clear hr c0 c1 c2 d0 d1 d2
  generalize l[0]'(by omega) = p at *
  generalize l[m]'(by omega) = q at *
  clear hl
  by_cases h4 : 4 ≤ m + 1
  · rw [decide_eq_true h4, Bool.true_and]
    have h4' : ¬ ((m : Int) + 1 < 4) := by omega
    cases hpq : peq p q
    · have NQ := Lib.hid (fun W => (neq61 p q W).trans (by rw [hpq]; rfl : _ = Result.ok (Value.bool true) W))
      clear hpq
      go_enter Try.func66, Try.ntmps66
      go_upto_region 4 with fail
      have HCX : Hid (X6 (w.alloc (.cells #[.int .u32 0, .slice (some ⟨b, o, none⟩) (m + 1) c] 57)) b o m p q) := Lib.hid (HC.out.below HX.out hb)
      have hbX : b < (w.alloc (.cells #[.int .u32 0, .slice (some ⟨b, o, none⟩) (m + 1) c] 57)).heap.size := Nat.lt_of_lt_of_le hb HX.out.size
      clear HC
      have HC := HCX
      clear HCX
      generalize (w.alloc (.cells #[.int .u32 0, .slice (some ⟨b, o, none⟩) (m + 1) c] 57)) = X at *
      obtain ⟨x, y⟩ := p
      obtain ⟨x2, y2⟩ := q
      refine Rv.region_goods (n := 24) (by kernel_rfl) #[13, 14, 15, 16, 17, 18, 19, 20, 21, 22, 23] #[] (fun i v W => v = (#[.pointer (some ⟨w.heap.size, 1, none⟩), .slice (some ⟨b, o, none⟩) (m + 1) c, .pointer (some ⟨b, o, none⟩), gpV (x, y), .pointer (some ⟨w.heap.size, 1, none⟩), .slice (some ⟨b, o, none⟩) (m + 1) c, .int .i64 ((m : Int) + 1), .int .i64 (m : Int), .pointer (some ⟨b, o + m * 3, none⟩), gpV (x2, y2), .bool true] : Array Value).getD i undef) (fun i v w w' h hb => ?_) (fun i h g b hg => ?_) rfl (by kernel_rfl) (by kernel_rfl) (fun i h hr w => ?_) ?_ ?_
      · exact h
      · match i, h, hg with
        | 0, _, hg => cases hg
        | 1, _, hg => cases hg
        | 2, _, hg => cases hg
        | 3, _, hg => cases hg
        | 4, _, hg => cases hg
        | 5, _, hg => cases hg
        | 6, _, hg => cases hg
        | 7, _, hg => cases hg
        | 8, _, hg => cases hg
        | 9, _, hg => cases hg
        | 10, _, hg => cases hg
        | m + 11, h, _ => exact absurd h (by show ¬ m + 11 < 11; omega)
      · match i, h, hr with
        | 0, _, hr => exact Bool.noConfusion (show true = false from hr)
        | 1, _, hr => exact Bool.noConfusion (show true = false from hr)
        | 2, _, hr => exact Bool.noConfusion (show true = false from hr)
        | 3, _, hr => exact Bool.noConfusion (show true = false from hr)
        | 4, _, hr => exact Bool.noConfusion (show true = false from hr)
        | 5, _, hr => exact Bool.noConfusion (show true = false from hr)
        | 6, _, hr => exact Bool.noConfusion (show true = false from hr)
        | 7, _, hr => exact Bool.noConfusion (show true = false from hr)
        | 8, _, hr => exact Bool.noConfusion (show true = false from hr)
        | 9, _, hr => exact Bool.noConfusion (show true = false from hr)
        | 10, _, hr => exact Bool.noConfusion (show true = false from hr)
        | m + 11, h, _ => exact absurd h (by show ¬ m + 11 < 11; omega)
      · intro i h a W hrun hbase hpre hdep htr
        obtain ⟨a0, a1, _, _⟩ := cells_two ((htr.block _ hs).trans HN.out)
        have k0 := (htr.cell (p := ⟨b, o, none⟩) hbX).trans HC.out.1
        have k1 := (htr.cell (p := ⟨b, o + 1, none⟩) hbX).trans HC.out.2.1
        have k2 := (htr.cell (p := ⟨b, o + 2, none⟩) hbX).trans HC.out.2.2.1
        have k3 := (htr.cell (p := ⟨b, o + m * 3, none⟩) hbX).trans HC.out.2.2.2.1
        have k4 := (htr.cell (p := ⟨b, o + m * 3 + 1, none⟩) hbX).trans HC.out.2.2.2.2.1
        have k5 := (htr.cell (p := ⟨b, o + m * 3 + 2, none⟩) hbX).trans HC.out.2.2.2.2.2
        match i, h with
        | 0, _ =>
          obtain ⟨e1, x1⟩ := Rv.ev (show a.tmps.getD 1 undef = .pointer (some ⟨w.heap.size, 0, none⟩) from hbase 1 rfl)
          exact Rv.step_op (op := Go.Op.fieldAddr 57 (Go.Operand.tmp 1) 1) (v := .pointer (some ⟨w.heap.size, 1, none⟩)) (w1 := W) rfl rfl (fun d pos aft g => by unfold execOp; go_simp) ⟨_, rfl, rfl, Below.refl _ _⟩
        | 1, _ =>
          obtain ⟨e13, x13⟩ := Rv.ev (show a.tmps.getD 13 undef = .pointer (some ⟨w.heap.size, 1, none⟩) from hdep 0 rfl)
          exact Rv.step_op (op := Go.Op.load 55 (Go.Operand.tmp 13)) (v := .slice (some ⟨b, o, none⟩) (m + 1) c) (w1 := W) rfl rfl (fun d pos aft g => by unfold execOp; go_simp) ⟨_, rfl, rfl, Below.refl _ _⟩
        | 2, _ =>
          obtain ⟨e14, x14⟩ := Rv.ev (show a.tmps.getD 14 undef = .slice (some ⟨b, o, none⟩) (m + 1) c from hdep 1 rfl)
          exact Rv.step_op (op := Go.Op.indexAddr 55 (Go.Operand.tmp 14) (Go.Operand.const (Go.Value.int Go.IntKind.i64 0))) (v := .pointer (some ⟨b, o, none⟩)) (w1 := W) rfl rfl (fun d pos aft g => by unfold execOp; go_simp) ⟨_, rfl, rfl, Below.refl _ _⟩
        | 3, _ =>
          obtain ⟨e15, x15⟩ := Rv.ev (show a.tmps.getD 15 undef = .pointer (some ⟨b, o, none⟩) from hdep 2 rfl)
          exact Rv.step_op (op := Go.Op.load 61 (Go.Operand.tmp 15)) (v := gpV (x, y)) (w1 := W) rfl rfl (fun d pos aft g => by unfold execOp; go_simp) ⟨_, rfl, rfl, Below.refl _ _⟩
        | 4, _ =>
          obtain ⟨e1, x1⟩ := Rv.ev (show a.tmps.getD 1 undef = .pointer (some ⟨w.heap.size, 0, none⟩) from hbase 1 rfl)
          exact Rv.step_op (op := Go.Op.fieldAddr 57 (Go.Operand.tmp 1) 1) (v := .pointer (some ⟨w.heap.size, 1, none⟩)) (w1 := W) rfl rfl (fun d pos aft g => by unfold execOp; go_simp) ⟨_, rfl, rfl, Below.refl _ _⟩
        | 5, _ =>
          obtain ⟨e17, x17⟩ := Rv.ev (show a.tmps.getD 17 undef = .pointer (some ⟨w.heap.size, 1, none⟩) from hdep 4 rfl)
          exact Rv.step_op (op := Go.Op.load 55 (Go.Operand.tmp 17)) (v := .slice (some ⟨b, o, none⟩) (m + 1) c) (w1 := W) rfl rfl (fun d pos aft g => by unfold execOp; go_simp) ⟨_, rfl, rfl, Below.refl _ _⟩
        | 6, _ =>
          obtain ⟨e3, x3⟩ := Rv.ev (show a.tmps.getD 3 undef = .int .i64 ((m : Int) + 1) from hbase 3 rfl)
          exact Rv.step_op (op := Go.Op.move (Go.Operand.tmp 3)) (v := .int .i64 ((m : Int) + 1)) (w1 := W) rfl rfl (fun d pos aft g => by unfold execOp; go_simp) ⟨_, rfl, rfl, Below.refl _ _⟩
        | 7, _ =>
          obtain ⟨e19, x19⟩ := Rv.ev (show a.tmps.getD 19 undef = .int .i64 ((m : Int) + 1) from hdep 6 rfl)
          have hwr : IntKind.i64.wrap (m : Int) = m := IntWalk.i64_in _ (by omega)
          exact Rv.step_op (op := Go.Op.binOp Go.BinOp.sub 3 (Go.Operand.tmp 19) (Go.Operand.const (Go.Value.int Go.IntKind.i64 1)) 3) (v := .int .i64 (m : Int)) (w1 := W) rfl rfl (fun d pos aft g => by unfold execOp; go_simp) ⟨_, rfl, rfl, Below.refl _ _⟩
        | 8, _ =>
          obtain ⟨e18, x18⟩ := Rv.ev (show a.tmps.getD 18 undef = .slice (some ⟨b, o, none⟩) (m + 1) c from hdep 5 rfl)
          obtain ⟨e20, x20⟩ := Rv.ev (show a.tmps.getD 20 undef = .int .i64 (m : Int) from hdep 7 rfl)
          have hlt : ¬ ((m : Int) + 1 ≤ m) := by omega
          exact Rv.step_op (op := Go.Op.indexAddr 55 (Go.Operand.tmp 18) (Go.Operand.tmp 20)) (v := .pointer (some ⟨b, o + m * 3, none⟩)) (w1 := W) rfl rfl (fun d pos aft g => by unfold execOp; go_simp) ⟨_, rfl, rfl, Below.refl _ _⟩
        | 9, _ =>
          obtain ⟨e21, x21⟩ := Rv.ev (show a.tmps.getD 21 undef = .pointer (some ⟨b, o + m * 3, none⟩) from hdep 8 rfl)
          exact Rv.step_op (op := Go.Op.load 61 (Go.Operand.tmp 21)) (v := gpV (x2, y2)) (w1 := W) rfl rfl (fun d pos aft g => by unfold execOp; go_simp) ⟨_, rfl, rfl, Below.refl _ _⟩
        | 10, _ =>
          obtain ⟨e16, x16⟩ := Rv.ev (show a.tmps.getD 16 undef = gpV (x, y) from hdep 3 rfl)
          obtain ⟨e22, x22⟩ := Rv.ev (show a.tmps.getD 22 undef = gpV (x2, y2) from hdep 9 rfl)
          have nq := NQ.out
          exact Rv.step_op (op := Go.Op.binOp Go.BinOp.neq 61 (Go.Operand.tmp 16) (Go.Operand.tmp 22) 61) (v := .bool true) (w1 := W) rfl rfl (fun d pos aft g => by unfold execOp; go_simp) ⟨_, rfl, rfl, Below.refl _ _⟩
        | m + 11, h => exact absurd h (by show ¬ m + 11 < 11; omega)
      intro W f hf htr
      have f0 : f 0 = .pointer (some ⟨w.heap.size, 1, none⟩) := hf 0 (by show 0 < 11; omega)
      have f1 : f 1 = .slice (some ⟨b, o, none⟩) (m + 1) c := hf 1 (by show 1 < 11; omega)
      have f2 : f 2 = .pointer (some ⟨b, o, none⟩) := hf 2 (by show 2 < 11; omega)
      have f3 : f 3 = gpV (x, y) := hf 3 (by show 3 < 11; omega)
      have f4 : f 4 = .pointer (some ⟨w.heap.size, 1, none⟩) := hf 4 (by show 4 < 11; omega)
      have f5 : f 5 = .slice (some ⟨b, o, none⟩) (m + 1) c := hf 5 (by show 5 < 11; omega)
      have f6 : f 6 = .int .i64 ((m : Int) + 1) := hf 6 (by show 6 < 11; omega)
      have f7 : f 7 = .int .i64 (m : Int) := hf 7 (by show 7 < 11; omega)
      have f8 : f 8 = .pointer (some ⟨b, o + m * 3, none⟩) := hf 8 (by show 8 < 11; omega)
      have f9 : f 9 = gpV (x2, y2) := hf 9 (by show 9 < 11; omega)
      have f10 : f 10 = .bool true := hf 10 (by show 10 < 11; omega)
      refine (show ∀ (a : Act) (w : World), Code.wp _ _ _ a w → _ from by assumption) _ _ ?_
      refine Rv.fin_swap (L' := [(13, f 0), (14, f 1), (15, f 2), (16, f 3), (17, f 4), (18, f 5), (19, f 6), (20, f 7), (21, f 8), (22, f 9), (23, f 10)]) rfl ?_
      rw [f0, f1, f2, f3, f4, f5, f6, f7, f8, f9, f10]
      clear f0 f1 f2 f3 f4 f5 f6 f7 f8 f9 f10
      simp only [Rv.fin, List.foldl_cons, List.foldl_nil, Act.put, List.setIfInBounds_toArray, List.set_cons_succ, List.set_cons_zero]
      go_wp2
      go_ret
      exact ⟨rfl, HX.out.trans (htr.mono HX.out.size)⟩
    · have NQ := Lib.hid (fun W => (neq61 p q W).trans (by rw [hpq]; rfl : _ = Result.ok (Value.bool false) W))
      clear hpq
      go_enter Try.func66, Try.ntmps66
      go_upto_region 4 with fail
      have HCX : Hid (X6 (w.alloc (.cells #[.int .u32 0, .slice (some ⟨b, o, none⟩) (m + 1) c] 57)) b o m p q) := Lib.hid (HC.out.below HX.out hb)
      have hbX : b < (w.alloc (.cells #[.int .u32 0, .slice (some ⟨b, o, none⟩) (m + 1) c] 57)).heap.size := Nat.lt_of_lt_of_le hb HX.out.size
      clear HC
      have HC := HCX
      clear HCX
      generalize (w.alloc (.cells #[.int .u32 0, .slice (some ⟨b, o, none⟩) (m + 1) c] 57)) = X at *
      obtain ⟨x, y⟩ := p
      obtain ⟨x2, y2⟩ := q
      refine Rv.region_goods (n := 24) (by kernel_rfl) #[13, 14, 15, 16, 17, 18, 19, 20, 21, 22, 23] #[] (fun i v W => v = (#[.pointer (some ⟨w.heap.size, 1, none⟩), .slice (some ⟨b, o, none⟩) (m + 1) c, .pointer (some ⟨b, o, none⟩), gpV (x, y), .pointer (some ⟨w.heap.size, 1, none⟩), .slice (some ⟨b, o, none⟩) (m + 1) c, .int .i64 ((m : Int) + 1), .int .i64 (m : Int), .pointer (some ⟨b, o + m * 3, none⟩), gpV (x2, y2), .bool false] : Array Value).getD i undef) (fun i v w w' h hb => ?_) (fun i h g b hg => ?_) rfl (by kernel_rfl) (by kernel_rfl) (fun i h hr w => ?_) ?_ ?_
      · exact h
      · match i, h, hg with
        | 0, _, hg => cases hg
        | 1, _, hg => cases hg
        | 2, _, hg => cases hg
        | 3, _, hg => cases hg
        | 4, _, hg => cases hg
        | 5, _, hg => cases hg
        | 6, _, hg => cases hg
        | 7, _, hg => cases hg
        | 8, _, hg => cases hg
        | 9, _, hg => cases hg
        | 10, _, hg => cases hg
        | m + 11, h, _ => exact absurd h (by show ¬ m + 11 < 11; omega)
      · match i, h, hr with
        | 0, _, hr => exact Bool.noConfusion (show true = false from hr)
        | 1, _, hr => exact Bool.noConfusion (show true = false from hr)
        | 2, _, hr => exact Bool.noConfusion (show true = false from hr)
        | 3, _, hr => exact Bool.noConfusion (show true = false from hr)
        | 4, _, hr => exact Bool.noConfusion (show true = false from hr)
        | 5, _, hr => exact Bool.noConfusion (show true = false from hr)
        | 6, _, hr => exact Bool.noConfusion (show true = false from hr)
        | 7, _, hr => exact Bool.noConfusion (show true = false from hr)
        | 8, _, hr => exact Bool.noConfusion (show true = false from hr)
        | 9, _, hr => exact Bool.noConfusion (show true = false from hr)
        | 10, _, hr => exact Bool.noConfusion (show true = false from hr)
        | m + 11, h, _ => exact absurd h (by show ¬ m + 11 < 11; omega)
      · intro i h a W hrun hbase hpre hdep htr
        obtain ⟨a0, a1, _, _⟩ := cells_two ((htr.block _ hs).trans HN.out)
        have k0 := (htr.cell (p := ⟨b, o, none⟩) hbX).trans HC.out.1
        have k1 := (htr.cell (p := ⟨b, o + 1, none⟩) hbX).trans HC.out.2.1
        have k2 := (htr.cell (p := ⟨b, o + 2, none⟩) hbX).trans HC.out.2.2.1
        have k3 := (htr.cell (p := ⟨b, o + m * 3, none⟩) hbX).trans HC.out.2.2.2.1
        have k4 := (htr.cell (p := ⟨b, o + m * 3 + 1, none⟩) hbX).trans HC.out.2.2.2.2.1
        have k5 := (htr.cell (p := ⟨b, o + m * 3 + 2, none⟩) hbX).trans HC.out.2.2.2.2.2
        match i, h with
        | 0, _ =>
          obtain ⟨e1, x1⟩ := Rv.ev (show a.tmps.getD 1 undef = .pointer (some ⟨w.heap.size, 0, none⟩) from hbase 1 rfl)
          exact Rv.step_op (op := Go.Op.fieldAddr 57 (Go.Operand.tmp 1) 1) (v := .pointer (some ⟨w.heap.size, 1, none⟩)) (w1 := W) rfl rfl (fun d pos aft g => by unfold execOp; go_simp) ⟨_, rfl, rfl, Below.refl _ _⟩
        | 1, _ =>
          obtain ⟨e13, x13⟩ := Rv.ev (show a.tmps.getD 13 undef = .pointer (some ⟨w.heap.size, 1, none⟩) from hdep 0 rfl)
          exact Rv.step_op (op := Go.Op.load 55 (Go.Operand.tmp 13)) (v := .slice (some ⟨b, o, none⟩) (m + 1) c) (w1 := W) rfl rfl (fun d pos aft g => by unfold execOp; go_simp) ⟨_, rfl, rfl, Below.refl _ _⟩
        | 2, _ =>
          obtain ⟨e14, x14⟩ := Rv.ev (show a.tmps.getD 14 undef = .slice (some ⟨b, o, none⟩) (m + 1) c from hdep 1 rfl)
          exact Rv.step_op (op := Go.Op.indexAddr 55 (Go.Operand.tmp 14) (Go.Operand.const (Go.Value.int Go.IntKind.i64 0))) (v := .pointer (some ⟨b, o, none⟩)) (w1 := W) rfl rfl (fun d pos aft g => by unfold execOp; go_simp) ⟨_, rfl, rfl, Below.refl _ _⟩
        | 3, _ =>
          obtain ⟨e15, x15⟩ := Rv.ev (show a.tmps.getD 15 undef = .pointer (some ⟨b, o, none⟩) from hdep 2 rfl)
          exact Rv.step_op (op := Go.Op.load 61 (Go.Operand.tmp 15)) (v := gpV (x, y)) (w1 := W) rfl rfl (fun d pos aft g => by unfold execOp; go_simp) ⟨_, rfl, rfl, Below.refl _ _⟩
        | 4, _ =>
          obtain ⟨e1, x1⟩ := Rv.ev (show a.tmps.getD 1 undef = .pointer (some ⟨w.heap.size, 0, none⟩) from hbase 1 rfl)
          exact Rv.step_op (op := Go.Op.fieldAddr 57 (Go.Operand.tmp 1) 1) (v := .pointer (some ⟨w.heap.size, 1, none⟩)) (w1 := W) rfl rfl (fun d pos aft g => by unfold execOp; go_simp) ⟨_, rfl, rfl, Below.refl _ _⟩
        | 5, _ =>
          obtain ⟨e17, x17⟩ := Rv.ev (show a.tmps.getD 17 undef = .pointer (some ⟨w.heap.size, 1, none⟩) from hdep 4 rfl)
          exact Rv.step_op (op := Go.Op.load 55 (Go.Operand.tmp 17)) (v := .slice (some ⟨b, o, none⟩) (m + 1) c) (w1 := W) rfl rfl (fun d pos aft g => by unfold execOp; go_simp) ⟨_, rfl, rfl, Below.refl _ _⟩
        | 6, _ =>
          obtain ⟨e3, x3⟩ := Rv.ev (show a.tmps.getD 3 undef = .int .i64 ((m : Int) + 1) from hbase 3 rfl)
          exact Rv.step_op (op := Go.Op.move (Go.Operand.tmp 3)) (v := .int .i64 ((m : Int) + 1)) (w1 := W) rfl rfl (fun d pos aft g => by unfold execOp; go_simp) ⟨_, rfl, rfl, Below.refl _ _⟩
        | 7, _ =>
          obtain ⟨e19, x19⟩ := Rv.ev (show a.tmps.getD 19 undef = .int .i64 ((m : Int) + 1) from hdep 6 rfl)
          have hwr : IntKind.i64.wrap (m : Int) = m := IntWalk.i64_in _ (by omega)
          exact Rv.step_op (op := Go.Op.binOp Go.BinOp.sub 3 (Go.Operand.tmp 19) (Go.Operand.const (Go.Value.int Go.IntKind.i64 1)) 3) (v := .int .i64 (m : Int)) (w1 := W) rfl rfl (fun d pos aft g => by unfold execOp; go_simp) ⟨_, rfl, rfl, Below.refl _ _⟩
        | 8, _ =>
          obtain ⟨e18, x18⟩ := Rv.ev (show a.tmps.getD 18 undef = .slice (some ⟨b, o, none⟩) (m + 1) c from hdep 5 rfl)
          obtain ⟨e20, x20⟩ := Rv.ev (show a.tmps.getD 20 undef = .int .i64 (m : Int) from hdep 7 rfl)
          have hlt : ¬ ((m : Int) + 1 ≤ m) := by omega
          exact Rv.step_op (op := Go.Op.indexAddr 55 (Go.Operand.tmp 18) (Go.Operand.tmp 20)) (v := .pointer (some ⟨b, o + m * 3, none⟩)) (w1 := W) rfl rfl (fun d pos aft g => by unfold execOp; go_simp) ⟨_, rfl, rfl, Below.refl _ _⟩
        | 9, _ =>
          obtain ⟨e21, x21⟩ := Rv.ev (show a.tmps.getD 21 undef = .pointer (some ⟨b, o + m * 3, none⟩) from hdep 8 rfl)
          exact Rv.step_op (op := Go.Op.load 61 (Go.Operand.tmp 21)) (v := gpV (x2, y2)) (w1 := W) rfl rfl (fun d pos aft g => by unfold execOp; go_simp) ⟨_, rfl, rfl, Below.refl _ _⟩
        | 10, _ =>
          obtain ⟨e16, x16⟩ := Rv.ev (show a.tmps.getD 16 undef = gpV (x, y) from hdep 3 rfl)
          obtain ⟨e22, x22⟩ := Rv.ev (show a.tmps.getD 22 undef = gpV (x2, y2) from hdep 9 rfl)
          have nq := NQ.out
          exact Rv.step_op (op := Go.Op.binOp Go.BinOp.neq 61 (Go.Operand.tmp 16) (Go.Operand.tmp 22) 61) (v := .bool false) (w1 := W) rfl rfl (fun d pos aft g => by unfold execOp; go_simp) ⟨_, rfl, rfl, Below.refl _ _⟩
        | m + 11, h => exact absurd h (by show ¬ m + 11 < 11; omega)
      intro W f hf htr
      have f0 : f 0 = .pointer (some ⟨w.heap.size, 1, none⟩) := hf 0 (by show 0 < 11; omega)
      have f1 : f 1 = .slice (some ⟨b, o, none⟩) (m + 1) c := hf 1 (by show 1 < 11; omega)
      have f2 : f 2 = .pointer (some ⟨b, o, none⟩) := hf 2 (by show 2 < 11; omega)
      have f3 : f 3 = gpV (x, y) := hf 3 (by show 3 < 11; omega)
      have f4 : f 4 = .pointer (some ⟨w.heap.size, 1, none⟩) := hf 4 (by show 4 < 11; omega)
      have f5 : f 5 = .slice (some ⟨b, o, none⟩) (m + 1) c := hf 5 (by show 5 < 11; omega)
      have f6 : f 6 = .int .i64 ((m : Int) + 1) := hf 6 (by show 6 < 11; omega)
      have f7 : f 7 = .int .i64 (m : Int) := hf 7 (by show 7 < 11; omega)
      have f8 : f 8 = .pointer (some ⟨b, o + m * 3, none⟩) := hf 8 (by show 8 < 11; omega)
      have f9 : f 9 = gpV (x2, y2) := hf 9 (by show 9 < 11; omega)
      have f10 : f 10 = .bool false := hf 10 (by show 10 < 11; omega)
      refine (show ∀ (a : Act) (w : World), Code.wp _ _ _ a w → _ from by assumption) _ _ ?_
      refine Rv.fin_swap (L' := [(13, f 0), (14, f 1), (15, f 2), (16, f 3), (17, f 4), (18, f 5), (19, f 6), (20, f 7), (21, f 8), (22, f 9), (23, f 10)]) rfl ?_
      rw [f0, f1, f2, f3, f4, f5, f6, f7, f8, f9, f10]
      clear f0 f1 f2 f3 f4 f5 f6 f7 f8 f9 f10
      simp only [Rv.fin, List.foldl_cons, List.foldl_nil, Act.put, List.setIfInBounds_toArray, List.set_cons_succ, List.set_cons_zero]
      go_wp2
      go_ret
      exact ⟨rfl, HX.out.trans (htr.mono HX.out.size)⟩
  · rw [decide_eq_false h4, Bool.false_and]
    have h4' : (m : Int) + 1 < 4 := by omega
    have h0 : ((m : Int) + 1 != 0) = true := by simp; omega
    go_enter Try.func66, Try.ntmps66
    go_wp2
    go_ret
    exact ⟨rfl, HX.out⟩
end Go.Proofs.Ytfelbaibbanllaa.Ge

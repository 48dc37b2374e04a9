/- The area around a ring: as the thin package asks it, as the reference has it; points that are moved. Conditions: those written at each lemma. -/
import Derived.Test.YtfelbaibbanllaaGen
import Derived.Test.YtfelbaibbanllaaGei
import Derived.IntWalk
set_option linter.unusedVariables false
set_option linter.unusedSimpArgs false
set_option maxRecDepth 100000
set_option maxHeartbeats 8000000
namespace Go.Proofs.Ytfelbaibbanllaa.Ge
open Go.RowKit Go.Proofs.Ytfelbaibbanllaa.B
attribute [local go_sem] run_store_float

theorem areaOf_any (A : Option Addr) (c m : Nat) (l : List (Nat × Nat)) (zs : List (Int × Int)) (w : World) (hr : Rd w 3 (.slice A (m + 1) c) (m + 1) (qc l)) (hl : l.length = m + 1) (hz : Fp l zs) (hbd : Bd 1128 zs) (hm : m ≤ 100) :
    Calls Try.prog 34 #[lineV A (m + 1) c] w fun e w' => Area (Sl zs) w e w' := by
  have hX := Lib.hid ((Below.refl w.heap.size w).alloc (Nat.le_refl _) (.cells #[.int .u32 0, .slice A (m + 1) c] 57))
  have C := Lib.hid (calc_any A c m l zs _ (hr.below hX.out) hl hz hbd hm)
  clear hr hz hbd
  go_enter Try.func34, Try.ntmps34
  go_wp2_with (go_at_call 61; go_loud (with_reducible refine C.out.mono ?_); rintro e w2 ⟨x, rfl, hx, hb⟩; have HB := Lib.hid (hX.out.trans (hb.mono hX.out.size)); have HXX := Lib.hid hx; clear hb hx)
  go_ret
  exact ⟨x, rfl, HXX.out, HB.out⟩
theorem geArea_any (A : Option Addr) (c m : Nat) (l : List (Nat × Nat)) (zs : List (Int × Int)) (w : World) (hr : Rd w 2 (.slice A (m + 1) c) (m + 1) (pc l)) (hl : l.length = m + 1) (hz : Fp l zs) (hbd : Bd 1128 zs) (hm : m ≤ 100) :
    Calls Try.prog 12 #[.slice A (m + 1) c] w fun e w' => Area (Sl zs) w e w' := by
  have L := Lib.hid (line_any A c l w (by rw [hl]; exact hr) (by omega))
  have AO := Lib.hid (fun W A2 c2 (h : Rd W 3 (.slice A2 (m + 1) c2) (m + 1) (qc l)) => areaOf_any A2 c2 m l zs W h hl hz hbd hm)
  unfold Line at L
  rw [hl] at L
  clear hr hz hbd hl
  go_enter Try.func12, Try.ntmps12
  go_wp2_with (first
    | (go_at_call 35; go_loud (with_reducible refine L.out.mono ?_); rintro e w2 ⟨A2, c2, rfl, ho, hb⟩; have HO := Lib.hid (Rd.of_own ho); have HB := Lib.hid hb; clear ho hb)
    | (go_at_call 34; go_loud (with_reducible refine (AO.out _ _ _ HO.out).mono ?_); rintro e w3 ⟨x, rfl, hx, hb⟩; have HXX := Lib.hid hx; have HB3 := Lib.hid (HB.out.trans (hb.mono HB.out.size)); clear hb hx))
  go_ret
  exact ⟨x, rfl, HXX.out, HB3.out⟩
/-- max(x, -x). -/
theorem max_run {x : Nat} {n : Int} (h : F.FI x n) (hw : x < 18446744073709551616) : ∃ c, (∀ ts t W, (Builtin.max_ ts t #[.float .f64 x, .float .f64 (F.ng x)]).run Try.prog W = .ok (.float .f64 c) W) ∧ F.FI c (n.natAbs : Int) ∧ c < 18446744073709551616 := by
  obtain ⟨c, hc, hf, hm⟩ := F.max_FI h hw
  refine ⟨c, fun ts t W => ?_, hf, ?_⟩
  · have e : Builtin.max_ ts t #[.float .f64 x, .float .f64 (F.ng x)] = (match F.dbl.order x (F.ng x) with
      | none => (choose (.nanMinMax .f64 true x (F.ng x))).bind fun v => pure (.float .f64 v)
      | some .lt => pure (.float .f64 (F.ng x))
      | some .gt => pure (.float .f64 x)
      | some .eq => pure (.float .f64 (if (F.dbl.read x).neg then F.ng x else x))) >>= fun v => pure v := rfl
    rw [e]
    revert hm
    cases F.dbl.order x (F.ng x) with
    | none => intro hm; cases hm
    | some o => cases o <;> (intro hm; subst hm; simp)
  · rcases hc with rfl | rfl
    · exact hw
    · exact F.ng_lt x hw
theorem mul_comm_bits (x y : Nat) : floatBits .mul .f64 y x = floatBits .mul .f64 x y := by
  show F.dbl.mul y x = F.dbl.mul x y
  unfold Ieee.Format.mul
  congr 1
  generalize F.dbl.read x = a
  generalize F.dbl.read y = b
  cases a <;> cases b <;> simp [Ieee.Datum.product, Bool.xor_comm, Nat.mul_comm, Int.add_comm]
/-- What the reference hands back: the sum's size. -/
def Twice (n : Int) (w : World) (e : Ending) (w' : World) : Prop := ∃ x, e = .returned (.float .f64 x) ∧ F.FI x (n.natAbs : Int) ∧ x < 18446744073709551616 ∧ Below w.heap.size w w'
theorem rd_at2 {W : World} {A : Option Addr} {n c : Nat} {l : List (Nat × Nat)} (h : Rd W 2 (.slice A n c) n (pc l)) (hl : l.length = n) (h0 : 0 < n) : ∃ b o, A = some ⟨b, o, none⟩ ∧ b < W.heap.size ∧ ∀ i (hi : i < l.length), ∀ W', Below W.heap.size W W' → W'.cell? ⟨b, o + i * 2, none⟩ = some (.float .f64 l[i].1) ∧ W'.cell? ⟨b, o + i * 2 + 1, none⟩ = some (.float .f64 l[i].2) := by
  obtain ⟨b, o, rfl, hb, _⟩ := pc_at h 0 (by omega)
  refine ⟨b, o, rfl, hb, fun i hi W' hW => ?_⟩
  obtain ⟨b', o', e, _, h1, h2⟩ := pc_at h i hi
  injection e with e
  injection e with e1 e2
  subst e1; subst e2
  exact ⟨(hW.cell (p := ⟨b, o + i * 2, none⟩) hb).trans h1, (hW.cell (p := ⟨b, o + i * 2 + 1, none⟩) hb).trans h2⟩

theorem twice_any (A : Option Addr) (c m : Nat) (l : List (Nat × Nat)) (zs : List (Int × Int)) (w : World) (hr : Rd w 2 (.slice A (m + 1) c) (m + 1) (pc l)) (hl : l.length = m + 1) (hz : Fp l zs) (hbd : Bd 1128 zs) (hm : m ≤ 100) :
    Calls Try.prog 11 #[.slice A (m + 1) c] w fun e w' => Twice (Sl zs) w e w' := by
  obtain ⟨b, o, rfl, hb, hc⟩ := rd_at2 hr hl (by omega)
  have HC := Lib.hid hc
  have HL := Lib.hid hl
  have HZ := Lib.hid hz
  have HBD := Lib.hid hbd
  have HZL : Hid (zs.length = m + 1) := Lib.hid (by rw [← hz.1]; exact hl)
  clear hr hl hz hbd hc
  go_enter Try.func11, Try.ntmps11
  go_wp2
  go_loopw [3, 4] (fun v3 v4 wr => ∃ (k : Nat) (s : Nat), v4 = .int .i64 ((k : Int) + 1) ∧ k ≤ m ∧ v3 = .float .f64 s ∧ Hid (s < 18446744073709551616) ∧ Hid (F.FI s (Sl (zs.take (k + 1)))) ∧ Hid (Below w.heap.size w wr)) (fun _ v4 _ => (m + 1 - (intOf v4)).toNat)
  case atStart => exact ⟨0, 0, rfl, Nat.zero_le _, rfl, Lib.hid (by omega), Lib.hid (by rw [Sl_one]; exact FI_zero), Lib.hid (Below.refl _ _)⟩
  case round =>
    obtain ⟨k, s, rfl, hk, rfl, HS, HF, HB⟩ := hrel
    by_cases hlt : k < m
    · obtain ⟨r0, r1⟩ := HC.out k (by rw [HL.out]; omega) _ HB.out
      obtain ⟨r2, r3⟩ := HC.out (k + 1) (by rw [HL.out]; omega) _ HB.out
      have hbw : b < wr.heap.size := Nat.lt_of_lt_of_le hb HB.out.size
      have hk1 : k < zs.length := by rw [HZL.out]; omega
      have hk2 : k + 1 < zs.length := by rw [HZL.out]; omega
      obtain ⟨f1, f2⟩ := HZ.out.2 k (by rw [HL.out]; omega) hk1
      obtain ⟨f3, f4⟩ := HZ.out.2 (k + 1) (by rw [HL.out]; omega) hk2
      have hT := Sl_bd (zs.take (k + 1)) (fun x hx => HBD.out x (List.mem_of_mem_take hx))
      have hTl : (zs.take (k + 1)).length ≤ 101 := by rw [List.length_take]; omega
      obtain ⟨c1, c2, c3, c4, g1, g2, g3, g4, g5⟩ := step_sum f1 f2 f3 f4 HF.out (HBD.out _ (List.getElem_mem hk1)) (HBD.out _ (List.getElem_mem hk2)) (by omega)
      have HF4 : Hid (F.FI c4 (Sl (zs.take (k + 1 + 1)))) := Lib.hid (by rw [Sl_take zs k hk2]; exact g5)
      have HS4 := Lib.hid (arith_lt g4)
      -- the other product: x of the next one, y of this one
      have e2' : floatBits .mul .f64 (l[k + 1]'(by rw [HL.out]; omega)).1 (l[k]'(by rw [HL.out]; omega)).2 = some c2 := by
        rw [← g2]
        exact mul_comm_bits _ _
      clear hT hTl g5 f1 f2 f3 f4
      generalize l[k]'(by rw [HL.out]; omega) = p at *
      generalize l[k + 1]'(by rw [HL.out]; omega) = q at *
      obtain ⟨x1, y1⟩ := p
      obtain ⟨x2, y2⟩ := q
      simp only at r0 r1 r2 r3 g1 g2 e2'
      have T1 := Lib.hid (fun W => run_float_arith (P := Try.prog) W .mul 26 .f64 x1 y2 c1 g1)
      have T2 := Lib.hid (fun W => run_float_arith (P := Try.prog) W .mul 26 .f64 x2 y1 c2 e2')
      have T3 := Lib.hid (fun W => run_float_arith (P := Try.prog) W .sub 26 .f64 c1 c2 c3 g3)
      have T4 := Lib.hid (fun W => run_float_arith (P := Try.prog) W .add 26 .f64 s c3 c4 g4)
      clear g1 g2 g3 g4 e2'
      go_upto_region 5 with fail
      refine Rv.region_goods (n := 42) (by kernel_rfl) #[11, 12, 13, 14, 15, 16, 17, 18, 19, 20, 21, 22, 23, 24, 25, 26, 27, 28, 29, 30, 31, 32, 33, 34, 35, 36, 37, 3] #[] (fun i v W => v = (#[.float .f64 s, .slice (some ⟨b, o, none⟩) (m + 1) c, .int .i64 ((k : Int) + 1), .int .i64 (k : Int), .pointer (some ⟨b, o + k * 2, none⟩), .pointer (some ⟨b, o + k * 2, none⟩), .float .f64 x1, .slice (some ⟨b, o, none⟩) (m + 1) c, .int .i64 ((k : Int) + 1), .pointer (some ⟨b, o + (k + 1) * 2, none⟩), .pointer (some ⟨b, o + (k + 1) * 2 + 1, none⟩), .float .f64 y2, .float .f64 c1, .slice (some ⟨b, o, none⟩) (m + 1) c, .int .i64 ((k : Int) + 1), .pointer (some ⟨b, o + (k + 1) * 2, none⟩), .pointer (some ⟨b, o + (k + 1) * 2, none⟩), .float .f64 x2, .slice (some ⟨b, o, none⟩) (m + 1) c, .int .i64 ((k : Int) + 1), .int .i64 (k : Int), .pointer (some ⟨b, o + k * 2, none⟩), .pointer (some ⟨b, o + k * 2 + 1, none⟩), .float .f64 y1, .float .f64 c2, .float .f64 c3, .float .f64 c4, .float .f64 c4] : Array Value).getD i undef) (fun i v w w' h hb => ?_) (fun i h g b hg => ?_) rfl (by kernel_rfl) (by kernel_rfl) (fun i h hr w => ?_) ?_ ?_
      · exact h
      · match i, h, hg with
        | 0, _, hg => cases hg
        | 1, _, hg => cases hg
        | 2, _, hg => cases hg
        | 3, _, hg => cases hg
        | 4, _, hg => cases hg
        | 5, _, hg => cases hg
        | 6, _, hg => cases hg
        | 7, _, hg => cases hg
        | 8, _, hg => cases hg
        | 9, _, hg => cases hg
        | 10, _, hg => cases hg
        | 11, _, hg => cases hg
        | 12, _, hg => cases hg
        | 13, _, hg => cases hg
        | 14, _, hg => cases hg
        | 15, _, hg => cases hg
        | 16, _, hg => cases hg
        | 17, _, hg => cases hg
        | 18, _, hg => cases hg
        | 19, _, hg => cases hg
        | 20, _, hg => cases hg
        | 21, _, hg => cases hg
        | 22, _, hg => cases hg
        | 23, _, hg => cases hg
        | 24, _, hg => cases hg
        | 25, _, hg => cases hg
        | 26, _, hg => cases hg
        | 27, _, hg => cases hg
        | m + 28, h, _ => exact absurd h (by show ¬ m + 28 < 28; omega)
      · match i, h, hr with
        | 0, _, hr => exact Bool.noConfusion (show true = false from hr)
        | 1, _, hr => exact Bool.noConfusion (show true = false from hr)
        | 2, _, hr => exact Bool.noConfusion (show true = false from hr)
        | 3, _, hr => exact Bool.noConfusion (show true = false from hr)
        | 4, _, hr => exact Bool.noConfusion (show true = false from hr)
        | 5, _, hr => exact Bool.noConfusion (show true = false from hr)
        | 6, _, hr => exact Bool.noConfusion (show true = false from hr)
        | 7, _, hr => exact Bool.noConfusion (show true = false from hr)
        | 8, _, hr => exact Bool.noConfusion (show true = false from hr)
        | 9, _, hr => exact Bool.noConfusion (show true = false from hr)
        | 10, _, hr => exact Bool.noConfusion (show true = false from hr)
        | 11, _, hr => exact Bool.noConfusion (show true = false from hr)
        | 12, _, hr => exact Bool.noConfusion (show true = false from hr)
        | 13, _, hr => exact Bool.noConfusion (show true = false from hr)
        | 14, _, hr => exact Bool.noConfusion (show true = false from hr)
        | 15, _, hr => exact Bool.noConfusion (show true = false from hr)
        | 16, _, hr => exact Bool.noConfusion (show true = false from hr)
        | 17, _, hr => exact Bool.noConfusion (show true = false from hr)
        | 18, _, hr => exact Bool.noConfusion (show true = false from hr)
        | 19, _, hr => exact Bool.noConfusion (show true = false from hr)
        | 20, _, hr => exact Bool.noConfusion (show true = false from hr)
        | 21, _, hr => exact Bool.noConfusion (show true = false from hr)
        | 22, _, hr => exact Bool.noConfusion (show true = false from hr)
        | 23, _, hr => exact Bool.noConfusion (show true = false from hr)
        | 24, _, hr => exact Bool.noConfusion (show true = false from hr)
        | 25, _, hr => exact Bool.noConfusion (show true = false from hr)
        | 26, _, hr => exact Bool.noConfusion (show true = false from hr)
        | 27, _, hr => exact Bool.noConfusion (show true = false from hr)
        | m + 28, h, _ => exact absurd h (by show ¬ m + 28 < 28; omega)
      · intro i h a W hrun hbase hpre hdep htr
        have g0 := (htr.cell (p := ⟨b, o + k * 2, none⟩) hbw).trans r0
        have g1 := (htr.cell (p := ⟨b, o + k * 2 + 1, none⟩) hbw).trans r1
        have g2 := (htr.cell (p := ⟨b, o + (k + 1) * 2, none⟩) hbw).trans r2
        have g3 := (htr.cell (p := ⟨b, o + (k + 1) * 2 + 1, none⟩) hbw).trans r3
        match i, h with
        | 0, _ =>
          obtain ⟨e3, x3⟩ := Rv.ev (show a.tmps.getD 3 undef = .float .f64 s from hpre 27 (by show 27 < 28; omega) rfl)
          exact Rv.step_op (op := Go.Op.move (Go.Operand.tmp 3)) (v := .float .f64 s) (w1 := W) rfl rfl (fun d pos aft g => by unfold execOp; go_simp) ⟨_, rfl, rfl, Below.refl _ _⟩
        | 1, _ =>
          obtain ⟨e0, x0⟩ := Rv.ev (show a.tmps.getD 0 undef = .slice (some ⟨b, o, none⟩) (m + 1) c from hbase 0 rfl)
          exact Rv.step_op (op := Go.Op.move (Go.Operand.tmp 0)) (v := .slice (some ⟨b, o, none⟩) (m + 1) c) (w1 := W) rfl rfl (fun d pos aft g => by unfold execOp; go_simp) ⟨_, rfl, rfl, Below.refl _ _⟩
        | 2, _ =>
          obtain ⟨e4, x4⟩ := Rv.ev (show a.tmps.getD 4 undef = .int .i64 ((k : Int) + 1) from hbase 4 rfl)
          exact Rv.step_op (op := Go.Op.move (Go.Operand.tmp 4)) (v := .int .i64 ((k : Int) + 1)) (w1 := W) rfl rfl (fun d pos aft g => by unfold execOp; go_simp) ⟨_, rfl, rfl, Below.refl _ _⟩
        | 3, _ =>
          obtain ⟨e13, x13⟩ := Rv.ev (show a.tmps.getD 13 undef = .int .i64 ((k : Int) + 1) from hdep 2 rfl)
          have hwr : IntKind.i64.wrap (k : Int) = k := IntWalk.i64_in _ (by omega)
          exact Rv.step_op (op := Go.Op.binOp Go.BinOp.sub 3 (Go.Operand.tmp 13) (Go.Operand.const (Go.Value.int Go.IntKind.i64 1)) 3) (v := .int .i64 (k : Int)) (w1 := W) rfl rfl (fun d pos aft g => by unfold execOp; go_simp) ⟨_, rfl, rfl, Below.refl _ _⟩
        | 4, _ =>
          obtain ⟨e12, x12⟩ := Rv.ev (show a.tmps.getD 12 undef = .slice (some ⟨b, o, none⟩) (m + 1) c from hdep 1 rfl)
          obtain ⟨e14, x14⟩ := Rv.ev (show a.tmps.getD 14 undef = .int .i64 (k : Int) from hdep 3 rfl)
          have hb0 : ¬ ((m : Int) + 1 ≤ (k : Int)) := by omega
          have hb1 : ¬ ((k : Int) < 0) := by omega
          exact Rv.step_op (op := Go.Op.indexAddr 22 (Go.Operand.tmp 12) (Go.Operand.tmp 14)) (v := .pointer (some ⟨b, o + k * 2, none⟩)) (w1 := W) rfl rfl (fun d pos aft g => by unfold execOp; go_simp) ⟨_, rfl, rfl, Below.refl _ _⟩
        | 5, _ =>
          obtain ⟨e15, x15⟩ := Rv.ev (show a.tmps.getD 15 undef = .pointer (some ⟨b, o + k * 2, none⟩) from hdep 4 rfl)
          exact Rv.step_op (op := Go.Op.indexAddr 28 (Go.Operand.tmp 15) (Go.Operand.const (Go.Value.int Go.IntKind.i64 0))) (v := .pointer (some ⟨b, o + k * 2, none⟩)) (w1 := W) rfl rfl (fun d pos aft g => by unfold execOp; go_simp) ⟨_, rfl, rfl, Below.refl _ _⟩
        | 6, _ =>
          obtain ⟨e16, x16⟩ := Rv.ev (show a.tmps.getD 16 undef = .pointer (some ⟨b, o + k * 2, none⟩) from hdep 5 rfl)
          exact Rv.step_op (op := Go.Op.load 26 (Go.Operand.tmp 16)) (v := .float .f64 x1) (w1 := W) rfl rfl (fun d pos aft g => by unfold execOp; go_simp) ⟨_, rfl, rfl, Below.refl _ _⟩
        | 7, _ =>
          obtain ⟨e0, x0⟩ := Rv.ev (show a.tmps.getD 0 undef = .slice (some ⟨b, o, none⟩) (m + 1) c from hbase 0 rfl)
          exact Rv.step_op (op := Go.Op.move (Go.Operand.tmp 0)) (v := .slice (some ⟨b, o, none⟩) (m + 1) c) (w1 := W) rfl rfl (fun d pos aft g => by unfold execOp; go_simp) ⟨_, rfl, rfl, Below.refl _ _⟩
        | 8, _ =>
          obtain ⟨e4, x4⟩ := Rv.ev (show a.tmps.getD 4 undef = .int .i64 ((k : Int) + 1) from hbase 4 rfl)
          exact Rv.step_op (op := Go.Op.move (Go.Operand.tmp 4)) (v := .int .i64 ((k : Int) + 1)) (w1 := W) rfl rfl (fun d pos aft g => by unfold execOp; go_simp) ⟨_, rfl, rfl, Below.refl _ _⟩
        | 9, _ =>
          obtain ⟨e18, x18⟩ := Rv.ev (show a.tmps.getD 18 undef = .slice (some ⟨b, o, none⟩) (m + 1) c from hdep 7 rfl)
          obtain ⟨e19, x19⟩ := Rv.ev (show a.tmps.getD 19 undef = .int .i64 ((k : Int) + 1) from hdep 8 rfl)
          have hb0 : ¬ ((m : Int) ≤ (k : Int)) := by omega
          have hb2 : (k : Int) < (m : Int) := by omega
          have hb1 : ¬ ((k : Int) + 1 < 0) := by omega
          exact Rv.step_op (op := Go.Op.indexAddr 22 (Go.Operand.tmp 18) (Go.Operand.tmp 19)) (v := .pointer (some ⟨b, o + (k + 1) * 2, none⟩)) (w1 := W) rfl rfl (fun d pos aft g => by unfold execOp; go_simp) ⟨_, rfl, rfl, Below.refl _ _⟩
        | 10, _ =>
          obtain ⟨e20, x20⟩ := Rv.ev (show a.tmps.getD 20 undef = .pointer (some ⟨b, o + (k + 1) * 2, none⟩) from hdep 9 rfl)
          exact Rv.step_op (op := Go.Op.indexAddr 28 (Go.Operand.tmp 20) (Go.Operand.const (Go.Value.int Go.IntKind.i64 1))) (v := .pointer (some ⟨b, o + (k + 1) * 2 + 1, none⟩)) (w1 := W) rfl rfl (fun d pos aft g => by unfold execOp; go_simp) ⟨_, rfl, rfl, Below.refl _ _⟩
        | 11, _ =>
          obtain ⟨e21, x21⟩ := Rv.ev (show a.tmps.getD 21 undef = .pointer (some ⟨b, o + (k + 1) * 2 + 1, none⟩) from hdep 10 rfl)
          exact Rv.step_op (op := Go.Op.load 26 (Go.Operand.tmp 21)) (v := .float .f64 y2) (w1 := W) rfl rfl (fun d pos aft g => by unfold execOp; go_simp) ⟨_, rfl, rfl, Below.refl _ _⟩
        | 12, _ =>
          obtain ⟨e17, x17⟩ := Rv.ev (show a.tmps.getD 17 undef = .float .f64 x1 from hdep 6 rfl)
          obtain ⟨e22, x22⟩ := Rv.ev (show a.tmps.getD 22 undef = .float .f64 y2 from hdep 11 rfl)
          have t := T1.out
          exact Rv.step_op (op := Go.Op.binOp Go.BinOp.mul 26 (Go.Operand.tmp 17) (Go.Operand.tmp 22) 26) (v := .float .f64 c1) (w1 := W) rfl rfl (fun d pos aft g => by unfold execOp; go_simp) ⟨_, rfl, rfl, Below.refl _ _⟩
        | 13, _ =>
          obtain ⟨e0, x0⟩ := Rv.ev (show a.tmps.getD 0 undef = .slice (some ⟨b, o, none⟩) (m + 1) c from hbase 0 rfl)
          exact Rv.step_op (op := Go.Op.move (Go.Operand.tmp 0)) (v := .slice (some ⟨b, o, none⟩) (m + 1) c) (w1 := W) rfl rfl (fun d pos aft g => by unfold execOp; go_simp) ⟨_, rfl, rfl, Below.refl _ _⟩
        | 14, _ =>
          obtain ⟨e4, x4⟩ := Rv.ev (show a.tmps.getD 4 undef = .int .i64 ((k : Int) + 1) from hbase 4 rfl)
          exact Rv.step_op (op := Go.Op.move (Go.Operand.tmp 4)) (v := .int .i64 ((k : Int) + 1)) (w1 := W) rfl rfl (fun d pos aft g => by unfold execOp; go_simp) ⟨_, rfl, rfl, Below.refl _ _⟩
        | 15, _ =>
          obtain ⟨e24, x24⟩ := Rv.ev (show a.tmps.getD 24 undef = .slice (some ⟨b, o, none⟩) (m + 1) c from hdep 13 rfl)
          obtain ⟨e25, x25⟩ := Rv.ev (show a.tmps.getD 25 undef = .int .i64 ((k : Int) + 1) from hdep 14 rfl)
          have hb0 : ¬ ((m : Int) ≤ (k : Int)) := by omega
          have hb2 : (k : Int) < (m : Int) := by omega
          have hb1 : ¬ ((k : Int) + 1 < 0) := by omega
          exact Rv.step_op (op := Go.Op.indexAddr 22 (Go.Operand.tmp 24) (Go.Operand.tmp 25)) (v := .pointer (some ⟨b, o + (k + 1) * 2, none⟩)) (w1 := W) rfl rfl (fun d pos aft g => by unfold execOp; go_simp) ⟨_, rfl, rfl, Below.refl _ _⟩
        | 16, _ =>
          obtain ⟨e26, x26⟩ := Rv.ev (show a.tmps.getD 26 undef = .pointer (some ⟨b, o + (k + 1) * 2, none⟩) from hdep 15 rfl)
          exact Rv.step_op (op := Go.Op.indexAddr 28 (Go.Operand.tmp 26) (Go.Operand.const (Go.Value.int Go.IntKind.i64 0))) (v := .pointer (some ⟨b, o + (k + 1) * 2, none⟩)) (w1 := W) rfl rfl (fun d pos aft g => by unfold execOp; go_simp) ⟨_, rfl, rfl, Below.refl _ _⟩
        | 17, _ =>
          obtain ⟨e27, x27⟩ := Rv.ev (show a.tmps.getD 27 undef = .pointer (some ⟨b, o + (k + 1) * 2, none⟩) from hdep 16 rfl)
          exact Rv.step_op (op := Go.Op.load 26 (Go.Operand.tmp 27)) (v := .float .f64 x2) (w1 := W) rfl rfl (fun d pos aft g => by unfold execOp; go_simp) ⟨_, rfl, rfl, Below.refl _ _⟩
        | 18, _ =>
          obtain ⟨e0, x0⟩ := Rv.ev (show a.tmps.getD 0 undef = .slice (some ⟨b, o, none⟩) (m + 1) c from hbase 0 rfl)
          exact Rv.step_op (op := Go.Op.move (Go.Operand.tmp 0)) (v := .slice (some ⟨b, o, none⟩) (m + 1) c) (w1 := W) rfl rfl (fun d pos aft g => by unfold execOp; go_simp) ⟨_, rfl, rfl, Below.refl _ _⟩
        | 19, _ =>
          obtain ⟨e4, x4⟩ := Rv.ev (show a.tmps.getD 4 undef = .int .i64 ((k : Int) + 1) from hbase 4 rfl)
          exact Rv.step_op (op := Go.Op.move (Go.Operand.tmp 4)) (v := .int .i64 ((k : Int) + 1)) (w1 := W) rfl rfl (fun d pos aft g => by unfold execOp; go_simp) ⟨_, rfl, rfl, Below.refl _ _⟩
        | 20, _ =>
          obtain ⟨e30, x30⟩ := Rv.ev (show a.tmps.getD 30 undef = .int .i64 ((k : Int) + 1) from hdep 19 rfl)
          have hwr : IntKind.i64.wrap (k : Int) = k := IntWalk.i64_in _ (by omega)
          exact Rv.step_op (op := Go.Op.binOp Go.BinOp.sub 3 (Go.Operand.tmp 30) (Go.Operand.const (Go.Value.int Go.IntKind.i64 1)) 3) (v := .int .i64 (k : Int)) (w1 := W) rfl rfl (fun d pos aft g => by unfold execOp; go_simp) ⟨_, rfl, rfl, Below.refl _ _⟩
        | 21, _ =>
          obtain ⟨e29, x29⟩ := Rv.ev (show a.tmps.getD 29 undef = .slice (some ⟨b, o, none⟩) (m + 1) c from hdep 18 rfl)
          obtain ⟨e31, x31⟩ := Rv.ev (show a.tmps.getD 31 undef = .int .i64 (k : Int) from hdep 20 rfl)
          have hb0 : ¬ ((m : Int) + 1 ≤ (k : Int)) := by omega
          have hb1 : ¬ ((k : Int) < 0) := by omega
          exact Rv.step_op (op := Go.Op.indexAddr 22 (Go.Operand.tmp 29) (Go.Operand.tmp 31)) (v := .pointer (some ⟨b, o + k * 2, none⟩)) (w1 := W) rfl rfl (fun d pos aft g => by unfold execOp; go_simp) ⟨_, rfl, rfl, Below.refl _ _⟩
        | 22, _ =>
          obtain ⟨e32, x32⟩ := Rv.ev (show a.tmps.getD 32 undef = .pointer (some ⟨b, o + k * 2, none⟩) from hdep 21 rfl)
          exact Rv.step_op (op := Go.Op.indexAddr 28 (Go.Operand.tmp 32) (Go.Operand.const (Go.Value.int Go.IntKind.i64 1))) (v := .pointer (some ⟨b, o + k * 2 + 1, none⟩)) (w1 := W) rfl rfl (fun d pos aft g => by unfold execOp; go_simp) ⟨_, rfl, rfl, Below.refl _ _⟩
        | 23, _ =>
          obtain ⟨e33, x33⟩ := Rv.ev (show a.tmps.getD 33 undef = .pointer (some ⟨b, o + k * 2 + 1, none⟩) from hdep 22 rfl)
          exact Rv.step_op (op := Go.Op.load 26 (Go.Operand.tmp 33)) (v := .float .f64 y1) (w1 := W) rfl rfl (fun d pos aft g => by unfold execOp; go_simp) ⟨_, rfl, rfl, Below.refl _ _⟩
        | 24, _ =>
          obtain ⟨e28, x28⟩ := Rv.ev (show a.tmps.getD 28 undef = .float .f64 x2 from hdep 17 rfl)
          obtain ⟨e34, x34⟩ := Rv.ev (show a.tmps.getD 34 undef = .float .f64 y1 from hdep 23 rfl)
          have t := T2.out
          exact Rv.step_op (op := Go.Op.binOp Go.BinOp.mul 26 (Go.Operand.tmp 28) (Go.Operand.tmp 34) 26) (v := .float .f64 c2) (w1 := W) rfl rfl (fun d pos aft g => by unfold execOp; go_simp) ⟨_, rfl, rfl, Below.refl _ _⟩
        | 25, _ =>
          obtain ⟨e23, x23⟩ := Rv.ev (show a.tmps.getD 23 undef = .float .f64 c1 from hdep 12 rfl)
          obtain ⟨e35, x35⟩ := Rv.ev (show a.tmps.getD 35 undef = .float .f64 c2 from hdep 24 rfl)
          have t := T3.out
          exact Rv.step_op (op := Go.Op.binOp Go.BinOp.sub 26 (Go.Operand.tmp 23) (Go.Operand.tmp 35) 26) (v := .float .f64 c3) (w1 := W) rfl rfl (fun d pos aft g => by unfold execOp; go_simp) ⟨_, rfl, rfl, Below.refl _ _⟩
        | 26, _ =>
          obtain ⟨e11, x11⟩ := Rv.ev (show a.tmps.getD 11 undef = .float .f64 s from hdep 0 rfl)
          obtain ⟨e36, x36⟩ := Rv.ev (show a.tmps.getD 36 undef = .float .f64 c3 from hdep 25 rfl)
          have t := T4.out
          exact Rv.step_op (op := Go.Op.binOp Go.BinOp.add 26 (Go.Operand.tmp 11) (Go.Operand.tmp 36) 26) (v := .float .f64 c4) (w1 := W) rfl rfl (fun d pos aft g => by unfold execOp; go_simp) ⟨_, rfl, rfl, Below.refl _ _⟩
        | 27, _ =>
          obtain ⟨e37, x37⟩ := Rv.ev (show a.tmps.getD 37 undef = .float .f64 c4 from hdep 26 rfl)
          exact Rv.step_op (op := Go.Op.assign (Go.Operand.tmp 37)) (v := .float .f64 c4) (w1 := W) rfl rfl (fun d pos aft g => by unfold execOp; go_simp) ⟨_, rfl, rfl, Below.refl _ _⟩
        | m + 28, h => exact absurd h (by show ¬ m + 28 < 28; omega)
      intro W f hf htr
      have f0 : f 0 = .float .f64 s := hf 0 (by show 0 < 28; omega)
      have f1 : f 1 = .slice (some ⟨b, o, none⟩) (m + 1) c := hf 1 (by show 1 < 28; omega)
      have f2 : f 2 = .int .i64 ((k : Int) + 1) := hf 2 (by show 2 < 28; omega)
      have f3 : f 3 = .int .i64 (k : Int) := hf 3 (by show 3 < 28; omega)
      have f4 : f 4 = .pointer (some ⟨b, o + k * 2, none⟩) := hf 4 (by show 4 < 28; omega)
      have f5 : f 5 = .pointer (some ⟨b, o + k * 2, none⟩) := hf 5 (by show 5 < 28; omega)
      have f6 : f 6 = .float .f64 x1 := hf 6 (by show 6 < 28; omega)
      have f7 : f 7 = .slice (some ⟨b, o, none⟩) (m + 1) c := hf 7 (by show 7 < 28; omega)
      have f8 : f 8 = .int .i64 ((k : Int) + 1) := hf 8 (by show 8 < 28; omega)
      have f9 : f 9 = .pointer (some ⟨b, o + (k + 1) * 2, none⟩) := hf 9 (by show 9 < 28; omega)
      have f10 : f 10 = .pointer (some ⟨b, o + (k + 1) * 2 + 1, none⟩) := hf 10 (by show 10 < 28; omega)
      have f11 : f 11 = .float .f64 y2 := hf 11 (by show 11 < 28; omega)
      have f12 : f 12 = .float .f64 c1 := hf 12 (by show 12 < 28; omega)
      have f13 : f 13 = .slice (some ⟨b, o, none⟩) (m + 1) c := hf 13 (by show 13 < 28; omega)
      have f14 : f 14 = .int .i64 ((k : Int) + 1) := hf 14 (by show 14 < 28; omega)
      have f15 : f 15 = .pointer (some ⟨b, o + (k + 1) * 2, none⟩) := hf 15 (by show 15 < 28; omega)
      have f16 : f 16 = .pointer (some ⟨b, o + (k + 1) * 2, none⟩) := hf 16 (by show 16 < 28; omega)
      have f17 : f 17 = .float .f64 x2 := hf 17 (by show 17 < 28; omega)
      have f18 : f 18 = .slice (some ⟨b, o, none⟩) (m + 1) c := hf 18 (by show 18 < 28; omega)
      have f19 : f 19 = .int .i64 ((k : Int) + 1) := hf 19 (by show 19 < 28; omega)
      have f20 : f 20 = .int .i64 (k : Int) := hf 20 (by show 20 < 28; omega)
      have f21 : f 21 = .pointer (some ⟨b, o + k * 2, none⟩) := hf 21 (by show 21 < 28; omega)
      have f22 : f 22 = .pointer (some ⟨b, o + k * 2 + 1, none⟩) := hf 22 (by show 22 < 28; omega)
      have f23 : f 23 = .float .f64 y1 := hf 23 (by show 23 < 28; omega)
      have f24 : f 24 = .float .f64 c2 := hf 24 (by show 24 < 28; omega)
      have f25 : f 25 = .float .f64 c3 := hf 25 (by show 25 < 28; omega)
      have f26 : f 26 = .float .f64 c4 := hf 26 (by show 26 < 28; omega)
      have f27 : f 27 = .float .f64 c4 := hf 27 (by show 27 < 28; omega)
      refine (show ∀ (a : Act) (w : World), Code.wp _ _ _ a w → _ from by assumption) _ _ ?_
      refine Rv.fin_swap (L' := [(11, f 0), (12, f 1), (13, f 2), (14, f 3), (15, f 4), (16, f 5), (17, f 6), (18, f 7), (19, f 8), (20, f 9), (21, f 10), (22, f 11), (23, f 12), (24, f 13), (25, f 14), (26, f 15), (27, f 16), (28, f 17), (29, f 18), (30, f 19), (31, f 20), (32, f 21), (33, f 22), (34, f 23), (35, f 24), (36, f 25), (37, f 26), (3, f 27)]) rfl ?_
      rw [f0, f1, f2, f3, f4, f5, f6, f7, f8, f9, f10, f11, f12, f13, f14, f15, f16, f17, f18, f19, f20, f21, f22, f23, f24, f25, f26, f27]
      clear f0 f1 f2 f3 f4 f5 f6 f7 f8 f9 f10 f11 f12 f13 f14 f15 f16 f17 f18 f19 f20 f21 f22 f23 f24 f25 f26 f27
      simp only [Rv.fin, List.foldl_cons, List.foldl_nil, Act.put, List.setIfInBounds_toArray, List.set_cons_succ, List.set_cons_zero]
      go_wp2
      go_roundw
      case rel => exact ⟨k + 1, c4, by go_num, by omega, rfl, HS4, HF4, Lib.hid (HB.out.trans (htr.mono HB.out.size))⟩
      case measure => simp [intOf]; omega
    · obtain rfl : k = m := by omega
      have HFF : Hid (F.FI s (Sl zs)) := Lib.hid (by have h := HF.out; rwa [List.take_of_length_le (by rw [HZL.out]; exact Nat.le_refl _)] at h)
      obtain ⟨c, h1, h2, h3⟩ := max_run HFF.out HS.out
      have n26 := neg26 s
      have H2 := Lib.hid (And.intro h2 h3)
      clear h2 h3
      go_wp2
      go_ret
      exact ⟨c, rfl, H2.out.1, H2.out.2, HB.out⟩

/-- Points that are moved, in memory of the call's own. -/
def Moved (zs : List (Int × Int)) (a b : Int) (w : World) (e : Ending) (w' : World) : Prop := ∃ A c l, e = .returned (.slice A zs.length c) ∧ w'.ownsRow w.heap.size 28 2 (.slice A zs.length c) zs.length (pc l) ∧ Fp l (zs.map (mv a b)) ∧ Below w.heap.size w w'
theorem moved_any (A : Option Addr) (c : Nat) (l : List (Nat × Nat)) (zs : List (Int × Int)) (a b : Int) (w : World) (hr : Rd w 2 (.slice A zs.length c) zs.length (pc l)) (hz : Fp l zs) (hbd : Bd 1000 zs) (hl : zs.length ≤ 100) (ha : -128 ≤ a ∧ a ≤ 127) (hb : -128 ≤ b ∧ b ≤ 127) :
    Calls Try.prog 13 #[.slice A zs.length c, .int .i8 a, .int .i8 b] w fun e w' => Moved zs a b w e w' := by
  have HR := Lib.hid hr
  have HZ := Lib.hid hz
  have HBD := Lib.hid hbd
  have FA := Lib.hid (F.of_int a (by omega))
  have FB := Lib.hid (F.of_int b (by omega))
  unfold Moved
  obtain ⟨N, hN⟩ : ∃ N, N = zs.length := ⟨_, rfl⟩
  have HN := Lib.hid hN
  rw [← hN]
  rw [← hN] at HR
  have hNl : N ≤ 100 := by omega
  clear hr hz hbd hN hl
  go_enter Try.func13, Try.ntmps13
  go_wp2
  go_loopw [7, 9, 12] (fun v7 v9 v12 wr => ∃ (k : Nat) (l' : List (Nat × Nat)), v12 = .int .i64 k ∧ k ≤ N ∧ Hid (wr.ownsRow w.heap.size 28 2 v7 k (pc l')) ∧ Hid (Fp l' ((zs.take k).map (mv a b))) ∧ Hid (Below w.heap.size w wr)) (fun _ _ v12 _ => (N - (intOf v12)).toNat)
  case atStart => exact ⟨0, [], rfl, Nat.zero_le _, Lib.hid (World.ownsRow_nil _ _ _ _), Lib.hid ⟨rfl, fun i h => by simp at h⟩, Lib.hid (Below.refl _ _)⟩
  case round =>
    obtain ⟨k, l', rfl, hk, HO, HF, HB⟩ := hrel
    by_cases hlt : k < N
    · have hlz : k < zs.length := by rw [← HN.out]; exact hlt
      have hll : k < l.length := by rw [HZ.out.1]; exact hlz
      obtain ⟨b', o, rfl, hb', h0, h1⟩ := pc_at HR.out k hll
      have c0 := (HB.out.cell (p := ⟨b', o + k * 2, none⟩) hb').trans h0
      have c1 := (HB.out.cell (p := ⟨b', o + k * 2 + 1, none⟩) hb').trans h1
      have hbs := HB.out.size
      obtain ⟨f1, f2⟩ := HZ.out.2 k hll hlz
      obtain ⟨b1, b2, b3, b4⟩ := HBD.out _ (List.getElem_mem hlz)
      obtain ⟨d1, e1, g1⟩ := f1.add FA.out (by omega)
      obtain ⟨d2, e2, g2⟩ := f2.add FB.out (by omega)
      have HT := Lib.hid (show (zs.take (k + 1)).map (mv a b) = (zs.take k).map (mv a b) ++ [mv a b zs[k]] from by rw [take_snoc zs k hlz, List.map_append]; rfl)
      have HF2 : Hid (Fp (l' ++ [(d1, d2)]) ((zs.take (k + 1)).map (mv a b))) := Lib.hid (by rw [HT.out]; exact HF.out.snoc ⟨g1, g2⟩)
      have HPC := Lib.hid (show pc (l' ++ [(d1, d2)]) = pc l' ++ [.float .f64 d1, .float .f64 d2] from pc_append _ _)
      clear h0 h1 f1 f2 g1 g2 b1 b2 b3 b4
      generalize l[k] = p at *
      obtain ⟨x, y⟩ := p
      simp only at c0 c1 e1 e2
      have t1 : ∀ W, (binOp .add 26 (.float .f64 x) (.float .f64 (floatOfInt .f64 a))).run Try.prog W = .ok (.float .f64 d1) W := fun W => run_float_arith (P := Try.prog) W .add 26 .f64 _ _ d1 e1
      have t2 : ∀ W, (binOp .add 26 (.float .f64 y) (.float .f64 (floatOfInt .f64 b))).run Try.prog W = .ok (.float .f64 d2) W := fun W => run_float_arith (P := Try.prog) W .add 26 .f64 _ _ d2 e2
      have HB1 := Lib.hid (HB.out.alloc hbs (.cells #[.float .f64 x, .float .f64 y] 28))
      have HO1 := Lib.hid (own_below HO.out ((Below.refl _ _).alloc (Nat.le_refl _) (.cells #[.float .f64 x, .float .f64 y] 28)))
      clear e1 e2
      go_wp2_with (at_builtin; go_loud (refine app1s (w0 := w) (W := wr.alloc (.cells #[.float .f64 x, .float .f64 y] 28)) w.heap.size rfl (.tmp 16) (.tmp 28) 22 28 (.agg #[.float .f64 0, .float .f64 0]) 2 16 rfl Try.underlying22 info28 rfl (by omega) (by omega) u7 _ _ _ rfl (by simp [Act.eval]) rfl (one2 rfl rfl) HO1.out HB1.out HB1.out.size (by omega) ?_); intro A9 c9 w3 hown3 hb3 hg3; have HO3 := Lib.hid hown3; have HB3 := Lib.hid hb3; clear hown3 hb3 hg3)
      go_roundw
      case rel => exact ⟨k + 1, l' ++ [(d1, d2)], by go_num, by omega, Lib.hid (by rw [HPC.out]; exact HO3.out), HF2, HB3⟩
      case measure => simp [intOf]; omega
    · have hkN : k = N := by omega
      subst hkN
      have HFF : Hid (Fp l' (zs.map (mv a b))) := Lib.hid (by have h := HF.out; rwa [HN.out, List.take_length] at h)
      obtain ⟨A3, c3, rfl, _⟩ := (Rd.of_own HO.out).shape
      go_wp2
      go_ret
      exact ⟨A3, c3, l', rfl, HO.out, HFF.out, HB.out⟩
end Go.Proofs.Ytfelbaibbanllaa.Ge

/- The area around a line of points, as the program reckons it. Conditions: those written at each lemma. -/
import Derived.Test.YtfelbaibbanllaaGem
import Derived.Test.YtfelbaibbanllaaGeb
set_option linter.unusedVariables false
set_option linter.unusedSimpArgs false
set_option maxRecDepth 100000
set_option maxHeartbeats 8000000
namespace Go.Proofs.Ytfelbaibbanllaa.Ge
open Go.RowKit Go.Proofs.Ytfelbaibbanllaa.B
attribute [local go_sem] run_store_float

theorem FI_zero : F.FI 0 0 := F.of_int 0 (by decide)
theorem arith_lt {op : BinOp} {x y r : Nat} (h : floatBits op .f64 x y = some r) : r < 18446744073709551616 := by
  have := floatBits_wf h
  simpa [Lit.wf] using this
/-- What one step of the sum gives. -/
theorem step_sum {x1 y1 x2 y2 s : Nat} {p q : Int × Int} {t : Int} (h1 : F.FI x1 p.1) (h2 : F.FI y1 p.2) (h3 : F.FI x2 q.1) (h4 : F.FI y2 q.2) (hs : F.FI s t)
    (hp : -1128 ≤ p.1 ∧ p.1 ≤ 1128 ∧ -1128 ≤ p.2 ∧ p.2 ≤ 1128) (hq : -1128 ≤ q.1 ∧ q.1 ≤ 1128 ∧ -1128 ≤ q.2 ∧ q.2 ≤ 1128) (ht : -1000000000 ≤ t ∧ t ≤ 1000000000) :
    ∃ c1 c2 c3 c4, floatBits .mul .f64 x1 y2 = some c1 ∧ floatBits .mul .f64 y1 x2 = some c2 ∧ floatBits .sub .f64 c1 c2 = some c3 ∧ floatBits .add .f64 s c3 = some c4 ∧ F.FI c4 (t + cross p q) := by
  have b1 := mul_bd hp.1 hp.2.1 hq.2.2.1 hq.2.2.2
  have b2 := mul_bd hp.2.2.1 hp.2.2.2 hq.1 hq.2.1
  obtain ⟨c1, e1, g1⟩ := F.FI.mul h1 h4 (by omega)
  obtain ⟨c2, e2, g2⟩ := F.FI.mul h2 h3 (by omega)
  obtain ⟨c3, e3, g3⟩ := F.FI.sub g1 g2 (by omega)
  obtain ⟨c4, e4, g4⟩ := F.FI.add hs g3 (by omega)
  exact ⟨c1, c2, c3, c4, e1, e2, e3, e4, g4⟩
theorem neg26 (x : Nat) (W : World) : (Op.unary .neg (.float .f64 x)).run Try.prog W = .ok (.float .f64 (F.ng x)) W := by kernel_rfl

/-- What the reckoning hands back: half of the sum's size. -/
def Area (n : Int) (w : World) (e : Ending) (w' : World) : Prop := ∃ x, e = .returned (.float .f64 x) ∧ F.FH x (n.natAbs : Int) ∧ Below w.heap.size w w'
theorem calc_any (A : Option Addr) (c m : Nat) (l : List (Nat × Nat)) (zs : List (Int × Int)) (w : World) (hr : Rd w 3 (.slice A (m + 1) c) (m + 1) (qc l)) (hl : l.length = m + 1) (hz : Fp l zs) (hbd : Bd 1128 zs) (hm : m ≤ 100) :
    Calls Try.prog 61 #[lineV A (m + 1) c] w fun e w' => Area (Sl zs) w e w' := by
  have HN := Lib.hid (heap_alloc_new w (.cells #[.int .u32 0, .slice A (m + 1) c] 57))
  have HX := Lib.hid ((Below.refl w.heap.size w).alloc (Nat.le_refl _) (.cells #[.int .u32 0, .slice A (m + 1) c] 57))
  have hs : w.heap.size < (w.alloc (.cells #[.int .u32 0, .slice A (m + 1) c] 57)).heap.size := by simp
  have HR := Lib.hid hr
  have HL := Lib.hid hl
  have HZ := Lib.hid hz
  have HBD := Lib.hid hbd
  have HZL : Hid (zs.length = m + 1) := Lib.hid (by rw [← hz.1]; exact hl)
  clear hr hl hz hbd
  go_enter Try.func61, Try.ntmps61
  go_wp2
  go_loopw [3, 4, 5, 6] (fun v3 v4 v5 v6 wr => ∃ (k : Nat) (s : Nat), v4 = .int .i64 k ∧ k ≤ m ∧ v3 = .float .f64 s ∧ Hid (s < 18446744073709551616) ∧ Hid (F.FI s (Sl (zs.take (k + 1)))) ∧ Hid (Below (w.alloc (.cells #[.int .u32 0, .slice A (m + 1) c] 57)).heap.size (w.alloc (.cells #[.int .u32 0, .slice A (m + 1) c] 57)) wr)) (fun _ v4 _ _ _ => (m - (intOf v4)).toNat)
  case atStart => exact ⟨0, 0, rfl, Nat.zero_le _, rfl, Lib.hid (by omega), Lib.hid (by rw [Sl_one]; exact FI_zero), Lib.hid (Below.refl _ _)⟩
  case round =>
    obtain ⟨k, s, rfl, hk, rfl, HS, HF, HB⟩ := hrel
    obtain ⟨a0, a1, _, _⟩ := cells_two ((HB.out.block _ hs).trans HN.out)
    have HW := Lib.hid (HX.out.trans (HB.out.mono HX.out.size))
    by_cases hlt : k < m
    · obtain ⟨b, o, rfl, hb, p0, p1, p2⟩ := qc_at HR.out k (by rw [HL.out]; omega)
      obtain ⟨b', o', e, _, q0, q1, q2⟩ := qc_at HR.out (k + 1) (by rw [HL.out]; omega)
      injection e with e
      injection e with e1 e2
      subst e1; subst e2
      have r0 := (HW.out.cell (p := ⟨b, o + k * 3, none⟩) hb).trans p0
      have r1 := (HW.out.cell (p := ⟨b, o + k * 3 + 1, none⟩) hb).trans p1
      have r2 := (HW.out.cell (p := ⟨b, o + k * 3 + 2, none⟩) hb).trans p2
      have r3 := (HW.out.cell (p := ⟨b, o + (k + 1) * 3, none⟩) hb).trans q0
      have r4 := (HW.out.cell (p := ⟨b, o + (k + 1) * 3 + 1, none⟩) hb).trans q1
      have r5 := (HW.out.cell (p := ⟨b, o + (k + 1) * 3 + 2, none⟩) hb).trans q2
      clear p0 p1 p2 q0 q1 q2
      have hbw : b < wr.heap.size := Nat.lt_of_lt_of_le hb HW.out.size
      have hhw : w.heap.size < wr.heap.size := Nat.lt_of_lt_of_le hs HB.out.size
      have hk1 : k < zs.length := by rw [HZL.out]; omega
      have hk2 : k + 1 < zs.length := by rw [HZL.out]; omega
      obtain ⟨f1, f2⟩ := HZ.out.2 k (by rw [HL.out]; omega) hk1
      obtain ⟨f3, f4⟩ := HZ.out.2 (k + 1) (by rw [HL.out]; omega) hk2
      have hT := Sl_bd (zs.take (k + 1)) (fun x hx => HBD.out x (List.mem_of_mem_take hx))
      have hTl : (zs.take (k + 1)).length ≤ 101 := by rw [List.length_take]; omega
      obtain ⟨c1, c2, c3, c4, g1, g2, g3, g4, g5⟩ := step_sum f1 f2 f3 f4 HF.out (HBD.out _ (List.getElem_mem hk1)) (HBD.out _ (List.getElem_mem hk2)) (by omega)
      have HF4 : Hid (F.FI c4 (Sl (zs.take (k + 1 + 1)))) := Lib.hid (by rw [Sl_take zs k hk2]; exact g5)
      have HS4 := Lib.hid (arith_lt g4)
      clear hT hTl g5 f1 f2 f3 f4
      generalize l[k]'(by rw [HL.out]; omega) = p at *
      generalize l[k + 1]'(by rw [HL.out]; omega) = q at *
      obtain ⟨x1, y1⟩ := p
      obtain ⟨x2, y2⟩ := q
      simp only at r1 r2 r4 r5 g1 g2
      have t1 : ∀ W, (binOp .mul 26 (.float .f64 x1) (.float .f64 y2)).run Try.prog W = .ok (.float .f64 c1) W := fun W => run_float_arith (P := Try.prog) W .mul 26 .f64 _ _ c1 g1
      have t2 : ∀ W, (binOp .mul 26 (.float .f64 y1) (.float .f64 x2)).run Try.prog W = .ok (.float .f64 c2) W := fun W => run_float_arith (P := Try.prog) W .mul 26 .f64 _ _ c2 g2
      have t3 : ∀ W, (binOp .sub 26 (.float .f64 c1) (.float .f64 c2)).run Try.prog W = .ok (.float .f64 c3) W := fun W => run_float_arith (P := Try.prog) W .sub 26 .f64 _ _ c3 g3
      have t4 : ∀ W, (binOp .add 26 (.float .f64 s) (.float .f64 c3)).run Try.prog W = .ok (.float .f64 c4) W := fun W => run_float_arith (P := Try.prog) W .add 26 .f64 _ _ c4 g4
      clear g1 g2 g3 g4
      go_wp2
      go_roundw
      case rel => exact ⟨k + 1, c4, by go_num, by omega, rfl, HS4, HF4, Lib.hid ((HB.out.alloc HB.out.size _).alloc (by have := HB.out.size; simp; omega) _)⟩
      case measure => simp [intOf]; omega
    · obtain rfl : k = m := by omega
      have HFF : Hid (F.FI s (Sl zs)) := Lib.hid (by have h := HF.out; rwa [List.take_of_length_le (by rw [HZL.out]; exact Nat.le_refl _)] at h)
      have hT := Sl_bd zs HBD.out
      have hzl := HZL.out
      rw [hzl] at hT
      have hord := HFF.out.order FI_zero
      have n26 := neg26 s
      by_cases hneg : Sl zs < 0
      · have hlt2 : (FloatKind.f64.format.order s 0 == some .lt) = true := by
          rw [F.fmt, hord]
          simp [compare, compareOfLessAndEq, hneg]
        obtain ⟨d, hd, hh⟩ := F.half_FI (F.ng_FI HFF.out HS.out) (by omega)
        have t1 : ∀ W, (binOp .quo 26 (.float .f64 (F.ng s)) (.float .f64 4611686018427387904)).run Try.prog W = .ok (.float .f64 d) W := fun W => run_float_arith (P := Try.prog) W .quo 26 .f64 _ _ d hd
        have HD : Hid (F.FH d ((Sl zs).natAbs : Int)) := Lib.hid (by rw [show ((Sl zs).natAbs : Int) = - Sl zs by omega]; exact hh)
        clear hord hd hh hT hneg
        go_wp2
        go_ret
        exact ⟨d, rfl, HD.out, HW.out⟩
      · have hlt2 : (FloatKind.f64.format.order s 0 == some .lt) = false := by
          rw [F.fmt, hord]
          simp only [compare, compareOfLessAndEq, if_neg hneg]
          split <;> rfl
        obtain ⟨d, hd, hh⟩ := F.half_FI HFF.out (by omega)
        have t1 : ∀ W, (binOp .quo 26 (.float .f64 s) (.float .f64 4611686018427387904)).run Try.prog W = .ok (.float .f64 d) W := fun W => run_float_arith (P := Try.prog) W .quo 26 .f64 _ _ d hd
        have HD : Hid (F.FH d ((Sl zs).natAbs : Int)) := Lib.hid (by rw [show ((Sl zs).natAbs : Int) = Sl zs by omega]; exact hh)
        clear hord hd hh hT hneg
        go_wp2
        go_ret
        exact ⟨d, rfl, HD.out, HW.out⟩
end Go.Proofs.Ytfelbaibbanllaa.Ge

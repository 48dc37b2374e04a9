/- Floats cut towards zero, and their size. Conditions: those written at each lemma. -/
import Derived.Test.YtfelbaibbanllaaGreatGec
import Derived.Laws.Bits64
import Derived.Laws.BitsAllLaws
import Derived.Laws.NewFold
set_option linter.unusedVariables false
set_option linter.unusedSimpArgs false
set_option maxRecDepth 100000
set_option maxHeartbeats 4000000
namespace Go.Proofs.YtfelbaibbanllaaGreat.Ge
open Go.RowKit Go.Proofs.YtfelbaibbanllaaGreat.B
theorem f60 (x : Nat) (w : World) : (callFunc 27 #[.float .f64 x]).run Tryz.prog w = .ok (.value (.int .u64 x)) w := by kernel_rfl
theorem f59 (x : Int) (w : World) : (callFunc 26 #[.int .u64 x]).run Tryz.prog w = .ok (.value (.float .f64 x.toNat)) w := by kernel_rfl
theorem f57' : ∃ fn, Tryz.prog.funcs[24]? = some fn ∧ (fn.name == "runtime.NumGoroutine") = false ∧ fn.body.isNone = true ∧ (Extern.findNext fn).isNone = true ∧ Extern.find fn = some (Extern.MathFloor.toIntegral "math.archTrunc" .zero) := ⟨_, rfl, by kernel_rfl, by kernel_rfl, by kernel_rfl, by kernel_rfl⟩
theorem mark57 (w : World) : Sem.run Tryz.prog (mark (Mark.extern 24)) w = .ok () w := by kernel_rfl
theorem f57 (v : Value) (w : World) : (callFunc 24 #[v]).run Tryz.prog w = ((Extern.MathFloor.toIntegral "math.archTrunc" .zero #[v]).run Tryz.prog w).andThen fun v w' => .ok (.value v) w' := by
  obtain ⟨fn, h1, h2, h3, h4, h5⟩ := f57'
  rw [Option.isNone_iff_eq_none] at h4
  unfold callFunc
  simp only [Sem.run_bind, run_program, Result.andThen_ok, h1, h2, h3, h4, h5, Bool.false_eq_true, if_false, if_true, mark57, Sem.run_pure]
/-- Whether a float is left as it is by cutting. -/
def tq (x : Nat) : Bool := FloatKind.f64.format.order x (F.tr x) == some .eq
theorem arch_any (x : Nat) (w : World) : ∃ z w', (callFunc 24 #[.float .f64 x]).run Tryz.prog w = .ok (.value (.float .f64 z)) w' ∧ Dr w w' ∧ (FloatKind.f64.format.order x z == some .eq) = tq x := by
  rw [f57]
  have e : Extern.MathFloor.toIntegral "math.archTrunc" .zero #[.float .f64 x] = (match FloatKind.f64.decode x with
    | .nan s t => if FloatKind.f64.format.quiet t = t then pure (.float .f64 x) else (choose (.extern "math.Floor,Ceil,Trunc,RoundToEven.signallingNaN kept" 2)).bind fun kept => pure (.float .f64 (if kept == 1 then x else FloatKind.f64.encode (.nan s (FloatKind.f64.format.quiet t))))
    | d => pure (.float .f64 (FloatKind.f64.encode (d.integral .zero)))) := rfl
  rw [e]
  have hd : FloatKind.f64.decode x = F.dbl.read x := rfl
  have hq : ∀ s t z, F.dbl.read x = .nan s t → (FloatKind.f64.format.order x z == some .eq) = tq x := fun s t z h => by
    unfold tq
    rw [F.fmt, F.order_nan h, F.order_nan h]
  cases h : FloatKind.f64.decode x with
  | nan s t =>
    simp only
    by_cases hc : FloatKind.f64.format.quiet t = t
    · simp only [if_pos hc, Sem.run_pure, Result.andThen_ok]
      exact ⟨_, _, rfl, Dr.refl _, hq s t _ (hd ▸ h)⟩
    · simp only [if_neg hc]
      rw [show ∀ (q : Question) (f : Nat → Sem Value), ((choose q).bind f) = (choose q >>= f) from fun _ _ => rfl, Sem.run_bind, run_choose_drew]
      split
      · simp only [Result.andThen_ok, Sem.run_pure]
        exact ⟨_, _, rfl, Dr.refl _, hq s t _ (hd ▸ h)⟩
      · simp only [Result.andThen_ok, Sem.run_pure]
        exact ⟨_, _, rfl, (Dr.refl _).drew, hq s t _ (hd ▸ h)⟩
  | infinity s =>
    simp only [Sem.run_pure, Result.andThen_ok]
    refine ⟨_, _, rfl, Dr.refl _, ?_⟩
    unfold tq F.tr
    rw [← hd, h]
    rfl
  | number s m p =>
    simp only [Sem.run_pure, Result.andThen_ok]
    refine ⟨_, _, rfl, Dr.refl _, ?_⟩
    unfold tq F.tr
    rw [← hd, h]
    rfl
theorem trunc_any (x : Nat) (w : World) : Calls Tryz.prog 15 #[.float .f64 x] w fun e w' => ∃ z, e = .returned (.float .f64 z) ∧ (FloatKind.f64.format.order x z == some .eq) = tq x ∧ Below w.heap.size w w' := by
  obtain ⟨z, w1, h, hd, hq⟩ := arch_any x w
  have HD := Lib.hid hd
  have HQ := Lib.hid hq
  clear hd hq
  go_enter Tryz.func15, Tryz.ntmps15
  go_wp2
  go_ret
  exact ⟨z, rfl, HQ.out, HD.out.below _⟩
theorem abs_any (x : Nat) (w : World) (hx : x < 18446744073709551616) : Calls Tryz.prog 16 #[.float .f64 x] w fun e w' => e = .returned (.float .f64 (x % 9223372036854775808)) ∧ Below w.heap.size w w' := by
  have h1 := f60
  have h2 := f59
  have h3 : (bits BinOp.andNot IntKind.u64 (x : Int) 9223372036854775808).toNat = x % 9223372036854775808 := by
    have h4 := u64_andNot_nat x 9223372036854775808 (by omega) (by omega)
    have h5 : bits BinOp.andNot IntKind.u64 (x : Int) 9223372036854775808 = ((x &&& (18446744073709551615 - 9223372036854775808) : Nat) : Int) := h4
    rw [h5, Int.toNat_natCast, show 18446744073709551615 - 9223372036854775808 = 2 ^ 63 - 1 by decide, Nat.and_two_pow_sub_one_eq_mod]
  have H3 := Lib.hid h3
  clear h3
  go_enter Tryz.func16, Tryz.ntmps16
  go_wp2
  go_ret
  exact ⟨congrArg (fun n => Ending.returned (.float .f64 n)) H3.out, Below.refl _ _⟩
end Go.Proofs.YtfelbaibbanllaaGreat.Ge

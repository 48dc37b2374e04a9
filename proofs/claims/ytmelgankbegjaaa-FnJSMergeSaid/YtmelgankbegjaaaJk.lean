/- The type of a value. Conditions: those written at each lemma. -/
import Derived.Test.YtmelgankbegjaaaJj
set_option linter.unusedVariables false
set_option linter.unusedSimpArgs false
set_option maxRecDepth 100000
set_option maxHeartbeats 8000000
namespace Go.Proofs.Ytmelgankbegjaaa.Js
open Go.RowKit Go.Proofs.Ytmelgankbegjaaa.B

theorem cut_down (neg : Bool) (m i : Nat) (h : m ≠ 0) : Ieee.Toward.down.cut neg (m * 2 ^ i) i = m := by
  unfold Ieee.Toward.cut
  rw [F.log2_mul m i h, show min i (m.log2 + i + 2) = i by omega]
  simp only [F.shl, Nat.one_mul]
  rw [Nat.mul_div_cancel _ (Nat.two_pow_pos i), Nat.mul_mod_left]
  simp
theorem floor_read (n : Int) (h : n.natAbs < 9007199254740992) : (F.dbl.read (jw n)).integral .down = .number (decide (n < 0)) n.natAbs 0 := by
  by_cases h0 : n = 0
  · subst h0
    have h1 := F.read_norm false 0 0 (by omega) (by omega) (.inl rfl)
    have h2 : F.dbl.read (jw 0) = .number false 0 ((0 : Nat) - 1074) := h1
    rw [h2]
    unfold Ieee.Datum.integral Ieee.Toward.cut
    simp
  · rw [jw_read n h0 h]
    have hl : 52 - n.natAbs.log2 ≤ 52 := Nat.sub_le _ _
    unfold Ieee.Datum.integral
    simp only
    rw [show (((1074 - (52 - n.natAbs.log2) : Nat) : Int) - 1074).toNat = 0 by omega, show (-(((1074 - (52 - n.natAbs.log2) : Nat) : Int) - 1074)).toNat = 52 - n.natAbs.log2 by omega, Nat.shiftLeft_zero, cut_down _ _ _ (by omega)]
/-- What math.Floor gives at a whole number. -/
def fw (n : Int) : Nat := F.dbl.write (.number (decide (n < 0)) n.natAbs 0)
theorem fw_FI (n : Int) (h : n.natAbs < 9007199254740992) : F.FI (fw n) n := by
  have h1 := F.write_k (decide (n < 0)) n.natAbs 1074 h (by decide) F.toNat_1074 (by decide)
  unfold F.FI
  have h2 := F.sg_scale (decide (n < 0)) n.natAbs 1074
  rw [F.natAbs_sg] at h2
  rw [← h2]
  exact h1
theorem f37' : ∃ fn, Try.prog.funcs[37]? = some fn ∧ (fn.name == "runtime.NumGoroutine") = false ∧ fn.body.isNone = true ∧ (Extern.findNext fn).isNone = true ∧ Extern.find fn = some (Extern.MathFloor.toIntegral "math.archFloor" .down) := ⟨_, rfl, by kernel_rfl, by kernel_rfl, by kernel_rfl, by kernel_rfl⟩
theorem mark37 (w : World) : Sem.run Try.prog (mark (Mark.extern 37)) w = .ok () w := by kernel_rfl
theorem f37a (v : Value) (w : World) : (callFunc 37 #[v]).run Try.prog w = ((Extern.MathFloor.toIntegral "math.archFloor" .down #[v]).run Try.prog w).andThen fun v w' => .ok (.value v) w' := by
  obtain ⟨fn, h1, h2, h3, h4, h5⟩ := f37'
  rw [Option.isNone_iff_eq_none] at h4
  unfold callFunc
  simp only [Sem.run_bind, run_program, Result.andThen_ok, h1, h2, h3, h4, h5, Bool.false_eq_true, if_false, if_true, mark37, Sem.run_pure]
theorem f37 (n : Int) (h : n.natAbs < 9007199254740992) (w : World) : (callFunc 37 #[.float .f64 (jw n)]).run Try.prog w = .ok (.value (.float .f64 (fw n))) w := by
  rw [f37a]
  have e : ∀ x, Extern.MathFloor.toIntegral "math.archFloor" .down #[.float .f64 x] = (match FloatKind.f64.decode x with
    | .nan s t => if FloatKind.f64.format.quiet t = t then pure (.float .f64 x) else (choose (.extern "math.Floor,Ceil,Trunc,RoundToEven.signallingNaN kept" 2)).bind fun kept => pure (.float .f64 (if kept == 1 then x else FloatKind.f64.encode (.nan s (FloatKind.f64.format.quiet t))))
    | d => pure (.float .f64 (FloatKind.f64.encode (d.integral .down)))) := fun x => rfl
  rw [e]
  have hd : FloatKind.f64.decode (jw n) = F.dbl.read (jw n) := rfl
  have hi := floor_read n h
  obtain ⟨s, m, t, hr, _⟩ := (jw_FI n h).read
  rw [hd, hr]
  rw [hr] at hi
  simp only [hi, Sem.run_pure, Result.andThen_ok]
  rfl
theorem floor_any (n : Int) (h : n.natAbs < 9007199254740992) (w : World) : Calls Try.prog 28 #[.float .f64 (jw n)] w fun e w' => e = .returned (.float .f64 (fw n)) ∧ w' = w := by
  have hf := f37 n h
  go_enter Try.func28, Try.ntmps28
  go_wp2
  go_ret
  exact ⟨rfl, rfl⟩
@[local go_sem] theorem as4_4 (v : Value) (W : World) : (Instr.typeAssert (.iface 4 v) 20 4 true).run Try.prog W = .ok (.tuple #[v, .bool true]) W := by kernel_rfl
@[local go_sem] theorem as4_2 (v : Value) (W : World) : (Instr.typeAssert (.iface 4 v) 20 2 true).run Try.prog W = .ok (.tuple #[.int .i64 0, .bool false]) W := by kernel_rfl
@[local go_sem] theorem as4_29 (v : Value) (W : World) : (Instr.typeAssert (.iface 4 v) 20 29 true).run Try.prog W = .ok (.tuple #[.int .u64 0, .bool false]) W := by kernel_rfl
@[local go_sem] theorem as4_65 (v : Value) (W : World) : (Instr.typeAssert (.iface 4 v) 20 65 true).run Try.prog W = .ok (.tuple #[.float .f64 0, .bool false]) W := by kernel_rfl
@[local go_sem] theorem as4_9 (v : Value) (W : World) : (Instr.typeAssert (.iface 4 v) 20 9 true).run Try.prog W = .ok (.tuple #[.string ⟨#[]⟩, .bool false]) W := by kernel_rfl
@[local go_sem] theorem as4_67 (v : Value) (W : World) : (Instr.typeAssert (.iface 4 v) 20 67 true).run Try.prog W = .ok (.tuple #[.slice none 0 0, .bool false]) W := by kernel_rfl
@[local go_sem] theorem as4_68 (v : Value) (W : World) : (Instr.typeAssert (.iface 4 v) 20 68 true).run Try.prog W = .ok (.tuple #[.map none, .bool false]) W := by kernel_rfl
@[local go_sem] theorem as65_4 (v : Value) (W : World) : (Instr.typeAssert (.iface 65 v) 20 4 true).run Try.prog W = .ok (.tuple #[.bool false, .bool false]) W := by kernel_rfl
@[local go_sem] theorem as65_2 (v : Value) (W : World) : (Instr.typeAssert (.iface 65 v) 20 2 true).run Try.prog W = .ok (.tuple #[.int .i64 0, .bool false]) W := by kernel_rfl
@[local go_sem] theorem as65_29 (v : Value) (W : World) : (Instr.typeAssert (.iface 65 v) 20 29 true).run Try.prog W = .ok (.tuple #[.int .u64 0, .bool false]) W := by kernel_rfl
@[local go_sem] theorem as65_65 (v : Value) (W : World) : (Instr.typeAssert (.iface 65 v) 20 65 true).run Try.prog W = .ok (.tuple #[v, .bool true]) W := by kernel_rfl
@[local go_sem] theorem as65_9 (v : Value) (W : World) : (Instr.typeAssert (.iface 65 v) 20 9 true).run Try.prog W = .ok (.tuple #[.string ⟨#[]⟩, .bool false]) W := by kernel_rfl
@[local go_sem] theorem as65_67 (v : Value) (W : World) : (Instr.typeAssert (.iface 65 v) 20 67 true).run Try.prog W = .ok (.tuple #[.slice none 0 0, .bool false]) W := by kernel_rfl
@[local go_sem] theorem as65_68 (v : Value) (W : World) : (Instr.typeAssert (.iface 65 v) 20 68 true).run Try.prog W = .ok (.tuple #[.map none, .bool false]) W := by kernel_rfl
@[local go_sem] theorem as9_4 (v : Value) (W : World) : (Instr.typeAssert (.iface 9 v) 20 4 true).run Try.prog W = .ok (.tuple #[.bool false, .bool false]) W := by kernel_rfl
@[local go_sem] theorem as9_2 (v : Value) (W : World) : (Instr.typeAssert (.iface 9 v) 20 2 true).run Try.prog W = .ok (.tuple #[.int .i64 0, .bool false]) W := by kernel_rfl
@[local go_sem] theorem as9_29 (v : Value) (W : World) : (Instr.typeAssert (.iface 9 v) 20 29 true).run Try.prog W = .ok (.tuple #[.int .u64 0, .bool false]) W := by kernel_rfl
@[local go_sem] theorem as9_65 (v : Value) (W : World) : (Instr.typeAssert (.iface 9 v) 20 65 true).run Try.prog W = .ok (.tuple #[.float .f64 0, .bool false]) W := by kernel_rfl
@[local go_sem] theorem as9_9 (v : Value) (W : World) : (Instr.typeAssert (.iface 9 v) 20 9 true).run Try.prog W = .ok (.tuple #[v, .bool true]) W := by kernel_rfl
@[local go_sem] theorem as9_67 (v : Value) (W : World) : (Instr.typeAssert (.iface 9 v) 20 67 true).run Try.prog W = .ok (.tuple #[.slice none 0 0, .bool false]) W := by kernel_rfl
@[local go_sem] theorem as9_68 (v : Value) (W : World) : (Instr.typeAssert (.iface 9 v) 20 68 true).run Try.prog W = .ok (.tuple #[.map none, .bool false]) W := by kernel_rfl
@[local go_sem] theorem as67_4 (v : Value) (W : World) : (Instr.typeAssert (.iface 67 v) 20 4 true).run Try.prog W = .ok (.tuple #[.bool false, .bool false]) W := by kernel_rfl
@[local go_sem] theorem as67_2 (v : Value) (W : World) : (Instr.typeAssert (.iface 67 v) 20 2 true).run Try.prog W = .ok (.tuple #[.int .i64 0, .bool false]) W := by kernel_rfl
@[local go_sem] theorem as67_29 (v : Value) (W : World) : (Instr.typeAssert (.iface 67 v) 20 29 true).run Try.prog W = .ok (.tuple #[.int .u64 0, .bool false]) W := by kernel_rfl
@[local go_sem] theorem as67_65 (v : Value) (W : World) : (Instr.typeAssert (.iface 67 v) 20 65 true).run Try.prog W = .ok (.tuple #[.float .f64 0, .bool false]) W := by kernel_rfl
@[local go_sem] theorem as67_9 (v : Value) (W : World) : (Instr.typeAssert (.iface 67 v) 20 9 true).run Try.prog W = .ok (.tuple #[.string ⟨#[]⟩, .bool false]) W := by kernel_rfl
@[local go_sem] theorem as67_67 (v : Value) (W : World) : (Instr.typeAssert (.iface 67 v) 20 67 true).run Try.prog W = .ok (.tuple #[v, .bool true]) W := by kernel_rfl
@[local go_sem] theorem as67_68 (v : Value) (W : World) : (Instr.typeAssert (.iface 67 v) 20 68 true).run Try.prog W = .ok (.tuple #[.map none, .bool false]) W := by kernel_rfl
@[local go_sem] theorem as68_4 (v : Value) (W : World) : (Instr.typeAssert (.iface 68 v) 20 4 true).run Try.prog W = .ok (.tuple #[.bool false, .bool false]) W := by kernel_rfl
@[local go_sem] theorem as68_2 (v : Value) (W : World) : (Instr.typeAssert (.iface 68 v) 20 2 true).run Try.prog W = .ok (.tuple #[.int .i64 0, .bool false]) W := by kernel_rfl
@[local go_sem] theorem as68_29 (v : Value) (W : World) : (Instr.typeAssert (.iface 68 v) 20 29 true).run Try.prog W = .ok (.tuple #[.int .u64 0, .bool false]) W := by kernel_rfl
@[local go_sem] theorem as68_65 (v : Value) (W : World) : (Instr.typeAssert (.iface 68 v) 20 65 true).run Try.prog W = .ok (.tuple #[.float .f64 0, .bool false]) W := by kernel_rfl
@[local go_sem] theorem as68_9 (v : Value) (W : World) : (Instr.typeAssert (.iface 68 v) 20 9 true).run Try.prog W = .ok (.tuple #[.string ⟨#[]⟩, .bool false]) W := by kernel_rfl
@[local go_sem] theorem as68_67 (v : Value) (W : World) : (Instr.typeAssert (.iface 68 v) 20 67 true).run Try.prog W = .ok (.tuple #[.slice none 0 0, .bool false]) W := by kernel_rfl
@[local go_sem] theorem as68_68 (v : Value) (W : World) : (Instr.typeAssert (.iface 68 v) 20 68 true).run Try.prog W = .ok (.tuple #[v, .bool true]) W := by kernel_rfl
/-- The names of the types. -/
def tyS (k : Int) : ByteArray := if k = 0 then ⟨#[78, 85, 76, 76]⟩ else if k = 1 then ⟨#[66, 79, 79, 76, 69, 65, 78]⟩ else if k = 2 then ⟨#[73, 78, 84, 69, 71, 69, 82]⟩ else if k = 3 then ⟨#[83, 84, 82, 73, 78, 71]⟩ else if k = 4 then ⟨#[65, 82, 82, 65, 89]⟩ else ⟨#[79, 66, 74, 69, 67, 84]⟩
theorem two32 : F.FI 4751297606875873280 4294967296 := F.of_int 4294967296 (by decide)
theorem typeof_any (t : J) (p : Nat → Prop) (u : Value) (w : World) (hwf : Wf t) (h : IV p w t u) : Calls Try.prog 15 #[u] w fun e w' => e = .returned (.string (tyS t.k)) ∧ w' = w := by
  obtain ⟨k, n, s, ns, is⟩ := t
  rcases h with ⟨rfl, rfl⟩ | ⟨rfl, rfl⟩ | ⟨rfl, rfl⟩ | ⟨rfl, rfl⟩ | ⟨rfl, A, c, vs, rfl, _⟩ | ⟨rfl, b, vs, rfl, _⟩
  · go_enter Try.func15, Try.ntmps15
    go_wp2
    go_ret
    exact ⟨rfl, rfl⟩
  · go_enter Try.func15, Try.ntmps15
    go_wp2
    go_ret
    exact ⟨rfl, rfl⟩
  · have hn : -2147483648 ≤ n ∧ n ≤ 2147483647 := by
      rcases hwf with ⟨h, _⟩ | ⟨h, _⟩ | ⟨_, h, h2, _⟩ | ⟨h, _⟩ | ⟨h, _⟩ | ⟨h, _⟩ <;> first | exact ⟨h, h2⟩ | omega
    have hab : n.natAbs < 9007199254740992 := by omega
    have FL := Lib.hid (floor_any n hab)
    have ho1 : (FloatKind.f64.format.order (fw n) (jw n) == some .eq) = true := by
      have := (fw_FI n hab).eq (jw_FI n hab)
      rw [F.fmt, this]
      simp
    have ho2 : FloatKind.f64.format.order (jw n) 4751297606875873280 = some .lt := by
      have := (jw_FI n hab).order two32
      rw [F.fmt, this, Option.some_inj]
      simp only [compare, compareOfLessAndEq]
      rw [if_pos (by omega)]
    go_enter Try.func15, Try.ntmps15
    go_wp2_with (go_at_call 28; (with_reducible refine (FL.out w).mono ?_); rintro e w2 ⟨rfl, rfl⟩)
    go_ret
    exact ⟨rfl, rfl⟩
  · go_enter Try.func15, Try.ntmps15
    go_wp2
    go_ret
    exact ⟨rfl, rfl⟩
  · go_enter Try.func15, Try.ntmps15
    go_wp2
    go_ret
    exact ⟨rfl, rfl⟩
  · go_enter Try.func15, Try.ntmps15
    go_wp2
    go_ret
    exact ⟨rfl, rfl⟩
end Go.Proofs.Ytmelgankbegjaaa.Js

/- Positions compared: the walks of the five Compare methods. Conditions: those written at each lemma. -/
import Derived.Test.YtfnogpelaoofbaaGreatDoorProg
import Derived.Test.YtfnogpelaoofbaaGreatDoorBase
import Derived.Test.YtfnogpelaoofbaaGreatDoorCut
import Derived.Handy
set_option linter.unusedVariables false
set_option linter.unusedSimpArgs false
set_option maxRecDepth 100000
set_option maxHeartbeats 4000000
namespace Go.Proofs.YtfnogpelaoofbaaGreatDoor.Rg
open Go.RowKit Go.Proofs.YtfnogpelaoofbaaGreatDoor.B

def sg (x y : Int) : Int := if x < y then -1 else if x = y then 0 else 1
theorem i64as (x : Int) (W : World) : (Instr.typeAssert (.iface 2 (.int .i64 x)) 20 2 true).run Tryz.prog W = .ok (.tuple #[.int .i64 x, .bool true]) W := by kernel_rfl
theorem i64cmp (x y : Int) (w : World) : Calls Tryz.prog 148 #[.agg #[], .iface 2 (.int .i64 x), .iface 2 (.int .i64 y)] w
    fun e w' => e = .returned (.tuple #[.int .i64 (sg x y), .nilIface]) ∧ Below w.heap.size w w' := by
  have p1 := i64as x
  have p2 := i64as y
  unfold sg
  rcases Int.lt_trichotomy x y with h | h | h
  · rw [if_pos h]
    go_enter Tryz.func148, Tryz.ntmps148
    go_wp2
    go_ret2
    exact ⟨rfl, (Below.refl _ _).alloc (Nat.le_refl _) _⟩
  · rw [if_neg (by omega), if_pos h]
    have h1 : ¬ x < y := by omega
    have h2 : ¬ x > y := by omega
    go_enter Tryz.func148, Tryz.ntmps148
    go_wp2
    go_ret2
    exact ⟨rfl, (Below.refl _ _).alloc (Nat.le_refl _) _⟩
  · rw [if_neg (by omega), if_neg (by omega)]
    have h1 : ¬ x < y := by omega
    go_enter Tryz.func148, Tryz.ntmps148
    go_wp2
    go_ret2
    exact ⟨rfl, (Below.refl _ _).alloc (Nat.le_refl _) _⟩

/-- What a type switch finds. -/
def at99V (a : Ct) : Value := (match a with | .ab k => .tuple #[.agg #[.iface 2 (.int .i64 k)], .bool true] | _ => .tuple #[.agg #[.nilIface], .bool false])
theorem at99 (a : Ct) (W : World) : (Instr.typeAssert a.v 88 155 true).run Tryz.prog W = .ok (at99V a) W := by cases a <;> kernel_rfl
/-- What a type switch finds. -/
def at101V (a : Ct) : Value := (match a with | .bl k => .tuple #[.agg #[.iface 2 (.int .i64 k)], .bool true] | _ => .tuple #[.agg #[.nilIface], .bool false])
theorem at101 (a : Ct) (W : World) : (Instr.typeAssert a.v 88 154 true).run Tryz.prog W = .ok (at101V a) W := by cases a <;> kernel_rfl
/-- What a type switch finds. -/
def at100V (a : Ct) : Value := (match a with | .aa => .tuple #[.agg #[], .bool true] | _ => .tuple #[.agg #[], .bool false])
theorem at100 (a : Ct) (W : World) : (Instr.typeAssert a.v 88 156 true).run Tryz.prog W = .ok (at100V a) W := by cases a <;> kernel_rfl
/-- What a type switch finds. -/
def at102V (a : Ct) : Value := (match a with | .an => .tuple #[.agg #[], .bool true] | _ => .tuple #[.agg #[], .bool false])
theorem at102 (a : Ct) (W : World) : (Instr.typeAssert a.v 88 152 true).run Tryz.prog W = .ok (at102V a) W := by cases a <;> kernel_rfl
/-- What a type switch finds. -/
def at103V (a : Ct) : Value := (match a with | .bn => .tuple #[.agg #[], .bool true] | _ => .tuple #[.agg #[], .bool false])
theorem at103 (a : Ct) (W : World) : (Instr.typeAssert a.v 88 151 true).run Tryz.prog W = .ok (at103V a) W := by cases a <;> kernel_rfl

/-- The places of two positions compared. -/
def cp : Ct → Ct → Int
  | .bn, .bn => 0
  | .bn, _ => -1
  | .an, .bn => 1
  | .an, .an => 0
  | .an, _ => -1
  | .aa, .aa => 0
  | .aa, _ => 1
  | _, .aa => -1
  | _, .bn => 1
  | _, .an => 1
  | .bl x, .bl y => sg x y
  | .ab x, .ab y => sg x y
  | .bl x, .ab y => if y < x then 1 else -1
  | .ab x, .bl y => if x < y then -1 else 1
theorem cmp130 (b : Ct) (w : World) : Calls Tryz.prog 151 #[.agg #[], b.v, tv] w fun e w' => e = .returned (.tuple #[.int .i64 (cp .bn b), .nilIface]) ∧ Below w.heap.size w w' := by
  have p1 := at103 b
  cases b
  all_goals
    simp only [Ct.v, at103V, cp, tv] at *
    go_enter Tryz.func151, Tryz.ntmps151
    go_wp2
    go_ret2
    exact ⟨rfl, by go_grown⟩
theorem cmp126 (b : Ct) (w : World) : Calls Tryz.prog 155 #[.agg #[], b.v, tv] w fun e w' => e = .returned (.tuple #[.int .i64 (cp .an b), .nilIface]) ∧ Below w.heap.size w w' := by
  have p1 := at103 b
  have p2 := at102 b
  cases b
  all_goals
    simp only [Ct.v, at103V, at102V, cp, tv] at *
    go_enter Tryz.func155, Tryz.ntmps155
    go_wp2
    go_ret2
    exact ⟨rfl, by go_grown⟩
theorem cmp118 (b : Ct) (w : World) : Calls Tryz.prog 167 #[.agg #[], b.v, tv] w fun e w' => e = .returned (.tuple #[.int .i64 (cp .aa b), .nilIface]) ∧ Below w.heap.size w w' := by
  have p1 := at100 b
  cases b
  all_goals
    simp only [Ct.v, at100V, cp, tv] at *
    go_enter Tryz.func167, Tryz.ntmps167
    go_wp2
    go_ret2
    exact ⟨rfl, by go_grown⟩
theorem sg_lt {x y : Int} (h : x < y) : sg x y = -1 := if_pos h
theorem sg_eq {x y : Int} (h : x = y) : sg x y = 0 := by unfold sg; rw [if_neg (by omega), if_pos h]
theorem sg_gt {x y : Int} (h : y < x) : sg x y = 1 := by unfold sg; rw [if_neg (by omega), if_neg (by omega)]
theorem cmp100 (x : Int) (b : Ct) (w : World) : Calls Tryz.prog 163 #[.agg #[.iface 2 (.int .i64 x)], b.v, tv] w fun e w' => e = .returned (.tuple #[.int .i64 (cp (.ab x) b), .nilIface]) ∧ Below w.heap.size w w' := by
  have p1 := at100 b
  have p2 := at99 b
  have p3 := at101 b
  have p4 := at102 b
  have p5 := at103 b
  cases b
  case bl k =>
    simp only [Ct.v, at99V, at100V, at101V, at102V, at103V, cp, tv] at *
    rcases Int.lt_trichotomy x k with h | h | h
    · have C := i64cmp x k
      rw [sg_lt h] at C
      rw [if_pos h]
      clear h
      go_enter Tryz.func163, Tryz.ntmps163
      go_wp2_with (go_at_call 148; (with_reducible refine (C _).mono ?_); rintro e w1 ⟨rfl, hb1⟩)
      go_ret2
      exact ⟨rfl, by first | (go_grown; done) | (refine below_then ?_ ?_ hb1 <;> first | (go_grown; done) | (go_simp; omega))⟩
    · have C := i64cmp x k
      rw [sg_eq h] at C
      rw [if_neg (by omega)]
      clear h
      go_enter Tryz.func163, Tryz.ntmps163
      go_wp2_with (go_at_call 148; (with_reducible refine (C _).mono ?_); rintro e w1 ⟨rfl, hb1⟩)
      go_ret2
      exact ⟨rfl, by first | (go_grown; done) | (refine below_then ?_ ?_ hb1 <;> first | (go_grown; done) | (go_simp; omega))⟩
    · have C := i64cmp x k
      rw [sg_gt h] at C
      rw [if_neg (by omega)]
      clear h
      go_enter Tryz.func163, Tryz.ntmps163
      go_wp2_with (go_at_call 148; (with_reducible refine (C _).mono ?_); rintro e w1 ⟨rfl, hb1⟩)
      go_ret2
      exact ⟨rfl, by first | (go_grown; done) | (refine below_then ?_ ?_ hb1 <;> first | (go_grown; done) | (go_simp; omega))⟩
  all_goals
    simp only [Ct.v, at99V, at100V, at101V, at102V, at103V, cp, tv] at *
    go_enter Tryz.func163, Tryz.ntmps163
    go_wp2_with (go_at_call 148; (with_reducible refine (i64cmp _ _ _).mono ?_); rintro e w1 ⟨rfl, hb1⟩)
    go_ret2
    exact ⟨rfl, by first | (go_grown; done) | (refine below_then ?_ ?_ hb1 <;> first | (go_grown; done) | (go_simp; omega))⟩
theorem cmp122 (x : Int) (b : Ct) (w : World) : Calls Tryz.prog 159 #[.agg #[.iface 2 (.int .i64 x)], b.v, tv] w fun e w' => e = .returned (.tuple #[.int .i64 (cp (.bl x) b), .nilIface]) ∧ Below w.heap.size w w' := by
  have p1 := at100 b
  have p2 := at99 b
  have p3 := at101 b
  have p4 := at102 b
  have p5 := at103 b
  cases b
  case ab k =>
    simp only [Ct.v, at99V, at100V, at101V, at102V, at103V, cp, tv] at *
    rcases Int.lt_trichotomy k x with h | h | h
    · have C := i64cmp k x
      rw [sg_lt h] at C
      rw [if_pos h]
      clear h
      go_enter Tryz.func159, Tryz.ntmps159
      go_wp2_with (go_at_call 148; (with_reducible refine (C _).mono ?_); rintro e w1 ⟨rfl, hb1⟩)
      go_ret2
      exact ⟨rfl, by first | (go_grown; done) | (refine below_then ?_ ?_ hb1 <;> first | (go_grown; done) | (go_simp; omega))⟩
    · have C := i64cmp k x
      rw [sg_eq h] at C
      rw [if_neg (by omega)]
      clear h
      go_enter Tryz.func159, Tryz.ntmps159
      go_wp2_with (go_at_call 148; (with_reducible refine (C _).mono ?_); rintro e w1 ⟨rfl, hb1⟩)
      go_ret2
      exact ⟨rfl, by first | (go_grown; done) | (refine below_then ?_ ?_ hb1 <;> first | (go_grown; done) | (go_simp; omega))⟩
    · have C := i64cmp k x
      rw [sg_gt h] at C
      rw [if_neg (by omega)]
      clear h
      go_enter Tryz.func159, Tryz.ntmps159
      go_wp2_with (go_at_call 148; (with_reducible refine (C _).mono ?_); rintro e w1 ⟨rfl, hb1⟩)
      go_ret2
      exact ⟨rfl, by first | (go_grown; done) | (refine below_then ?_ ?_ hb1 <;> first | (go_grown; done) | (go_simp; omega))⟩
  all_goals
    simp only [Ct.v, at99V, at100V, at101V, at102V, at103V, cp, tv] at *
    go_enter Tryz.func159, Tryz.ntmps159
    go_wp2_with (go_at_call 148; (with_reducible refine (i64cmp _ _ _).mono ?_); rintro e w1 ⟨rfl, hb1⟩)
    go_ret2
    exact ⟨rfl, by first | (go_grown; done) | (refine below_then ?_ ?_ hb1 <;> first | (go_grown; done) | (go_simp; omega))⟩

/-- Which method is called. -/
def cmpF : Ct → Nat
  | .bn => 151 | .an => 155 | .bl _ => 159 | .ab _ => 163 | .aa => 167
def Ct.inner : Ct → Value
  | .bl k => .agg #[.iface 2 (.int .i64 k)]
  | .ab k => .agg #[.iface 2 (.int .i64 k)]
  | _ => .agg #[]
theorem cmp_any (a b : Ct) (w : World) : Calls Tryz.prog (cmpF a) #[a.inner, b.v, tv] w fun e w' => e = .returned (.tuple #[.int .i64 (cp a b), .nilIface]) ∧ Below w.heap.size w w' := by
  cases a
  · exact cmp130 b w
  · exact cmp126 b w
  · exact cmp122 _ b w
  · exact cmp100 _ b w
  · exact cmp118 b w

end Go.Proofs.YtfnogpelaoofbaaGreatDoor.Rg

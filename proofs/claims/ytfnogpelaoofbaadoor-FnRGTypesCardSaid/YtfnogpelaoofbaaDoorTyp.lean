/- The types of ranges: the walks of FnRGTypes. Conditions: those written at each lemma. -/
import Derived.Test.YtfnogpelaoofbaaDoorProg
import Derived.Test.YtfnogpelaoofbaaDoorBase
import Derived.Test.YtfnogpelaoofbaaDoorCut
import Derived.Deep.Cut
set_option linter.unusedVariables false
set_option linter.unusedSimpArgs false
set_option maxRecDepth 100000
set_option maxHeartbeats 4000000
namespace Go.Proofs.YtfnogpelaoofbaaDoor.Rg
open Go.RowKit Go.Proofs.YtfnogpelaoofbaaDoor.B

def ty : Ct → Ct → Int
  | .aa, .aa => 1
  | .bn, .aa => 2
  | .ab _, .aa => 3
  | .bl _, .aa => 4
  | .bn, .bl _ => 5
  | .bn, .ab _ => 6
  | .bl _, .ab _ => 7
  | .ab _, .bl _ => 8
  | .ab _, .ab _ => 9
  | .bl _, .bl _ => 10
  | .bn, .an => 11
  | _, _ => 0
/-- What a type switch finds. -/
def as99V (a : Ct) : Value := (match a with | .ab k => .tuple #[.agg #[.iface 2 (.int .i64 k)], .bool true] | _ => .tuple #[.agg #[.nilIface], .bool false])
theorem as99 (a : Ct) (W : World) : (Instr.typeAssert a.v 60 99 true).run Tryd.prog W = .ok (as99V a) W := by cases a <;> kernel_rfl
/-- What a type switch finds. -/
def as101V (a : Ct) : Value := (match a with | .bl k => .tuple #[.agg #[.iface 2 (.int .i64 k)], .bool true] | _ => .tuple #[.agg #[.nilIface], .bool false])
theorem as101 (a : Ct) (W : World) : (Instr.typeAssert a.v 60 101 true).run Tryd.prog W = .ok (as101V a) W := by cases a <;> kernel_rfl
/-- What a type switch finds. -/
def as100V (a : Ct) : Value := (match a with | .aa => .tuple #[.agg #[], .bool true] | _ => .tuple #[.agg #[], .bool false])
theorem as100 (a : Ct) (W : World) : (Instr.typeAssert a.v 60 100 true).run Tryd.prog W = .ok (as100V a) W := by cases a <;> kernel_rfl
/-- What a type switch finds. -/
def as102V (a : Ct) : Value := (match a with | .an => .tuple #[.agg #[], .bool true] | _ => .tuple #[.agg #[], .bool false])
theorem as102 (a : Ct) (W : World) : (Instr.typeAssert a.v 60 102 true).run Tryd.prog W = .ok (as102V a) W := by cases a <;> kernel_rfl
/-- What a type switch finds. -/
def as103V (a : Ct) : Value := (match a with | .bn => .tuple #[.agg #[], .bool true] | _ => .tuple #[.agg #[], .bool false])
theorem as103 (a : Ct) (W : World) : (Instr.typeAssert a.v 60 103 true).run Tryd.prog W = .ok (as103V a) W := by cases a <;> kernel_rfl
theorem type_any (a b : Ct) (w : World) (h : ty a b ≠ 0) : Calls Tryd.prog 35 #[exV a b] w fun e w' => e = .returned (.int .i64 (ty a b)) ∧ Below w.heap.size w w' := by
  have p1 := as99 a
  have p2 := as100 a
  have p3 := as101 a
  have p4 := as102 a
  have p5 := as103 a
  have r1 := as99 b
  have r2 := as100 b
  have r3 := as101 b
  have r4 := as102 b
  have r5 := as103 b
  cases a <;> cases b
  all_goals first
    | (exfalso; exact h rfl)
    | (clear h
       simp only [exV, Ct.v, ty, tv, as99V, as100V, as101V, as102V, as103V] at *
       go_enter Tryd.func35, Tryd.ntmps35
       go_wp2
       go_ret
       exact ⟨rfl, (Below.refl _ _).alloc (Nat.le_refl _) _⟩)
theorem rgtype_any (k1 x1 k2 x2 : Int) (w : World) (h1 : 0 ≤ k1) (h2 : k1 ≤ 4) (h3 : 0 ≤ k2) (h4 : k2 ≤ 4) (h : ty (ctOf k1 x1) (ctOf k2 x2) ≠ 0) :
    Calls Tryd.prog 10 #[.agg #[.int .i64 k1, .int .i64 x1, .int .i64 k2, .int .i64 x2]] w fun e w' => e = .returned (.int .i64 (ty (ctOf k1 x1) (ctOf k2 x2))) ∧ Below w.heap.size w w' := by
  have C1 := fun W => expr_any k1 x1 k2 x2 W h1 h2 h3 h4
  have C2 := fun W => type_any _ _ W h
  clear h
  generalize ty (ctOf k1 x1) (ctOf k2 x2) = t at *
  generalize exV (ctOf k1 x1) (ctOf k2 x2) = v at *
  go_enter Tryd.func10, Tryd.ntmps10
  go_wp2_with (first
    | (go_at_call 34; (with_reducible refine (C1 _).mono ?_); rintro e w1 ⟨rfl, hb1⟩)
    | (go_at_call 35; (with_reducible refine (C2 _).mono ?_); rintro e w2 ⟨rfl, hb2⟩))
  go_ret
  refine ⟨rfl, ?_⟩
  have g1 := hb1.size
  have g0 : w.heap.size ≤ (w.alloc (.cells #[.int .i64 k1, .int .i64 x1, .int .i64 k2, .int .i64 x2] 27)).heap.size := by first | (go_simp; done) | (go_simp; omega)
  exact (((Below.refl w.heap.size w).alloc (Nat.le_refl _) _).trans (hb1.mono g0)).trans (hb2.mono (Nat.le_trans g0 g1))

theorem below_cl (x : Int) (w : World) : Calls Tryd.prog 8 #[.int .i64 x] w fun e w' => e = .returned (cutV 2 x) ∧ Below w.heap.size w w' := by
  go_enter Tryd.func8, Tryd.ntmps8
  go_wp2
  refine bodyPost_ret (v := cutV 2 x) ?_ rfl ⟨rfl, ?_⟩
  · simp only [results, show Tryd.f8.results = #[.cell 2 24] by kernel_rfl]
    go_simp
  exact (Below.refl _ _).alloc (Nat.le_refl _) _
theorem above_cl (x : Int) (w : World) : Calls Tryd.prog 9 #[.int .i64 x] w fun e w' => e = .returned (cutV 3 x) ∧ Below w.heap.size w w' := by
  go_enter Tryd.func9, Tryd.ntmps9
  go_wp2
  refine bodyPost_ret (v := cutV 3 x) ?_ rfl ⟨rfl, ?_⟩
  · simp only [results, show Tryd.f9.results = #[.cell 2 24] by kernel_rfl]
    go_simp
  exact (Below.refl _ _).alloc (Nat.le_refl _) _

abbrev SL (B : Nat) (W : World) : Prop := W.cell? ⟨B, 0, none⟩ = some (.int .i64 4) ∧ W.cell? ⟨B, 1, none⟩ = some (.int .i64 0) ∧ B < W.heap.size
theorem keepL {B : Nat} {W w' : World} (hb : Below W.heap.size W w') (h : SL B W) : SL B w' :=
  ⟨cell_below hb h.1, cell_below hb h.2.1, by have := hb.size; have := h.2.2; omega⟩

theorem keepB {B : Nat} {w W w' : World} (hb : Below W.heap.size W w') (h : SL B W ∧ Below B w W) : SL B w' ∧ Below B w w' :=
  ⟨keepL hb h.1, h.2.trans (hb.mono (Nat.le_of_lt h.1.2.2))⟩
theorem allocB {B : Nat} {w W : World} (o : Obj) (h : SL B W ∧ Below B w W) : SL B (W.alloc o) ∧ Below B w (W.alloc o) := by
  have hb : Below W.heap.size W (W.alloc o) := (Below.refl _ _).alloc (Nat.le_refl _) o
  exact keepB hb h
theorem types_le (kind one two : Int) (w : World) (hk : 0 ≤ kind) (hk2 : kind ≤ 255) (h1 : -128 ≤ one) (h2 : one ≤ 127) (h3 : -128 ≤ two) (h4 : two ≤ 127)
    (hab : one.tmod 21 ≤ two.tmod 21) :
    Calls Tryd.prog 3 #[.int .u8 kind, .int .i8 one, .int .i8 two] w fun e w' => e = .returned (.bool true) ∧ Below w.heap.size w w' := by
  have B1 : ∀ x W, _ := below_cl
  have B2 : ∀ x W, _ := above_cl
  have q1 : -20 ≤ one.tmod 21 ∧ one.tmod 21 ≤ 20 := by have := Int.natAbs_tmod one 21; rw [show Int.natAbs 21 = 21 from rfl] at this; omega
  have q2 : -20 ≤ two.tmod 21 ∧ two.tmod 21 ≤ 20 := by have := Int.natAbs_tmod two 21; rw [show Int.natAbs 21 = 21 from rfl] at this; omega
  have hS : SL w.heap.size (w.alloc (.cells #[.int .i64 4, .int .i64 0] 24)).drew := by
    refine ⟨?_, ?_, ?_⟩ <;> first | (go_simp; done) | (go_simp; omega)
  have hb0 : Below w.heap.size w (w.alloc (.cells #[.int .i64 4, .int .i64 0] 24)).drew := ((Below.refl w.heap.size w).alloc (Nat.le_refl _) _).drew
  have hbl := Lib.hid hb0
  clear hb0
  have hkk : kind % 11 = 0 ∨ kind % 11 = 1 ∨ kind % 11 = 2 ∨ kind % 11 = 3 ∨ kind % 11 = 4 ∨ kind % 11 = 5 ∨ kind % 11 = 6 ∨ kind % 11 = 7 ∨ kind % 11 = 8 ∨ kind % 11 = 9 ∨ kind % 11 = 10 := by omega
  have hkd := Lib.hid hkk
  clear hkk
  go_enter Tryd.func3, Tryd.ntmps3
  go_upto_region 7 with fail
  generalize one.tmod 21 = a at *
  generalize two.tmod 21 = b at *
  go_region_held3 (fun W => SL w.heap.size W ∧ Below w.heap.size w W) (first | (refine ⟨?_, ?_⟩ <;> assumption) | exact ⟨hS, hbl.out⟩ | (refine keepB hb1 ?_; assumption) | (refine allocB _ ?_; assumption)) (first
      | (go_at_call 8; (with_reducible refine (B1 _ _).mono ?_); rintro e w1 ⟨rfl, hb1⟩)
      | (go_at_call 9; (with_reducible refine (B2 _ _).mono ?_); rintro e w1 ⟨rfl, hb1⟩))
  rename_i hHd
  have hX := Lib.hid hHd.2
  clear hHd hb1
  rcases hkd.out with hk1 | hk1 | hk1 | hk1 | hk1 | hk1 | hk1 | hk1 | hk1 | hk1 | hk1
  all_goals
    go_wp2_with (go_at_call 10; refine (rgtype_any _ _ _ _ _ (by decide) (by decide) (by decide) (by decide) (by simp [ctOf, ty])).mono ?_; rintro e w5 ⟨rfl, hb5⟩; simp only [ctOf, ty])
    go_ret
    exact ⟨rfl, hX.out.trans (hb5.mono hX.out.size)⟩

end Go.Proofs.YtfnogpelaoofbaaDoor.Rg

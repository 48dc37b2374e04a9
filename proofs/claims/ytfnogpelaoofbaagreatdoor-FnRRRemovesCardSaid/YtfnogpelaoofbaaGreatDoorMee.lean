/- Two ranges of a column: what they have in common. Conditions: those written at each lemma. -/
import Derived.Test.YtfnogpelaoofbaaGreatDoorProg
import Derived.Test.YtfnogpelaoofbaaGreatDoorBase
import Derived.Test.YtfnogpelaoofbaaGreatDoorCmp
import Derived.Handy
set_option linter.unusedVariables false
set_option linter.unusedSimpArgs false
set_option maxRecDepth 100000
set_option maxHeartbeats 4000000
namespace Go.Proofs.YtfnogpelaoofbaaGreatDoor.Rg
open Go.RowKit Go.Proofs.YtfnogpelaoofbaaGreatDoor.B

def Ct.tid : Ct → TypeId
  | .bn => 151 | .an => 152 | .bl _ => 154 | .ab _ => 155 | .aa => 156
theorem Ct.v_eq (a : Ct) : a.v = .iface a.tid a.inner := by cases a <;> rfl
theorem met_any (a : Ct) (W : World) : (Go.method 325 a.tid a.inner "Compare").run Tryz.prog W = .ok (cmpF a, a.inner) W := by
  cases a <;> kernel_rfl
theorem fun_any (a : Ct) (args : Array Value) (W : World) : (callFunc (cmpF a) args).run Tryz.prog W = .ok (.enter (cmpF a) args) W := by
  cases a <;> kernel_rfl

/-- A call of Compare at positions of which only the answer is known. -/
structure Cmp (ta : TypeId) (ai : Value) (tb : TypeId) (bi : Value) (n : Int) (f : Nat) : Prop where
  met : ∀ W, (Go.method 325 ta ai "Compare").run Tryz.prog W = .ok (f, ai) W
  fn : ∀ args W, (callFunc f args).run Tryz.prog W = .ok (.enter f args) W
  call : ∀ W, Calls Tryz.prog f #[ai, .iface tb bi, tv] W fun e w' => e = .returned (.tuple #[.int .i64 n, .nilIface]) ∧ Below W.heap.size W w'
theorem cmp_of (a b : Ct) : Cmp a.tid a.inner b.tid b.inner (cp a b) (cmpF a) :=
  ⟨met_any a, fun_any a, fun W => by rw [← Ct.v_eq]; exact cmp_any a b W⟩

theorem ord_le {ta tb : TypeId} {ai bi : Value} {n : Int} {f : Nat} (C : Cmp ta ai tb bi n f) (w : World) (hn : n ≤ 0) : Calls Tryz.prog 91 #[.iface ta ai, .iface tb bi, tv] w
    fun e w' => e = .returned (.tuple #[.iface ta ai, .iface tb bi, .nilIface]) ∧ Below w.heap.size w w' := by
  obtain ⟨hi, hf, C⟩ := C
  go_enter Tryz.func91, Tryz.ntmps91
  go_wp2_with ((with_reducible refine (C _).mono ?_); rintro e w1 ⟨rfl, hb1⟩)
  go_ret3
  exact ⟨rfl, hb1⟩
theorem ord_gt {ta tb : TypeId} {ai bi : Value} {n : Int} {f : Nat} (C : Cmp ta ai tb bi n f) (w : World) (hn : ¬ n ≤ 0) : Calls Tryz.prog 91 #[.iface ta ai, .iface tb bi, tv] w
    fun e w' => e = .returned (.tuple #[.iface tb bi, .iface ta ai, .nilIface]) ∧ Below w.heap.size w w' := by
  obtain ⟨hi, hf, C⟩ := C
  go_enter Tryz.func91, Tryz.ntmps91
  go_wp2_with ((with_reducible refine (C _).mono ?_); rintro e w1 ⟨rfl, hb1⟩)
  go_ret3
  exact ⟨rfl, hb1⟩
def mx (a b : Ct) : Ct := if cp a b ≤ 0 then b else a
def mn (a b : Ct) : Ct := if cp a b ≤ 0 then a else b
theorem ord_any (a b : Ct) (w : World) : Calls Tryz.prog 91 #[.iface a.tid a.inner, .iface b.tid b.inner, tv] w
    fun e w' => e = .returned (.tuple #[.iface (mn a b).tid (mn a b).inner, .iface (mx a b).tid (mx a b).inner, .nilIface]) ∧ Below w.heap.size w w' := by
  unfold mn mx
  by_cases hn : cp a b ≤ 0
  · simp only [if_pos hn]; exact ord_le (cmp_of a b) w hn
  · simp only [if_neg hn]; exact ord_gt (cmp_of a b) w hn

abbrev exI (ta : TypeId) (ai : Value) (tb : TypeId) (bi : Value) : Value := .agg #[.iface ta ai, .iface tb bi, tv]
theorem ex_eq (a b : Ct) : exV a b = exI a.tid a.inner b.tid b.inner := by show Value.agg #[a.v, b.v, tv] = _; rw [Ct.v_eq a, Ct.v_eq b]

/-- IsEmpty. -/
theorem empty_gen {ta tb : TypeId} {ai bi : Value} {n : Int} {f : Nat} (C : Cmp ta ai tb bi n f) (w : World) : Calls Tryz.prog 86 #[exI ta ai tb bi] w
    fun e w' => e = .returned (.tuple #[.bool (decide (0 ≤ n)), .nilIface]) ∧ Below w.heap.size w w' := by
  obtain ⟨hi, hf, C⟩ := C
  go_enter Tryz.func86, Tryz.ntmps86
  go_wp2_with ((with_reducible refine (C _).mono ?_); rintro e w1 ⟨rfl, hb1⟩)
  go_ret2
  exact ⟨rfl, by first | (go_grown; done) | (refine below_then ?_ ?_ hb1 <;> first | (go_grown; done) | (go_simp; omega))⟩

abbrev exC (ta : TypeId) (ai : Value) (tb : TypeId) (bi : Value) : Obj := .cells #[.iface ta ai, .iface tb bi, tv] 92
abbrev niC : Obj := .cells #[.nilIface, .nilIface, .nilIface] 92
/-- What the walk holds: the two ranges and the result's own place. -/
abbrev P9 (B : Nat) (ta : TypeId) (ai : Value) (tb : TypeId) (bi : Value) (tc : TypeId) (ci : Value) (td : TypeId) (di : Value) (W : World) : Prop :=
  W.cell? ⟨B, 0, none⟩ = some (.iface ta ai) ∧ W.cell? ⟨B, 1, none⟩ = some (.iface tb bi) ∧ W.cell? ⟨B, 2, none⟩ = some tv ∧
  W.cell? ⟨B + 1, 0, none⟩ = some (.iface tc ci) ∧ W.cell? ⟨B + 1, 1, none⟩ = some (.iface td di) ∧ W.cell? ⟨B + 1, 2, none⟩ = some tv ∧
  W.cell? ⟨B + 1 + 1, 0, none⟩ = some .nilIface ∧ W.cell? ⟨B + 1 + 1, 1, none⟩ = some .nilIface ∧ W.cell? ⟨B + 1 + 1, 2, none⟩ = some .nilIface ∧
  W.frozen? ⟨B + 1 + 1, 0, none⟩ = false ∧ W.frozen? ⟨B + 1 + 1, 1, none⟩ = false ∧ W.frozen? ⟨B + 1 + 1, 2, none⟩ = false ∧ B + 1 + 1 < W.heap.size
theorem keep9 {B : Nat} {ta tb tc td : TypeId} {ai bi ci di : Value} {W w' : World} (hb : Below W.heap.size W w') (h : P9 B ta ai tb bi tc ci td di W) : P9 B ta ai tb bi tc ci td di w' := by
  obtain ⟨c0, c1, c2, c3, c4, c5, c6, c7, c8, f0, f1, f2, hB⟩ := h
  exact ⟨cell_below hb c0, cell_below hb c1, cell_below hb c2, cell_below hb c3, cell_below hb c4, cell_below hb c5, cell_below hb c6, cell_below hb c7, cell_below hb c8,
    (hb.frozen (p := ⟨B + 1 + 1, 0, none⟩) hB).trans f0, (hb.frozen (p := ⟨B + 1 + 1, 1, none⟩) hB).trans f1, (hb.frozen (p := ⟨B + 1 + 1, 2, none⟩) hB).trans f2, Nat.lt_of_lt_of_le hB hb.size⟩
theorem start9 (ta tb tc td : TypeId) (ai bi ci di : Value) (w : World) : P9 w.heap.size ta ai tb bi tc ci td di (((w.alloc (exC ta ai tb bi)).alloc (exC tc ci td di)).alloc niC) := by
  refine ⟨?_, ?_, ?_, ?_, ?_, ?_, ?_, ?_, ?_, ?_, ?_, ?_, ?_⟩
  all_goals first | (go_simp; done) | (simp; done) | (go_simp; omega)
theorem below9 (o1 o2 o3 : Obj) (w : World) : Below w.heap.size w (((w.alloc o1).alloc o2).alloc o3) := by go_grown

theorem try_gen {ta tb tc td tl tu : TypeId} {ai bi ci di li ui : Value} {n : Int} {f : Nat} (w : World)
    (L : ∀ W, Calls Tryz.prog 91 #[.iface ta ai, .iface tc ci, tv] W fun e w' => (∃ x, e = .returned (.tuple #[x, .iface tl li, .nilIface])) ∧ Below W.heap.size W w')
    (U : ∀ W, Calls Tryz.prog 91 #[.iface tb bi, .iface td di, tv] W fun e w' => (∃ x, e = .returned (.tuple #[.iface tu ui, x, .nilIface])) ∧ Below W.heap.size W w')
    (C : Cmp tl li tu ui n f) (hn : n < 0) :
    Calls Tryz.prog 77 #[exI ta ai tb bi, exI tc ci td di] w fun e w' => e = .returned (.tuple #[exI tl li tu ui, .bool true, .nilIface]) ∧ Below w.heap.size w w' := by
  obtain ⟨hi, hf, C⟩ := C
  have S0 := Lib.hid (start9 ta tb tc td ai bi ci di w)
  have B0 := Lib.hid (below9 (exC ta ai tb bi) (exC tc ci td di) niC w)
  go_enter Tryz.func77, Tryz.ntmps77
  go_wp2_with (first
    | ((with_reducible refine (L _).mono ?_); rintro e w1 ⟨⟨x, rfl⟩, hb1⟩
       have S1 := Lib.hid (keep9 hb1 S0.out)
       have B1 := Lib.hid (B0.out.trans (hb1.mono B0.out.size))
       clear hb1
       obtain ⟨c0, c1, c2, c3, c4, c5, c6, c7, c8, f0, f1, f2, hB⟩ := S1.out)
    | ((with_reducible refine (U _).mono ?_); rintro e w2 ⟨⟨x, rfl⟩, hb2⟩
       have S2 := Lib.hid (keep9 hb2 S1.out)
       have B2 := Lib.hid (B1.out.trans (hb2.mono B1.out.size))
       clear hb2 c0 c1 c2 c3 c4 c5 c6 c7 c8 f0 f1 f2 hB
       obtain ⟨c0, c1, c2, c3, c4, c5, c6, c7, c8, f0, f1, f2, hB⟩ := S2.out)
    | ((with_reducible refine (C _).mono ?_); rintro e w3 ⟨rfl, hb3⟩
       have S3 := Lib.hid (keep9 hb3 S2.out)
       have B3 := Lib.hid (B2.out.trans (hb3.mono B2.out.size))
       clear hb3 c0 c1 c2 c3 c4 c5 c6 c7 c8 f0 f1 f2 hB
       obtain ⟨c0, c1, c2, c3, c4, c5, c6, c7, c8, f0, f1, f2, hB⟩ := S3.out))
  refine bodyPost_ret (v := .tuple #[exI tl li tu ui, .bool true, .nilIface]) ?_ rfl ⟨rfl, ?_⟩
  · simp only [results, show Tryz.f77.results = #[.cell 4 92, .tmp 5, .tmp 6] by kernel_rfl]
    go_simp
  · exact ((B3.out.setCell (by show _ ≤ w.heap.size + 1 + 1; omega) _).setCell (by show _ ≤ w.heap.size + 1 + 1; omega) _).setCell (by show _ ≤ w.heap.size + 1 + 1; omega) _

end Go.Proofs.YtfnogpelaoofbaaGreatDoor.Rg

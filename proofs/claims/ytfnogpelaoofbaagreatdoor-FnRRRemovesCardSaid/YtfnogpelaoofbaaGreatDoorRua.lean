/- Two columns' ranges compared: Equals. Conditions: those written at each lemma. -/
import Derived.Test.YtfnogpelaoofbaaGreatDoorRrf
set_option linter.unusedVariables false
set_option linter.unusedSimpArgs false
set_option maxRecDepth 100000
set_option maxHeartbeats 4000000
namespace Go.Proofs.YtfnogpelaoofbaaGreatDoor.Rg
open Go.RowKit Go.Proofs.YtfnogpelaoofbaaGreatDoor.B Go.Proofs.YtfnogpelaoofbaaGreatDoor.Sp

/-- The two ranges, as they lie boxed. -/
abbrev P6 (B : Nat) (ta : TypeId) (ai : Value) (tb : TypeId) (bi : Value) (tc : TypeId) (ci : Value) (td : TypeId) (di : Value) (W : World) : Prop :=
  W.cell? ⟨B, 0, none⟩ = some (.iface ta ai) ∧ W.cell? ⟨B, 1, none⟩ = some (.iface tb bi) ∧ W.cell? ⟨B, 2, none⟩ = some tv ∧
  W.cell? ⟨B + 1, 0, none⟩ = some (.iface tc ci) ∧ W.cell? ⟨B + 1, 1, none⟩ = some (.iface td di) ∧ W.cell? ⟨B + 1, 2, none⟩ = some tv
theorem keep6 {B : Nat} {ta tb tc td : TypeId} {ai bi ci di : Value} {W W' : World} (hb : Below W.heap.size W W') (h : P6 B ta ai tb bi tc ci td di W) : P6 B ta ai tb bi tc ci td di W' := by
  obtain ⟨c0, c1, c2, c3, c4, c5⟩ := h
  exact ⟨cell_below hb c0, cell_below hb c1, cell_below hb c2, cell_below hb c3, cell_below hb c4, cell_below hb c5⟩
theorem start6 (ta : TypeId) (ai : Value) (tb : TypeId) (bi : Value) (tc : TypeId) (ci : Value) (td : TypeId) (di : Value) (w : World) :
    P6 w.heap.size ta ai tb bi tc ci td di ((w.alloc (exC ta ai tb bi)).alloc (exC tc ci td di)) ∧ Below w.heap.size w ((w.alloc (exC ta ai tb bi)).alloc (exC tc ci td di)) := by
  refine ⟨⟨?_, ?_, ?_, ?_, ?_, ?_⟩, ((Below.refl _ _).alloc (Nat.le_refl _) _).alloc (by simp) _⟩ <;> go_simp
theorem equals_gen {ta tb tc td : TypeId} {ai bi ci di : Value} {n m : Int} {f g : Nat} (C : Cmp ta ai tc ci n f) (D : Cmp tb bi td di m g) (w : World) :
    Calls Tryz.prog 50 #[exI ta ai tb bi, exI tc ci td di] w fun e w' => e = .returned (.tuple #[.bool (decide (n = 0) && decide (m = 0)), .nilIface]) ∧ Below w.heap.size w w' := by
  obtain ⟨hi, hf, C⟩ := C
  obtain ⟨hi2, hf2, D⟩ := D
  obtain ⟨s0, b0⟩ := start6 ta ai tb bi tc ci td di w
  have S0 := Lib.hid s0
  have B0 := Lib.hid b0
  clear s0 b0
  by_cases hn : n = 0 <;> by_cases hm : m = 0
  all_goals
    first | subst hn | skip
    first | subst hm | skip
    try (have hn1 : (n == 0) = false := by rw [beq_eq_false_iff_ne]; exact hn)
    try (have hn2 : decide (n = 0) = false := decide_eq_false hn)
    try (have hm1 : (m == 0) = false := by rw [beq_eq_false_iff_ne]; exact hm)
    try (have hm2 : decide (m = 0) = false := decide_eq_false hm)
    try simp only [hn2]
    try simp only [hm2]
    go_enter Tryz.func50, Tryz.ntmps50
    go_wp2_with (first
      | ((with_reducible refine (C _).mono ?_); rintro e w1 ⟨rfl, hb1⟩
         have S1 := Lib.hid (keep6 hb1 S0.out)
         have B1 := Lib.hid (B0.out.trans (hb1.mono B0.out.size))
         clear hb1
         obtain ⟨c0, c1, c2, c3, c4, c5⟩ := S1.out)
      | ((with_reducible refine (D _).mono ?_); rintro e w2 ⟨rfl, hb2⟩
         have B2 := Lib.hid (B1.out.trans (hb2.mono B1.out.size))
         clear hb2))
    go_ret2
    exact ⟨rfl, B2.out⟩
theorem equals_ct (a b c d : Ct) (w : World) : Calls Tryz.prog 50 #[exV a b, exV c d] w fun e w' => e = .returned (.tuple #[.bool (decide (cp a c = 0) && decide (cp b d = 0)), .nilIface]) ∧ Below w.heap.size w w' := by
  rw [ex_eq a b, ex_eq c d]
  exact equals_gen (cmp_of a c) (cmp_of b d) w
theorem keep6B {B : Nat} {ta tb tc td : TypeId} {ai bi ci di : Value} {w W w' : World} (hb : Below W.heap.size W w') (h : P6 B ta ai tb bi tc ci td di W ∧ Below w.heap.size w W) : P6 B ta ai tb bi tc ci td di w' ∧ Below w.heap.size w w' :=
  ⟨keep6 hb h.1, h.2.trans (hb.mono h.2.size)⟩
theorem keep6d {B : Nat} {ta tb tc td : TypeId} {ai bi ci di : Value} {w W : World} (h : P6 B ta ai tb bi tc ci td di W ∧ Below w.heap.size w W) : P6 B ta ai tb bi tc ci td di W.drew ∧ Below w.heap.size w W.drew := ⟨h.1, h.2.drew⟩
/-- IsSubsetOf of two columns' ranges. -/
theorem subset_gen {ta tb tc td : TypeId} {ai bi ci di : Value} {n m : Int} {f g : Nat} (C : Cmp ta ai tc ci n f) (D : Cmp tb bi td di m g) (w : World) :
    Calls Tryz.prog 97 #[exI ta ai tb bi, exI tc ci td di] w fun e w' => e = .returned (.tuple #[.bool (!decide (n = -1) && !decide (m = 1)), .nilIface]) ∧ Below w.heap.size w w' := by
  obtain ⟨hi, hf, C⟩ := C
  obtain ⟨hi2, hf2, D⟩ := D
  have G0 := Lib.hid (keep6d (start6 ta ai tb bi tc ci td di w))
  by_cases hn : n = -1 <;> by_cases hm : m = 1
  all_goals
    first | subst hn | skip
    first | subst hm | skip
    try (have hn1 : (n == -1) = false := by rw [beq_eq_false_iff_ne]; exact hn)
    try (have hn2 : decide (n = -1) = false := decide_eq_false hn)
    try (have hm1 : (m == 1) = false := by rw [beq_eq_false_iff_ne]; exact hm)
    try (have hm2 : decide (m = 1) = false := decide_eq_false hm)
    try simp only [hn2]
    try simp only [hm2]
    go_enter Tryz.func97, Tryz.ntmps97
    go_wp2
    go_region_held3 (fun W => P6 w.heap.size ta ai tb bi tc ci td di W ∧ Below w.heap.size w W) (first | exact G0.out | assumption | (refine keep6B hb ?_; assumption)) (first
      | ((with_reducible refine (str_any _).mono ?_); rintro e w1 ⟨rfl, hb⟩))
    rename_i hHd
    have T1 := Lib.hid hHd
    clear hHd
    obtain ⟨c0, c1, c2, c3, c4, c5⟩ := T1.out.1
    go_wp2_with (first
      | ((with_reducible refine (C _).mono ?_); rintro e w2 ⟨rfl, hb2⟩
         have T2 := Lib.hid (keep6B hb2 T1.out)
         clear hb2 c0 c1 c2 c3 c4 c5
         obtain ⟨c0, c1, c2, c3, c4, c5⟩ := T2.out.1)
      | ((with_reducible refine (D _).mono ?_); rintro e w3 ⟨rfl, hb3⟩
         have T3 := Lib.hid (keep6B hb3 T2.out)
         clear hb3 c0 c1 c2 c3 c4 c5
         obtain ⟨c0, c1, c2, c3, c4, c5⟩ := T3.out.1))
    go_ret2
    first | exact ⟨rfl, T3.out.2⟩ | exact ⟨rfl, T2.out.2⟩
theorem subset_ct (a b c d : Ct) (w : World) : Calls Tryz.prog 97 #[exV a b, exV c d] w fun e w' => e = .returned (.tuple #[.bool (!decide (cp a c = -1) && !decide (cp b d = 1)), .nilIface]) ∧ Below w.heap.size w w' := by
  rw [ex_eq a b, ex_eq c d]
  exact subset_gen (cmp_of a c) (cmp_of b d) w
/-- IsConnected of two columns' ranges. -/
theorem conn_gen {ta tb tc td : TypeId} {ai bi ci di : Value} {n m : Int} {f g : Nat} (C : Cmp ta ai td di n f) (D : Cmp tc ci tb bi m g) (w : World) :
    Calls Tryz.prog 90 #[exI ta ai tb bi, exI tc ci td di] w fun e w' => e = .returned (.tuple #[.bool (decide (n ≤ 0) && decide (m ≤ 0)), .nilIface]) ∧ Below w.heap.size w w' := by
  obtain ⟨hi, hf, C⟩ := C
  obtain ⟨hi2, hf2, D⟩ := D
  have G0 := Lib.hid (keep6d (start6 ta ai tb bi tc ci td di w))
  by_cases hn : n ≤ 0
  all_goals
    first | rw [decide_eq_true hn] | rw [decide_eq_false hn]
    go_enter Tryz.func90, Tryz.ntmps90
    go_wp2
    go_region_held3 (fun W => P6 w.heap.size ta ai tb bi tc ci td di W ∧ Below w.heap.size w W) (first | exact G0.out | assumption | (refine keep6B hb ?_; assumption)) (first
      | ((with_reducible refine (str_any _).mono ?_); rintro e w1 ⟨rfl, hb⟩))
    rename_i hHd
    have T1 := Lib.hid hHd
    clear hHd
    obtain ⟨c0, c1, c2, c3, c4, c5⟩ := T1.out.1
    go_wp2_with (first
      | ((with_reducible refine (C _).mono ?_); rintro e w2 ⟨rfl, hb2⟩
         have T2 := Lib.hid (keep6B hb2 T1.out)
         clear hb2 c0 c1 c2 c3 c4 c5
         obtain ⟨c0, c1, c2, c3, c4, c5⟩ := T2.out.1)
      | ((with_reducible refine (D _).mono ?_); rintro e w3 ⟨rfl, hb3⟩
         have T3 := Lib.hid (keep6B hb3 T2.out)
         clear hb3 c0 c1 c2 c3 c4 c5
         obtain ⟨c0, c1, c2, c3, c4, c5⟩ := T3.out.1))
    go_ret2
    first | exact ⟨rfl, T3.out.2⟩ | exact ⟨rfl, T2.out.2⟩
theorem conn_ct (a b c d : Ct) (w : World) : Calls Tryz.prog 90 #[exV a b, exV c d] w fun e w' => e = .returned (.tuple #[.bool (decide (cp a d ≤ 0) && decide (cp c b ≤ 0)), .nilIface]) ∧ Below w.heap.size w w' := by
  rw [ex_eq a b, ex_eq c d]
  exact conn_gen (cmp_of a d) (cmp_of c b) w
end Go.Proofs.YtfnogpelaoofbaaGreatDoor.Rg

/- Two columns' ranges joined: TryUnion. Conditions: those written at each lemma. -/
import Derived.Test.YtfnogpelaoofbaaGreatDoorRua
set_option linter.unusedVariables false
set_option linter.unusedSimpArgs false
set_option maxRecDepth 100000
set_option maxHeartbeats 4000000
namespace Go.Proofs.YtfnogpelaoofbaaGreatDoor.Rg
open Go.RowKit Go.Proofs.YtfnogpelaoofbaaGreatDoor.B Go.Proofs.YtfnogpelaoofbaaGreatDoor.Sp

theorem empty_ct (a b : Ct) (w : World) : Calls Tryz.prog 86 #[exV a b] w fun e w' => e = .returned (.tuple #[.bool (decide (0 ≤ cp a b)), .nilIface]) ∧ Below w.heap.size w w' := by
  rw [ex_eq a b]
  exact empty_gen (cmp_of a b) w

theorem un_first {ta tb tc td tl tl2 tu tu2 : TypeId} {ai bi ci di li li2 ui ui2 : Value} (w : World) (E1 : ∀ W, Calls Tryz.prog 86 #[exI tc ci td di] W fun e w' => e = .returned (.tuple #[.bool true, .nilIface]) ∧ Below W.heap.size W w') :
    Calls Tryz.prog 71 #[exI ta ai tb bi, exI tc ci td di] w fun e w' => e = .returned (.tuple #[exI ta ai tb bi, .bool true, .nilIface]) ∧ Below w.heap.size w w' := by
  have S0 := Lib.hid (start9 ta tb tc td ai bi ci di w)
  have B0 := Lib.hid (below9 (exC ta ai tb bi) (exC tc ci td di) niC w)
  have T0 := Lib.hid (show P9 w.heap.size ta ai tb bi tc ci td di (((w.alloc (exC ta ai tb bi)).alloc (exC tc ci td di)).alloc niC) ∧ Below w.heap.size w (((w.alloc (exC ta ai tb bi)).alloc (exC tc ci td di)).alloc niC) from ⟨S0.out, B0.out⟩)
  go_enter Tryz.func71, Tryz.ntmps71
  go_wp2_with (first
    | (go_at_call 86; (with_reducible refine (E1 _).mono ?_); rintro e w1 ⟨rfl, hb⟩
       have T1 := Lib.hid (keep9B hb T0.out)
       clear hb
       obtain ⟨c0, c1, c2, c3, c4, c5, c6, c7, c8, f0, f1, f2, hB⟩ := T1.out.1)
    )
  refine bodyPost_ret (v := .tuple #[exI ta ai tb bi, .bool true, .nilIface]) ?_ rfl ⟨rfl, ?_⟩
  · simp only [results, show Tryz.f71.results = #[.cell 4 92, .tmp 5, .tmp 6] by kernel_rfl]
    go_simp
  · exact (((T1.out.2).setCell (by show _ ≤ w.heap.size + 1 + 1; omega) _).setCell (by show _ ≤ w.heap.size + 1 + 1; omega) _).setCell (by show _ ≤ w.heap.size + 1 + 1; omega) _
theorem un_second {ta tb tc td tl tl2 tu tu2 : TypeId} {ai bi ci di li li2 ui ui2 : Value} (w : World) (E1 : ∀ W, Calls Tryz.prog 86 #[exI tc ci td di] W fun e w' => e = .returned (.tuple #[.bool false, .nilIface]) ∧ Below W.heap.size W w') (E2 : ∀ W, Calls Tryz.prog 86 #[exI ta ai tb bi] W fun e w' => e = .returned (.tuple #[.bool true, .nilIface]) ∧ Below W.heap.size W w') :
    Calls Tryz.prog 71 #[exI ta ai tb bi, exI tc ci td di] w fun e w' => e = .returned (.tuple #[exI tc ci td di, .bool true, .nilIface]) ∧ Below w.heap.size w w' := by
  have S0 := Lib.hid (start9 ta tb tc td ai bi ci di w)
  have B0 := Lib.hid (below9 (exC ta ai tb bi) (exC tc ci td di) niC w)
  have T0 := Lib.hid (show P9 w.heap.size ta ai tb bi tc ci td di (((w.alloc (exC ta ai tb bi)).alloc (exC tc ci td di)).alloc niC) ∧ Below w.heap.size w (((w.alloc (exC ta ai tb bi)).alloc (exC tc ci td di)).alloc niC) from ⟨S0.out, B0.out⟩)
  go_enter Tryz.func71, Tryz.ntmps71
  go_wp2_with (first
    | (go_at_call 86; (with_reducible refine (E1 _).mono ?_); rintro e w1 ⟨rfl, hb⟩
       have T1 := Lib.hid (keep9B hb T0.out)
       clear hb
       obtain ⟨c0, c1, c2, c3, c4, c5, c6, c7, c8, f0, f1, f2, hB⟩ := T1.out.1)
    | (go_at_call 86; (with_reducible refine (E2 _).mono ?_); rintro e w2 ⟨rfl, hb⟩
       have T2 := Lib.hid (keep9B hb T1.out)
       clear hb c0 c1 c2 c3 c4 c5 c6 c7 c8 f0 f1 f2 hB
       obtain ⟨c0, c1, c2, c3, c4, c5, c6, c7, c8, f0, f1, f2, hB⟩ := T2.out.1)
    )
  refine bodyPost_ret (v := .tuple #[exI tc ci td di, .bool true, .nilIface]) ?_ rfl ⟨rfl, ?_⟩
  · simp only [results, show Tryz.f71.results = #[.cell 4 92, .tmp 5, .tmp 6] by kernel_rfl]
    go_simp
  · exact (((T2.out.2).setCell (by show _ ≤ w.heap.size + 1 + 1; omega) _).setCell (by show _ ≤ w.heap.size + 1 + 1; omega) _).setCell (by show _ ≤ w.heap.size + 1 + 1; omega) _
theorem un_none {ta tb tc td tl tl2 tu tu2 : TypeId} {ai bi ci di li li2 ui ui2 : Value} (w : World) (E1 : ∀ W, Calls Tryz.prog 86 #[exI tc ci td di] W fun e w' => e = .returned (.tuple #[.bool false, .nilIface]) ∧ Below W.heap.size W w') (E2 : ∀ W, Calls Tryz.prog 86 #[exI ta ai tb bi] W fun e w' => e = .returned (.tuple #[.bool false, .nilIface]) ∧ Below W.heap.size W w') (K : ∀ W, Calls Tryz.prog 90 #[exI ta ai tb bi, exI tc ci td di] W fun e w' => e = .returned (.tuple #[.bool false, .nilIface]) ∧ Below W.heap.size W w') :
    Calls Tryz.prog 71 #[exI ta ai tb bi, exI tc ci td di] w fun e w' => e = .returned (.tuple #[.agg #[.nilIface, .nilIface, .nilIface], .bool false, .nilIface]) ∧ Below w.heap.size w w' := by
  have S0 := Lib.hid (start9 ta tb tc td ai bi ci di w)
  have B0 := Lib.hid (below9 (exC ta ai tb bi) (exC tc ci td di) niC w)
  have T0 := Lib.hid (show P9 w.heap.size ta ai tb bi tc ci td di (((w.alloc (exC ta ai tb bi)).alloc (exC tc ci td di)).alloc niC) ∧ Below w.heap.size w (((w.alloc (exC ta ai tb bi)).alloc (exC tc ci td di)).alloc niC) from ⟨S0.out, B0.out⟩)
  go_enter Tryz.func71, Tryz.ntmps71
  go_wp2_with (first
    | (go_at_call 86; (with_reducible refine (E1 _).mono ?_); rintro e w1 ⟨rfl, hb⟩
       have T1 := Lib.hid (keep9B hb T0.out)
       clear hb
       obtain ⟨c0, c1, c2, c3, c4, c5, c6, c7, c8, f0, f1, f2, hB⟩ := T1.out.1)
    | (go_at_call 86; (with_reducible refine (E2 _).mono ?_); rintro e w2 ⟨rfl, hb⟩
       have T2 := Lib.hid (keep9B hb T1.out)
       clear hb c0 c1 c2 c3 c4 c5 c6 c7 c8 f0 f1 f2 hB
       obtain ⟨c0, c1, c2, c3, c4, c5, c6, c7, c8, f0, f1, f2, hB⟩ := T2.out.1)
    | (go_at_call 90; (with_reducible refine (K _).mono ?_); rintro e w3 ⟨rfl, hb⟩
       have T3 := Lib.hid (keep9B hb T2.out)
       clear hb c0 c1 c2 c3 c4 c5 c6 c7 c8 f0 f1 f2 hB
       obtain ⟨c0, c1, c2, c3, c4, c5, c6, c7, c8, f0, f1, f2, hB⟩ := T3.out.1)
    )
  refine bodyPost_ret (v := .tuple #[.agg #[.nilIface, .nilIface, .nilIface], .bool false, .nilIface]) ?_ rfl ⟨rfl, ?_⟩
  · simp only [results, show Tryz.f71.results = #[.cell 4 92, .tmp 5, .tmp 6] by kernel_rfl]
    go_simp
  · exact (((T3.out.2).setCell (by show _ ≤ w.heap.size + 1 + 1; omega) _).setCell (by show _ ≤ w.heap.size + 1 + 1; omega) _).setCell (by show _ ≤ w.heap.size + 1 + 1; omega) _
theorem un_both {ta tb tc td tl tl2 tu tu2 : TypeId} {ai bi ci di li li2 ui ui2 : Value} (w : World) (E1 : ∀ W, Calls Tryz.prog 86 #[exI tc ci td di] W fun e w' => e = .returned (.tuple #[.bool false, .nilIface]) ∧ Below W.heap.size W w') (E2 : ∀ W, Calls Tryz.prog 86 #[exI ta ai tb bi] W fun e w' => e = .returned (.tuple #[.bool false, .nilIface]) ∧ Below W.heap.size W w') (K : ∀ W, Calls Tryz.prog 90 #[exI ta ai tb bi, exI tc ci td di] W fun e w' => e = .returned (.tuple #[.bool true, .nilIface]) ∧ Below W.heap.size W w') (L : ∀ W, Calls Tryz.prog 91 #[.iface ta ai, .iface tc ci, tv] W fun e w' => e = .returned (.tuple #[.iface tl li, .iface tl2 li2, .nilIface]) ∧ Below W.heap.size W w') (U : ∀ W, Calls Tryz.prog 91 #[.iface tb bi, .iface td di, tv] W fun e w' => e = .returned (.tuple #[.iface tu2 ui2, .iface tu ui, .nilIface]) ∧ Below W.heap.size W w') :
    Calls Tryz.prog 71 #[exI ta ai tb bi, exI tc ci td di] w fun e w' => e = .returned (.tuple #[exI tl li tu ui, .bool true, .nilIface]) ∧ Below w.heap.size w w' := by
  have S0 := Lib.hid (start9 ta tb tc td ai bi ci di w)
  have B0 := Lib.hid (below9 (exC ta ai tb bi) (exC tc ci td di) niC w)
  have T0 := Lib.hid (show P9 w.heap.size ta ai tb bi tc ci td di (((w.alloc (exC ta ai tb bi)).alloc (exC tc ci td di)).alloc niC) ∧ Below w.heap.size w (((w.alloc (exC ta ai tb bi)).alloc (exC tc ci td di)).alloc niC) from ⟨S0.out, B0.out⟩)
  go_enter Tryz.func71, Tryz.ntmps71
  go_wp2_with (first
    | (go_at_call 86; (with_reducible refine (E1 _).mono ?_); rintro e w1 ⟨rfl, hb⟩
       have T1 := Lib.hid (keep9B hb T0.out)
       clear hb
       obtain ⟨c0, c1, c2, c3, c4, c5, c6, c7, c8, f0, f1, f2, hB⟩ := T1.out.1)
    | (go_at_call 86; (with_reducible refine (E2 _).mono ?_); rintro e w2 ⟨rfl, hb⟩
       have T2 := Lib.hid (keep9B hb T1.out)
       clear hb c0 c1 c2 c3 c4 c5 c6 c7 c8 f0 f1 f2 hB
       obtain ⟨c0, c1, c2, c3, c4, c5, c6, c7, c8, f0, f1, f2, hB⟩ := T2.out.1)
    | (go_at_call 90; (with_reducible refine (K _).mono ?_); rintro e w3 ⟨rfl, hb⟩
       have T3 := Lib.hid (keep9B hb T2.out)
       clear hb c0 c1 c2 c3 c4 c5 c6 c7 c8 f0 f1 f2 hB
       obtain ⟨c0, c1, c2, c3, c4, c5, c6, c7, c8, f0, f1, f2, hB⟩ := T3.out.1)
    | (go_at_call 91; (with_reducible refine (L _).mono ?_); rintro e w4 ⟨rfl, hb⟩
       have T4 := Lib.hid (keep9B hb T3.out)
       clear hb c0 c1 c2 c3 c4 c5 c6 c7 c8 f0 f1 f2 hB
       obtain ⟨c0, c1, c2, c3, c4, c5, c6, c7, c8, f0, f1, f2, hB⟩ := T4.out.1)
    | (go_at_call 91; (with_reducible refine (U _).mono ?_); rintro e w5 ⟨rfl, hb⟩
       have T5 := Lib.hid (keep9B hb T4.out)
       clear hb c0 c1 c2 c3 c4 c5 c6 c7 c8 f0 f1 f2 hB
       obtain ⟨c0, c1, c2, c3, c4, c5, c6, c7, c8, f0, f1, f2, hB⟩ := T5.out.1)
    )
  refine bodyPost_ret (v := .tuple #[exI tl li tu ui, .bool true, .nilIface]) ?_ rfl ⟨rfl, ?_⟩
  · simp only [results, show Tryz.f71.results = #[.cell 4 92, .tmp 5, .tmp 6] by kernel_rfl]
    go_simp
  · exact (((T5.out.2).setCell (by show _ ≤ w.heap.size + 1 + 1; omega) _).setCell (by show _ ≤ w.heap.size + 1 + 1; omega) _).setCell (by show _ ≤ w.heap.size + 1 + 1; omega) _
/-- The two ranges joined: their value, and whether there is one. -/
def unV (a b c d : Ct) : Value := if 0 ≤ cp c d then exV a b else if 0 ≤ cp a b then exV c d else if cp a d ≤ 0 ∧ cp c b ≤ 0 then exV (mn a c) (mx b d) else .agg #[.nilIface, .nilIface, .nilIface]
def unY (a b c d : Ct) : Bool := if 0 ≤ cp c d then true else if 0 ≤ cp a b then true else decide (cp a d ≤ 0 ∧ cp c b ≤ 0)
theorem union_ct (a b c d : Ct) (w : World) : Calls Tryz.prog 71 #[exV a b, exV c d] w fun e w' => e = .returned (.tuple #[unV a b c d, .bool (unY a b c d), .nilIface]) ∧ Below w.heap.size w w' := by
  have e1 := fun W => empty_ct c d W
  have e2 := fun W => empty_ct a b W
  have k := fun W => conn_ct a b c d W
  rw [ex_eq a b] at e2 k ⊢
  rw [ex_eq c d] at e1 k ⊢
  unfold unV unY
  by_cases h1 : 0 ≤ cp c d
  · simp only [if_pos h1, ex_eq a b]
    rw [decide_eq_true h1] at e1
    exact un_first (tl := 0) (tl2 := 0) (tu := 0) (tu2 := 0) (li := .nilIface) (li2 := .nilIface) (ui := .nilIface) (ui2 := .nilIface) w e1
  · rw [decide_eq_false h1] at e1
    by_cases h2 : 0 ≤ cp a b
    · simp only [if_neg h1, if_pos h2, ex_eq c d]
      rw [decide_eq_true h2] at e2
      exact un_second (tl := 0) (tl2 := 0) (tu := 0) (tu2 := 0) (li := .nilIface) (li2 := .nilIface) (ui := .nilIface) (ui2 := .nilIface) w e1 e2
    · rw [decide_eq_false h2] at e2
      by_cases h3 : cp a d ≤ 0 ∧ cp c b ≤ 0
      · simp only [if_neg h1, if_neg h2, if_pos h3, decide_eq_true h3, ex_eq (mn a c)]
        rw [decide_eq_true h3.1, decide_eq_true h3.2] at k
        exact un_both w e1 e2 k (fun W => ord_any a c W) (fun W => ord_any b d W)
      · simp only [if_neg h1, if_neg h2, if_neg h3, decide_eq_false h3]
        rw [show (decide (cp a d ≤ 0) && decide (cp c b ≤ 0)) = false by rw [← Bool.decide_and]; exact decide_eq_false h3] at k
        exact un_none (tl := 0) (tl2 := 0) (tu := 0) (tu2 := 0) (li := .nilIface) (li2 := .nilIface) (ui := .nilIface) (ui2 := .nilIface) w e1 e2 k
end Go.Proofs.YtfnogpelaoofbaaGreatDoor.Rg

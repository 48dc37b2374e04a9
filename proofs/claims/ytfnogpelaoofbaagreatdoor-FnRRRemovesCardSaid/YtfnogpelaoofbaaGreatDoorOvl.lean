/- Overlaps: two ranges of a column overlap, or do not. Conditions: those written at each lemma. -/
import Derived.Test.YtfnogpelaoofbaaGreatDoorMix
set_option linter.unusedVariables false
set_option linter.unusedSimpArgs false
set_option maxRecDepth 100000
set_option maxHeartbeats 4000000
namespace Go.Proofs.YtfnogpelaoofbaaGreatDoor.Rg
open Go.RowKit Go.Proofs.YtfnogpelaoofbaaGreatDoor.B

theorem str_any (w : World) : Calls Tryz.prog 149 #[.agg #[]] w fun e w' => e = .returned (.string "bigint".toUTF8) ∧ Below w.heap.size w w' := by
  go_enter Tryz.func149, Tryz.ntmps149
  go_wp2
  go_ret
  exact ⟨rfl, by go_grown⟩

theorem keep9B {B : Nat} {ta tb tc td : TypeId} {ai bi ci di : Value} {w W w' : World} (hb : Below W.heap.size W w') (h : P9 B ta ai tb bi tc ci td di W ∧ Below B w W) : P9 B ta ai tb bi tc ci td di w' ∧ Below B w w' := by
  have hB := h.1.2.2.2.2.2.2.2.2.2.2.2.2
  exact ⟨keep9 hb h.1, h.2.trans (hb.mono (by omega))⟩
theorem ov_no1 {ta tb tc td : TypeId} {ai bi ci di : Value} {n : Int} {f : Nat} (w : World) (C : Cmp ta ai td di n f) (hn : ¬ n < 0) :
    Calls Tryz.prog 51 #[exI ta ai tb bi, exI tc ci td di] w fun e w' => e = .returned (.tuple #[exV .aa .aa, .bool false, .nilIface]) ∧ Below w.heap.size w w' := by
  obtain ⟨hi1, hf1, C1⟩ := C
  have S0 := Lib.hid (start9 ta tb tc td ai bi ci di w)
  have B0 := Lib.hid (below9 (exC ta ai tb bi) (exC tc ci td di) niC w)
  have Em := fun W => empty_con W
  simp only [exV, Ct.v] at Em
  have G0 := Lib.hid (show P9 w.heap.size ta ai tb bi tc ci td di (((w.alloc (exC ta ai tb bi)).alloc (exC tc ci td di)).alloc niC).drew ∧ Below w.heap.size w (((w.alloc (exC ta ai tb bi)).alloc (exC tc ci td di)).alloc niC).drew from ⟨S0.out, B0.out.drew⟩)
  go_enter Tryz.func51, Tryz.ntmps51
  go_wp2
  go_region_held3 (fun W => P9 w.heap.size ta ai tb bi tc ci td di W ∧ Below w.heap.size w W) (first | exact G0.out | assumption | (refine keep9B hb ?_; assumption)) (first
    | ((with_reducible refine (str_any _).mono ?_); rintro e w1 ⟨rfl, hb⟩))
  rename_i hHd
  have T1 := Lib.hid hHd
  clear hHd
  obtain ⟨c0, c1, c2, c3, c4, c5, c6, c7, c8, f0, f1, f2, hB⟩ := T1.out.1
  go_wp2_with (first
    | ((with_reducible refine (C1 _).mono ?_); rintro e w2 ⟨rfl, hb2⟩
       have T2 := Lib.hid (keep9B hb2 T1.out)
       clear hb2 c0 c1 c2 c3 c4 c5 c6 c7 c8 f0 f1 f2 hB
       obtain ⟨c0, c1, c2, c3, c4, c5, c6, c7, c8, f0, f1, f2, hB⟩ := T2.out.1)
    | (go_at_call 73; (with_reducible refine (Em _).mono ?_); rintro e w3 ⟨rfl, hb3⟩
       have T3 := Lib.hid (keep9B hb3 T2.out)
       clear hb3 c0 c1 c2 c3 c4 c5 c6 c7 c8 f0 f1 f2 hB
       obtain ⟨c0, c1, c2, c3, c4, c5, c6, c7, c8, f0, f1, f2, hB⟩ := T3.out.1))
  refine bodyPost_ret (v := .tuple #[exV .aa .aa, .bool false, .nilIface]) ?_ rfl ⟨rfl, ?_⟩
  · simp only [results, show Tryz.f51.results = #[.cell 4 92, .tmp 5, .tmp 6] by kernel_rfl]
    go_simp
    try simp [Ct.v]
  · exact (((T3.out.2).setCell (by show _ ≤ w.heap.size + 1 + 1; omega) _).setCell (by show _ ≤ w.heap.size + 1 + 1; omega) _).setCell (by show _ ≤ w.heap.size + 1 + 1; omega) _
theorem ov_no2 {ta tb tc td : TypeId} {ai bi ci di : Value} {n m : Int} {f g : Nat} (w : World) (C : Cmp ta ai td di n f) (D : Cmp tc ci tb bi m g) (hn : n < 0) (hm : ¬ m < 0) :
    Calls Tryz.prog 51 #[exI ta ai tb bi, exI tc ci td di] w fun e w' => e = .returned (.tuple #[exV .aa .aa, .bool false, .nilIface]) ∧ Below w.heap.size w w' := by
  obtain ⟨hi1, hf1, C1⟩ := C
  obtain ⟨hi2, hf2, C2⟩ := D
  have S0 := Lib.hid (start9 ta tb tc td ai bi ci di w)
  have B0 := Lib.hid (below9 (exC ta ai tb bi) (exC tc ci td di) niC w)
  have Em := fun W => empty_con W
  simp only [exV, Ct.v] at Em
  have G0 := Lib.hid (show P9 w.heap.size ta ai tb bi tc ci td di (((w.alloc (exC ta ai tb bi)).alloc (exC tc ci td di)).alloc niC).drew ∧ Below w.heap.size w (((w.alloc (exC ta ai tb bi)).alloc (exC tc ci td di)).alloc niC).drew from ⟨S0.out, B0.out.drew⟩)
  go_enter Tryz.func51, Tryz.ntmps51
  go_wp2
  go_region_held3 (fun W => P9 w.heap.size ta ai tb bi tc ci td di W ∧ Below w.heap.size w W) (first | exact G0.out | assumption | (refine keep9B hb ?_; assumption)) (first
    | ((with_reducible refine (str_any _).mono ?_); rintro e w1 ⟨rfl, hb⟩))
  rename_i hHd
  have T1 := Lib.hid hHd
  clear hHd
  obtain ⟨c0, c1, c2, c3, c4, c5, c6, c7, c8, f0, f1, f2, hB⟩ := T1.out.1
  go_wp2_with (first
    | ((with_reducible refine (C1 _).mono ?_); rintro e w2 ⟨rfl, hb2⟩
       have T2 := Lib.hid (keep9B hb2 T1.out)
       clear hb2 c0 c1 c2 c3 c4 c5 c6 c7 c8 f0 f1 f2 hB
       obtain ⟨c0, c1, c2, c3, c4, c5, c6, c7, c8, f0, f1, f2, hB⟩ := T2.out.1)
    | ((with_reducible refine (C2 _).mono ?_); rintro e w3 ⟨rfl, hb3⟩
       have T3 := Lib.hid (keep9B hb3 T2.out)
       clear hb3 c0 c1 c2 c3 c4 c5 c6 c7 c8 f0 f1 f2 hB
       obtain ⟨c0, c1, c2, c3, c4, c5, c6, c7, c8, f0, f1, f2, hB⟩ := T3.out.1)
    | (go_at_call 73; (with_reducible refine (Em _).mono ?_); rintro e w4 ⟨rfl, hb4⟩
       have T4 := Lib.hid (keep9B hb4 T3.out)
       clear hb4 c0 c1 c2 c3 c4 c5 c6 c7 c8 f0 f1 f2 hB
       obtain ⟨c0, c1, c2, c3, c4, c5, c6, c7, c8, f0, f1, f2, hB⟩ := T4.out.1))
  refine bodyPost_ret (v := .tuple #[exV .aa .aa, .bool false, .nilIface]) ?_ rfl ⟨rfl, ?_⟩
  · simp only [results, show Tryz.f51.results = #[.cell 4 92, .tmp 5, .tmp 6] by kernel_rfl]
    go_simp
    try simp [Ct.v]
  · exact (((T4.out.2).setCell (by show _ ≤ w.heap.size + 1 + 1; omega) _).setCell (by show _ ≤ w.heap.size + 1 + 1; omega) _).setCell (by show _ ≤ w.heap.size + 1 + 1; omega) _
theorem ov_yes {ta tb tc td tl tu : TypeId} {ai bi ci di li ui : Value} {n m : Int} {f g : Nat} (w : World) (C : Cmp ta ai td di n f) (D : Cmp tc ci tb bi m g) (hn : n < 0) (hm : m < 0)
    (MX : ∀ B W, W.cell? ⟨B, 0, none⟩ = some (.iface ta ai) → W.cell? ⟨B, 1, none⟩ = some (.iface tc ci) → Calls Tryz.prog 74 #[tv, .slice (some ⟨B, 0, none⟩) 2 2] W fun e w' => e = .returned (.tuple #[.iface tl li, .nilIface]) ∧ Below W.heap.size W w')
    (MN : ∀ B W, W.cell? ⟨B, 0, none⟩ = some (.iface tb bi) → W.cell? ⟨B, 1, none⟩ = some (.iface td di) → Calls Tryz.prog 75 #[tv, .slice (some ⟨B, 0, none⟩) 2 2] W fun e w' => e = .returned (.tuple #[.iface tu ui, .nilIface]) ∧ Below W.heap.size W w') :
    Calls Tryz.prog 51 #[exI ta ai tb bi, exI tc ci td di] w fun e w' => e = .returned (.tuple #[exI tl li tu ui, .bool true, .nilIface]) ∧ Below w.heap.size w w' := by
  obtain ⟨hi1, hf1, C1⟩ := C
  obtain ⟨hi2, hf2, C2⟩ := D
  have S0 := Lib.hid (start9 ta tb tc td ai bi ci di w)
  have B0 := Lib.hid (below9 (exC ta ai tb bi) (exC tc ci td di) niC w)
  have Em := fun W => empty_con W
  simp only [exV, Ct.v] at Em
  have G0 := Lib.hid (show P9 w.heap.size ta ai tb bi tc ci td di (((w.alloc (exC ta ai tb bi)).alloc (exC tc ci td di)).alloc niC).drew ∧ Below w.heap.size w (((w.alloc (exC ta ai tb bi)).alloc (exC tc ci td di)).alloc niC).drew from ⟨S0.out, B0.out.drew⟩)
  go_enter Tryz.func51, Tryz.ntmps51
  go_wp2
  go_region_held3 (fun W => P9 w.heap.size ta ai tb bi tc ci td di W ∧ Below w.heap.size w W) (first | exact G0.out | assumption | (refine keep9B hb ?_; assumption)) (first
    | ((with_reducible refine (str_any _).mono ?_); rintro e w1 ⟨rfl, hb⟩))
  rename_i hHd
  have T1 := Lib.hid hHd
  clear hHd
  obtain ⟨c0, c1, c2, c3, c4, c5, c6, c7, c8, f0, f1, f2, hB⟩ := T1.out.1
  go_wp2_with (first
    | ((with_reducible refine (C1 _).mono ?_); rintro e w2 ⟨rfl, hb2⟩
       have T2 := Lib.hid (keep9B hb2 T1.out)
       clear hb2 c0 c1 c2 c3 c4 c5 c6 c7 c8 f0 f1 f2 hB
       obtain ⟨c0, c1, c2, c3, c4, c5, c6, c7, c8, f0, f1, f2, hB⟩ := T2.out.1)
    | ((with_reducible refine (C2 _).mono ?_); rintro e w3 ⟨rfl, hb3⟩
       have T3 := Lib.hid (keep9B hb3 T2.out)
       clear hb3 c0 c1 c2 c3 c4 c5 c6 c7 c8 f0 f1 f2 hB
       obtain ⟨c0, c1, c2, c3, c4, c5, c6, c7, c8, f0, f1, f2, hB⟩ := T3.out.1)
    | (go_at_call 74; (with_reducible refine (MX _ _ (by go_simp) (by go_simp)).mono ?_); rintro e w4 ⟨rfl, hb4⟩
       have T4 := Lib.hid (keep9B hb4 (keep9B ((Below.refl _ _).alloc (Nat.le_refl _) _) T3.out))
       clear hb4 c0 c1 c2 c3 c4 c5 c6 c7 c8 f0 f1 f2 hB
       obtain ⟨c0, c1, c2, c3, c4, c5, c6, c7, c8, f0, f1, f2, hB⟩ := T4.out.1)
    | (go_at_call 75; (with_reducible refine (MN _ _ (by go_simp) (by go_simp)).mono ?_); rintro e w5 ⟨rfl, hb5⟩
       have T5 := Lib.hid (keep9B hb5 (keep9B ((Below.refl _ _).alloc (Nat.le_refl _) _) T4.out))
       clear hb5 c0 c1 c2 c3 c4 c5 c6 c7 c8 f0 f1 f2 hB
       obtain ⟨c0, c1, c2, c3, c4, c5, c6, c7, c8, f0, f1, f2, hB⟩ := T5.out.1))
  refine bodyPost_ret (v := .tuple #[exI tl li tu ui, .bool true, .nilIface]) ?_ rfl ⟨rfl, ?_⟩
  · simp only [results, show Tryz.f51.results = #[.cell 4 92, .tmp 5, .tmp 6] by kernel_rfl]
    go_simp
    try simp [Ct.v]
  · exact (((T5.out.2).setCell (by show _ ≤ w.heap.size + 1 + 1; omega) _).setCell (by show _ ≤ w.heap.size + 1 + 1; omega) _).setCell (by show _ ≤ w.heap.size + 1 + 1; omega) _

end Go.Proofs.YtfnogpelaoofbaaGreatDoor.Rg

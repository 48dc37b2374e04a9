/- The greater and the lesser one of two positions; two ranges that have nothing in common. Conditions: those written at each lemma. -/
import Derived.Test.YtfnogpelaoofbaaGreatDoorCon
import Derived.LoopN
set_option linter.unusedVariables false
set_option linter.unusedSimpArgs false
set_option maxRecDepth 100000
set_option maxHeartbeats 4000000
namespace Go.Proofs.YtfnogpelaoofbaaGreatDoor.Rg
open Go.RowKit Go.Proofs.YtfnogpelaoofbaaGreatDoor.B

theorem try_none {ta tb tc td tl tu : TypeId} {ai bi ci di li ui : Value} {n : Int} {f : Nat} (w : World)
    (L : ∀ W, Calls Tryz.prog 91 #[.iface ta ai, .iface tc ci, tv] W fun e w' => (∃ x, e = .returned (.tuple #[x, .iface tl li, .nilIface])) ∧ Below W.heap.size W w')
    (U : ∀ W, Calls Tryz.prog 91 #[.iface tb bi, .iface td di, tv] W fun e w' => (∃ x, e = .returned (.tuple #[.iface tu ui, x, .nilIface])) ∧ Below W.heap.size W w')
    (C : Cmp tl li tu ui n f) (hn : ¬ n < 0) :
    Calls Tryz.prog 77 #[exI ta ai tb bi, exI tc ci td di] w fun e w' => e = .returned (.tuple #[exV .aa .aa, .bool false, .nilIface]) ∧ Below w.heap.size w w' := by
  obtain ⟨hi, hf, C⟩ := C
  have S0 := Lib.hid (start9 ta tb tc td ai bi ci di w)
  have B0 := Lib.hid (below9 (exC ta ai tb bi) (exC tc ci td di) niC w)
  have Em := fun W => empty_con W
  simp only [exV, Ct.v] at Em
  go_enter Tryz.func77, Tryz.ntmps77
  go_wp2_with (first
    | ((with_reducible refine (L _).mono ?_); rintro e w1 ⟨⟨x, rfl⟩, hb1⟩
       have S1 := Lib.hid (keep9 hb1 S0.out)
       have B1 := Lib.hid (B0.out.trans (hb1.mono B0.out.size))
       clear hb1
       obtain ⟨c0, c1, c2, c3, c4, c5, c6, c7, c8, f0, f1, f2, hB⟩ := S1.out)
    | ((with_reducible refine (U _).mono ?_); rintro e w2 ⟨⟨x, rfl⟩, hb2⟩
       have S2 := Lib.hid (keep9 hb2 S1.out)
       have B2 := Lib.hid (B1.out.trans (hb2.mono B1.out.size))
       clear hb2 c0 c1 c2 c3 c4 c5 c6 c7 c8 f0 f1 f2 hB
       obtain ⟨c0, c1, c2, c3, c4, c5, c6, c7, c8, f0, f1, f2, hB⟩ := S2.out)
    | ((with_reducible refine (C _).mono ?_); rintro e w3 ⟨rfl, hb3⟩
       have S3 := Lib.hid (keep9 hb3 S2.out)
       have B3 := Lib.hid (B2.out.trans (hb3.mono B2.out.size))
       clear hb3 c0 c1 c2 c3 c4 c5 c6 c7 c8 f0 f1 f2 hB
       obtain ⟨c0, c1, c2, c3, c4, c5, c6, c7, c8, f0, f1, f2, hB⟩ := S3.out)
    | (go_at_call 73; (with_reducible refine (Em _).mono ?_); rintro e w4 ⟨rfl, hb4⟩
       have S4 := Lib.hid (keep9 hb4 S3.out)
       have B4 := Lib.hid (B3.out.trans (hb4.mono B3.out.size))
       clear hb4 c0 c1 c2 c3 c4 c5 c6 c7 c8 f0 f1 f2 hB
       obtain ⟨c0, c1, c2, c3, c4, c5, c6, c7, c8, f0, f1, f2, hB⟩ := S4.out))
  refine bodyPost_ret (v := .tuple #[exV .aa .aa, .bool false, .nilIface]) ?_ rfl ⟨rfl, ?_⟩
  · simp only [results, show Tryz.f77.results = #[.cell 4 92, .tmp 5, .tmp 6] by kernel_rfl]
    go_simp
    try simp [Ct.v]
  · exact ((B4.out.setCell (by show _ ≤ w.heap.size + 1 + 1; omega) _).setCell (by show _ ≤ w.heap.size + 1 + 1; omega) _).setCell (by show _ ≤ w.heap.size + 1 + 1; omega) _

theorem ahead_any (a : Ct) (W : World) : (nilAhead 325 a.tid a.inner "Compare").run Tryz.prog W = .ok (some false) W := by cases a <;> kernel_rfl

abbrev SM (B : Nat) (ta : TypeId) (ai : Value) (tb : TypeId) (bi : Value) (w W : World) : Prop :=
  W.cell? ⟨B, 0, none⟩ = some (.iface ta ai) ∧ W.cell? ⟨B, 1, none⟩ = some (.iface tb bi) ∧ w.heap.size ≤ W.heap.size ∧ Below w.heap.size w W
theorem keepM {B : Nat} {ta tb : TypeId} {ai bi : Value} {w W w' : World} (hb : Below W.heap.size W w') (h : SM B ta ai tb bi w W) : SM B ta ai tb bi w w' :=
  ⟨cell_below hb h.1, cell_below hb h.2.1, Nat.le_trans h.2.2.1 hb.size, h.2.2.2.trans (hb.mono h.2.2.1)⟩
theorem mkf (fn : Fn) (first cap : Array Value) (w : World) : (Instr.makeFunc fn first cap).run Tryz.prog w = .ok (.func fn first cap) w := rfl

theorem max_lt {ta tb : TypeId} {ai bi : Value} {n : Int} {f : Nat} (C : Cmp ta ai tb bi n f) (hA : ∀ W, (nilAhead 325 ta ai "Compare").run Tryz.prog W = .ok (some false) W) (B : Nat) (w : World) (hn : n = -1)
    (c0 : w.cell? ⟨B, 0, none⟩ = some (.iface ta ai)) (c1 : w.cell? ⟨B, 1, none⟩ = some (.iface tb bi)) :
    Calls Tryz.prog 74 #[tv, .slice (some ⟨B, 0, none⟩) 2 2] w fun e w' => e = .returned (.tuple #[.iface tb bi, .nilIface]) ∧ Below w.heap.size w w' := by
  obtain ⟨hi, hf, C⟩ := C
  subst hn
  have hmf := mkf
  go_enter Tryz.func74, Tryz.ntmps74
  go_wp2
  refine wp_loop_rounds 1 ?_
  rw [rounds_succ]
  go_wp2
  refine wp_loop_rounds 2 ?_
  rw [rounds_succ]
  go_wp2
  go_region_held3 (fun W => SM B ta ai tb bi w W) (first | exact ⟨c0, c1, Nat.le_refl _, (Below.refl _ _).drew⟩ | assumption | (refine keepM hb ?_; assumption)) (first
    | ((with_reducible refine (C _).mono ?_); rintro e w1 ⟨rfl, hb⟩))
  rename_i hE
  obtain ⟨d0, d1, _, hB⟩ := hE
  have hBB := Lib.hid hB
  clear c0 c1 hb
  go_wp2
  rw [rounds_succ]
  go_wp2
  go_ret2
  exact ⟨rfl, hBB.out⟩
theorem max_ge {ta tb : TypeId} {ai bi : Value} {n : Int} {f : Nat} (C : Cmp ta ai tb bi n f) (hA : ∀ W, (nilAhead 325 ta ai "Compare").run Tryz.prog W = .ok (some false) W) (B : Nat) (w : World) (hn : n ≠ -1)
    (c0 : w.cell? ⟨B, 0, none⟩ = some (.iface ta ai)) (c1 : w.cell? ⟨B, 1, none⟩ = some (.iface tb bi)) :
    Calls Tryz.prog 74 #[tv, .slice (some ⟨B, 0, none⟩) 2 2] w fun e w' => e = .returned (.tuple #[.iface ta ai, .nilIface]) ∧ Below w.heap.size w w' := by
  obtain ⟨hi, hf, C⟩ := C
  have hn2 : (n == -1) = false := by simpa using hn
  have hmf := mkf
  go_enter Tryz.func74, Tryz.ntmps74
  go_wp2
  refine wp_loop_rounds 1 ?_
  rw [rounds_succ]
  go_wp2
  refine wp_loop_rounds 2 ?_
  rw [rounds_succ]
  go_wp2
  go_region_held3 (fun W => SM B ta ai tb bi w W) (first | exact ⟨c0, c1, Nat.le_refl _, (Below.refl _ _).drew⟩ | assumption | (refine keepM hb ?_; assumption)) (first
    | ((with_reducible refine (C _).mono ?_); rintro e w1 ⟨rfl, hb⟩))
  rename_i hE
  obtain ⟨d0, d1, _, hB⟩ := hE
  have hBB := Lib.hid hB
  clear c0 c1 hb
  go_wp2
  rw [rounds_succ]
  go_wp2
  go_ret2
  exact ⟨rfl, hBB.out⟩
theorem min_gt {ta tb : TypeId} {ai bi : Value} {n : Int} {f : Nat} (C : Cmp ta ai tb bi n f) (hA : ∀ W, (nilAhead 325 ta ai "Compare").run Tryz.prog W = .ok (some false) W) (B : Nat) (w : World) (hn : n = 1)
    (c0 : w.cell? ⟨B, 0, none⟩ = some (.iface ta ai)) (c1 : w.cell? ⟨B, 1, none⟩ = some (.iface tb bi)) :
    Calls Tryz.prog 75 #[tv, .slice (some ⟨B, 0, none⟩) 2 2] w fun e w' => e = .returned (.tuple #[.iface tb bi, .nilIface]) ∧ Below w.heap.size w w' := by
  obtain ⟨hi, hf, C⟩ := C
  subst hn
  have hmf := mkf
  go_enter Tryz.func75, Tryz.ntmps75
  go_wp2
  refine wp_loop_rounds 1 ?_
  rw [rounds_succ]
  go_wp2
  refine wp_loop_rounds 2 ?_
  rw [rounds_succ]
  go_wp2
  go_region_held3 (fun W => SM B ta ai tb bi w W) (first | exact ⟨c0, c1, Nat.le_refl _, (Below.refl _ _).drew⟩ | assumption | (refine keepM hb ?_; assumption)) (first
    | ((with_reducible refine (C _).mono ?_); rintro e w1 ⟨rfl, hb⟩))
  rename_i hE
  obtain ⟨d0, d1, _, hB⟩ := hE
  have hBB := Lib.hid hB
  clear c0 c1 hb
  go_wp2
  rw [rounds_succ]
  go_wp2
  go_ret2
  exact ⟨rfl, hBB.out⟩
theorem min_le {ta tb : TypeId} {ai bi : Value} {n : Int} {f : Nat} (C : Cmp ta ai tb bi n f) (hA : ∀ W, (nilAhead 325 ta ai "Compare").run Tryz.prog W = .ok (some false) W) (B : Nat) (w : World) (hn : n ≠ 1)
    (c0 : w.cell? ⟨B, 0, none⟩ = some (.iface ta ai)) (c1 : w.cell? ⟨B, 1, none⟩ = some (.iface tb bi)) :
    Calls Tryz.prog 75 #[tv, .slice (some ⟨B, 0, none⟩) 2 2] w fun e w' => e = .returned (.tuple #[.iface ta ai, .nilIface]) ∧ Below w.heap.size w w' := by
  obtain ⟨hi, hf, C⟩ := C
  have hn2 : (n == 1) = false := by simpa using hn
  have hmf := mkf
  go_enter Tryz.func75, Tryz.ntmps75
  go_wp2
  refine wp_loop_rounds 1 ?_
  rw [rounds_succ]
  go_wp2
  refine wp_loop_rounds 2 ?_
  rw [rounds_succ]
  go_wp2
  go_region_held3 (fun W => SM B ta ai tb bi w W) (first | exact ⟨c0, c1, Nat.le_refl _, (Below.refl _ _).drew⟩ | assumption | (refine keepM hb ?_; assumption)) (first
    | ((with_reducible refine (C _).mono ?_); rintro e w1 ⟨rfl, hb⟩))
  rename_i hE
  obtain ⟨d0, d1, _, hB⟩ := hE
  have hBB := Lib.hid hB
  clear c0 c1 hb
  go_wp2
  rw [rounds_succ]
  go_wp2
  go_ret2
  exact ⟨rfl, hBB.out⟩

end Go.Proofs.YtfnogpelaoofbaaGreatDoor.Rg

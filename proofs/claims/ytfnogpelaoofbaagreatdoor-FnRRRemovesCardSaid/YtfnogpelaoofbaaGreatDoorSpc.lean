/- The reference's places of positions, ends of ranges, ranges without values, the same ranges: walks. Conditions: those written at each lemma. -/
import Derived.Test.YtfnogpelaoofbaaGreatDoorProg
import Derived.Test.YtfnogpelaoofbaaGreatDoorBase
import Derived.Handy
set_option linter.unusedVariables false
set_option linter.unusedSimpArgs false
set_option maxRecDepth 100000
set_option maxHeartbeats 4000000
namespace Go.Proofs.YtfnogpelaoofbaaGreatDoor.Sp
open Go.RowKit Go.Proofs.YtfnogpelaoofbaaGreatDoor.B

abbrev cuV (k x : Int) : Value := .agg #[.int .i64 k, .int .i64 x]
abbrev coV (k1 x1 k2 x2 : Int) : Value := .agg #[.int .i64 k1, .int .i64 x1, .int .i64 k2, .int .i64 x2]
/-- The place of a position. -/
def plc (k x : Int) : Int := if k = 0 then 0 else if k = 1 then 1 else if k = 4 then 10000 else 2 * (x + 1001) + k
theorem place_any (k x : Int) (w : World) (h0 : 0 ≤ k) (h4 : k ≤ 4) (h1 : -1000 ≤ x) (h2 : x ≤ 1000) : Calls Tryz.prog 45 #[cuV k x] w fun e w' => e = .returned (.int .i64 (plc k x)) ∧ Below w.heap.size w w' := by
  have : k = 0 ∨ k = 1 ∨ k = 4 ∨ k = 2 ∨ k = 3 := by omega
  rcases this with rfl | rfl | rfl | rfl | rfl
  all_goals
    clear h0 h4
    simp only [plc]
    go_enter Tryz.func45, Tryz.ntmps45
    go_wp2
    go_ret
    exact ⟨rfl, by go_grown⟩

abbrev SO (B : Nat) (k1 x1 k2 x2 : Int) (W : World) : Prop :=
  W.cell? ⟨B, 0, none⟩ = some (.int .i64 k1) ∧ W.cell? ⟨B, 1, none⟩ = some (.int .i64 x1) ∧ W.cell? ⟨B, 2, none⟩ = some (.int .i64 k2) ∧ W.cell? ⟨B, 3, none⟩ = some (.int .i64 x2) ∧ B < W.heap.size
theorem keepO {B : Nat} {k1 x1 k2 x2 : Int} {W w' : World} (hb : Below W.heap.size W w') (h : SO B k1 x1 k2 x2 W) : SO B k1 x1 k2 x2 w' := by
  obtain ⟨c0, c1, c2, c3, hB⟩ := h
  exact ⟨cell_below hb c0, cell_below hb c1, cell_below hb c2, cell_below hb c3, Nat.lt_of_lt_of_le hB hb.size⟩
theorem keepOB {B : Nat} {k1 x1 k2 x2 : Int} {w W w' : World} (hb : Below W.heap.size W w') (h : SO B k1 x1 k2 x2 W ∧ Below B w W) : SO B k1 x1 k2 x2 w' ∧ Below B w w' :=
  ⟨keepO hb h.1, h.2.trans (hb.mono (Nat.le_of_lt h.1.2.2.2.2))⟩
abbrev coC (k1 x1 k2 x2 : Int) : Obj := .cells #[.int .i64 k1, .int .i64 x1, .int .i64 k2, .int .i64 x2] 54
theorem startO (k1 x1 k2 x2 : Int) (w : World) : SO w.heap.size k1 x1 k2 x2 (w.alloc (coC k1 x1 k2 x2)) ∧ Below w.heap.size w (w.alloc (coC k1 x1 k2 x2)) := by
  refine ⟨⟨?_, ?_, ?_, ?_, ?_⟩, ?_⟩
  all_goals first | (go_simp; done) | (simp; done) | (go_grown; done) | (go_simp; omega)
theorem startO' (k1 x1 k2 x2 : Int) (w : World) : SO w.heap.size k1 x1 k2 x2 (w.alloc (coC k1 x1 k2 x2)).drew ∧ Below w.heap.size w (w.alloc (coC k1 x1 k2 x2)).drew := by
  refine ⟨⟨?_, ?_, ?_, ?_, ?_⟩, ?_⟩
  all_goals first | (go_simp; done) | (simp; done) | (go_grown; done) | (go_simp; omega)

/-- What may be asked of the reference. -/
abbrev Ok (k1 x1 k2 x2 : Int) : Prop := 0 ≤ k1 ∧ k1 ≤ 4 ∧ -1000 ≤ x1 ∧ x1 ≤ 1000 ∧ 0 ≤ k2 ∧ k2 ≤ 4 ∧ -1000 ≤ x2 ∧ x2 ≤ 1000
theorem ends_any (k1 x1 k2 x2 : Int) (w : World) (ok : Ok k1 x1 k2 x2) : Calls Tryz.prog 56 #[coV k1 x1 k2 x2] w
    fun e w' => e = .returned (.tuple #[.int .i64 (plc k1 x1), .int .i64 (plc k2 x2)]) ∧ Below w.heap.size w w' := by
  obtain ⟨a1, a2, a3, a4, b1, b2, b3, b4⟩ := ok
  have C1 := fun W => place_any k1 x1 W a1 a2 a3 a4
  have C2 := fun W => place_any k2 x2 W b1 b2 b3 b4
  clear a1 a2 a3 a4 b1 b2 b3 b4
  generalize plc k1 x1 = p at *
  generalize plc k2 x2 = q at *
  have hM := Lib.hid (startO' k1 x1 k2 x2 w)
  go_enter Tryz.func56, Tryz.ntmps56
  go_wp2
  go_region_held3 (fun W => SO w.heap.size k1 x1 k2 x2 W ∧ Below w.heap.size w W) (first | exact hM.out | assumption | (refine keepOB hb1 ?_; assumption) | (refine keepOB hb2 ?_; assumption)) (first
    | ((with_reducible refine (C1 _).mono ?_); rintro e w1 ⟨rfl, hb1⟩)
    | ((with_reducible refine (C2 _).mono ?_); rintro e w2 ⟨rfl, hb2⟩))
  go_wp2
  go_ret2
  rename_i hHd
  exact ⟨rfl, hHd.2⟩
theorem none_any (k1 x1 k2 x2 : Int) (w : World) (ok : Ok k1 x1 k2 x2) : Calls Tryz.prog 29 #[coV k1 x1 k2 x2] w
    fun e w' => e = .returned (.bool (decide (plc k2 x2 ≤ plc k1 x1))) ∧ Below w.heap.size w w' := by
  have C := fun W => ends_any k1 x1 k2 x2 W ok
  clear ok
  generalize plc k1 x1 = p at *
  generalize plc k2 x2 = q at *
  have hM := Lib.hid (startO k1 x1 k2 x2 w)
  go_enter Tryz.func29, Tryz.ntmps29
  go_wp2_with ((with_reducible refine (C _).mono ?_); rintro e w1 ⟨rfl, hb1⟩)
  go_ret
  exact ⟨rfl, (keepOB hb1 hM.out).2⟩

abbrev S2 (B : Nat) (k1 x1 k2 x2 m1 y1 m2 y2 : Int) (w W : World) : Prop := SO B k1 x1 k2 x2 W ∧ SO (B + 1) m1 y1 m2 y2 W ∧ Below B w W
theorem keep2 {B : Nat} {k1 x1 k2 x2 m1 y1 m2 y2 : Int} {w W w' : World} (hb : Below W.heap.size W w') (h : S2 B k1 x1 k2 x2 m1 y1 m2 y2 w W) : S2 B k1 x1 k2 x2 m1 y1 m2 y2 w w' :=
  ⟨keepO hb h.1, keepO hb h.2.1, h.2.2.trans (hb.mono (Nat.le_of_lt h.1.2.2.2.2))⟩
theorem start2 (k1 x1 k2 x2 m1 y1 m2 y2 : Int) (w : World) : S2 w.heap.size k1 x1 k2 x2 m1 y1 m2 y2 w ((w.alloc (coC k1 x1 k2 x2)).alloc (coC m1 y1 m2 y2)) := by
  refine ⟨⟨?_, ?_, ?_, ?_, ?_⟩, ⟨?_, ?_, ?_, ?_, ?_⟩, ?_⟩
  all_goals first | (go_simp; done) | (simp; done) | (go_grown; done) | (go_simp; omega)

/-- Are two ranges the same? -/
def same (k1 x1 k2 x2 m1 y1 m2 y2 : Int) : Bool :=
  decide ((plc k2 x2 ≤ plc k1 x1 ∧ plc m2 y2 ≤ plc m1 y1) ∨ (plc k1 x1 = plc m1 y1 ∧ plc k2 x2 = plc m2 y2))
theorem same_any (k1 x1 k2 x2 m1 y1 m2 y2 : Int) (w : World) (ok : Ok k1 x1 k2 x2) (ok2 : Ok m1 y1 m2 y2) : Calls Tryz.prog 32 #[coV k1 x1 k2 x2, coV m1 y1 m2 y2] w
    fun e w' => e = .returned (.bool (same k1 x1 k2 x2 m1 y1 m2 y2)) ∧ Below w.heap.size w w' := by
  have C := fun W => ends_any k1 x1 k2 x2 W ok
  have D := fun W => ends_any m1 y1 m2 y2 W ok2
  have C' := fun W => none_any k1 x1 k2 x2 W ok
  have D' := fun W => none_any m1 y1 m2 y2 W ok2
  clear ok ok2
  unfold same
  generalize plc k1 x1 = p at *
  generalize plc k2 x2 = q at *
  generalize plc m1 y1 = r at *
  generalize plc m2 y2 = s at *
  have S0 := Lib.hid (start2 k1 x1 k2 x2 m1 y1 m2 y2 w)
  obtain ⟨bb, hbb⟩ : ∃ bb, decide (q ≤ p ∧ s ≤ r ∨ p = r ∧ q = s) = bb := ⟨_, rfl⟩
  rw [hbb]
  rcases show q ≤ p ∨ ¬ q ≤ p by omega with e1 | e1 <;> rcases show s ≤ r ∨ ¬ s ≤ r by omega with e2 | e2 <;> rcases bq p r with ⟨e3, e4, e5⟩ | ⟨e3, e4, e5⟩ <;> rcases bq q s with ⟨e6, e7, e8⟩ | ⟨e6, e7, e8⟩
  all_goals first | (exfalso; omega) | skip
  all_goals
    first
      | (have hv : bb = true := by rw [← hbb]; exact decide_eq_true (by omega)
         subst hv)
      | (have hv : bb = false := by rw [← hbb]; exact decide_eq_false (by omega)
         subst hv)
    clear hbb e5 e8
    go_enter Tryz.func32, Tryz.ntmps32
    go_wp2_with (first
      | ((with_reducible refine (C _).mono ?_); rintro e w1 ⟨rfl, hb1⟩
         have S1 := Lib.hid (keep2 hb1 S0.out); clear hb1
         obtain ⟨⟨c0, c1, c2, c3, hB⟩, ⟨d0, d1, d2, d3, hD⟩, _⟩ := S1.out)
      | ((with_reducible refine (D _).mono ?_); rintro e w2 ⟨rfl, hb2⟩
         have S2 := Lib.hid (keep2 hb2 S1.out); clear hb2 c0 c1 c2 c3 hB d0 d1 d2 d3 hD
         obtain ⟨⟨c0, c1, c2, c3, hB⟩, ⟨d0, d1, d2, d3, hD⟩, _⟩ := S2.out)
      | ((with_reducible refine (C' _).mono ?_); rintro e w3 ⟨rfl, hb3⟩
         have S3 := Lib.hid (keep2 hb3 S2.out); clear hb3 c0 c1 c2 c3 hB d0 d1 d2 d3 hD
         obtain ⟨⟨c0, c1, c2, c3, hB⟩, ⟨d0, d1, d2, d3, hD⟩, _⟩ := S3.out)
      | ((with_reducible refine (D' _).mono ?_); rintro e w4 ⟨rfl, hb4⟩
         have S4 := Lib.hid (keep2 hb4 S3.out); clear hb4 c0 c1 c2 c3 hB d0 d1 d2 d3 hD
         obtain ⟨⟨c0, c1, c2, c3, hB⟩, ⟨d0, d1, d2, d3, hD⟩, _⟩ := S4.out))
    go_ret
    first
      | exact ⟨rfl, S4.out.2.2⟩
      | exact ⟨by simp [e1, e2], S4.out.2.2⟩
      | exact ⟨rfl, S3.out.2.2⟩
      | exact ⟨by simp [e1, e2], S3.out.2.2⟩

end Go.Proofs.YtfnogpelaoofbaaGreatDoor.Sp

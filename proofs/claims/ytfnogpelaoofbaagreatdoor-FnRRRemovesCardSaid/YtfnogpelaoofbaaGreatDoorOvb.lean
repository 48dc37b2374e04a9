/- RGOverlaps and RGIntersect of positions. Conditions: those written at each lemma. -/
import Derived.Test.YtfnogpelaoofbaaGreatDoorOva
set_option linter.unusedVariables false
set_option linter.unusedSimpArgs false
set_option maxRecDepth 100000
set_option maxHeartbeats 4000000
namespace Go.Proofs.YtfnogpelaoofbaaGreatDoor.Rg
open Go.RowKit Go.Proofs.YtfnogpelaoofbaaGreatDoor.B Go.Proofs.YtfnogpelaoofbaaGreatDoor.Sp

/-- Do two ranges overlap? -/
def ovY (a b c d : Ct) : Bool := decide (cp a d < 0) && decide (cp c b < 0)
def ovL (a b c d : Ct) : Ct := if ovY a b c d = true then (if cp a c = -1 then c else a) else .aa
def ovU (a b c d : Ct) : Ct := if ovY a b c d = true then (if cp b d = 1 then d else b) else .aa
theorem overlaps_ct (a b c d : Ct) (w : World) : Calls Tryz.prog 51 #[exV a b, exV c d] w fun e w' => e = .returned (.tuple #[exV (ovL a b c d) (ovU a b c d), .bool (ovY a b c d), .nilIface]) ∧ Below w.heap.size w w' := by
  by_cases h1 : cp a d < 0
  · by_cases h2 : cp c b < 0
    · have hy : ovY a b c d = true := by simp [ovY, h1, h2]
      have e1 : ovL a b c d = if cp a c = -1 then c else a := by rw [ovL, if_pos hy]
      have e2 : ovU a b c d = if cp b d = 1 then d else b := by rw [ovU, if_pos hy]
      rw [hy, e1, e2, ex_eq a b, ex_eq c d, ex_eq (if cp a c = -1 then c else a)]
      refine ov_yes w (cmp_of a d) (cmp_of c b) h1 h2 (fun B W c0 c1 => ?_) (fun B W c0 c1 => ?_)
      · by_cases h : cp a c = -1
        · rw [if_pos h]; exact max_lt (cmp_of a c) (ahead_any a) B W h c0 c1
        · rw [if_neg h]; exact max_ge (cmp_of a c) (ahead_any a) B W h c0 c1
      · by_cases h : cp b d = 1
        · rw [if_pos h]; exact min_gt (cmp_of b d) (ahead_any b) B W h c0 c1
        · rw [if_neg h]; exact min_le (cmp_of b d) (ahead_any b) B W h c0 c1
    · have hy : ovY a b c d = false := by simp [ovY, h2]
      rw [hy, show ovL a b c d = .aa by rw [ovL, hy]; rfl, show ovU a b c d = .aa by rw [ovU, hy]; rfl, ex_eq a b, ex_eq c d]
      exact ov_no2 w (cmp_of a d) (cmp_of c b) h1 h2
  · have hy : ovY a b c d = false := by simp [ovY, h1]
    rw [hy, show ovL a b c d = .aa by rw [ovL, hy]; rfl, show ovU a b c d = .aa by rw [ovU, hy]; rfl, ex_eq a b, ex_eq c d]
    exact ov_no1 w (cmp_of a d) h1
def tiY (a b c d : Ct) : Bool := decide (cp (mx a c) (mn b d) < 0)
def tiL (a b c d : Ct) : Ct := if tiY a b c d = true then mx a c else .aa
def tiU (a b c d : Ct) : Ct := if tiY a b c d = true then mn b d else .aa
theorem try_ct (a b c d : Ct) (w : World) : Calls Tryz.prog 77 #[exV a b, exV c d] w fun e w' => e = .returned (.tuple #[exV (tiL a b c d) (tiU a b c d), .bool (tiY a b c d), .nilIface]) ∧ Below w.heap.size w w' := by
  have L : ∀ W, Calls Tryz.prog 91 #[.iface a.tid a.inner, .iface c.tid c.inner, tv] W fun e w' => (∃ x, e = .returned (.tuple #[x, .iface (mx a c).tid (mx a c).inner, .nilIface])) ∧ Below W.heap.size W w' := fun W => (ord_any a c W).mono fun e w' h => ⟨⟨_, h.1⟩, h.2⟩
  have U : ∀ W, Calls Tryz.prog 91 #[.iface b.tid b.inner, .iface d.tid d.inner, tv] W fun e w' => (∃ x, e = .returned (.tuple #[.iface (mn b d).tid (mn b d).inner, x, .nilIface])) ∧ Below W.heap.size W w' := fun W => (ord_any b d W).mono fun e w' h => ⟨⟨_, h.1⟩, h.2⟩
  by_cases h : cp (mx a c) (mn b d) < 0
  · have hy : tiY a b c d = true := by simp [tiY, h]
    rw [hy, show tiL a b c d = mx a c by rw [tiL, if_pos hy], show tiU a b c d = mn b d by rw [tiU, if_pos hy], ex_eq a b, ex_eq c d, ex_eq (mx a c)]
    exact try_gen w L U (cmp_of _ _) h
  · have hy : tiY a b c d = false := by simp [tiY, h]
    rw [hy, show tiL a b c d = .aa by rw [tiL, hy]; rfl, show tiU a b c d = .aa by rw [tiU, hy]; rfl, ex_eq a b, ex_eq c d]
    exact try_none w L U (cmp_of _ _) h
/-- The kinds and keys are those of positions. -/
abbrev Kd (k1 k2 m1 m2 : Int) : Prop := 0 ≤ k1 ∧ k1 ≤ 4 ∧ 0 ≤ k2 ∧ k2 ≤ 4 ∧ 0 ≤ m1 ∧ m1 ≤ 4 ∧ 0 ≤ m2 ∧ m2 ≤ 4
abbrev ctV (a b : Ct) : Value := coV a.kind a.key b.kind b.key
end Go.Proofs.YtfnogpelaoofbaaGreatDoor.Rg

/- The program's comparisons of columns' ranges in plain words: where they begin and end. Conditions: those written at each lemma. -/
import Derived.Test.YtfnogpelaoofbaaGreatDoorRuf
set_option linter.unusedVariables false
set_option linter.unusedSimpArgs false
namespace Go.Proofs.YtfnogpelaoofbaaGreatDoor.Rg
open Go.RowKit Go.Proofs.YtfnogpelaoofbaaGreatDoor.B Go.Proofs.YtfnogpelaoofbaaGreatDoor.Sp

theorem sg_z {x y : Int} : sg x y = 0 ↔ x = y := by unfold sg; split <;> (try split) <;> simp <;> omega
theorem ovT_eq {a b : Cl} (pa : Pcl a) (pb : Pcl b) : ovC a b = decide (a.lo < b.hi ∧ b.lo < a.hi) := by
  unfold ovC ovY
  rw [cp_pos pa.1 pb.2, cp_pos pb.1 pa.2, ← Bool.decide_and]
  exact decide_eq_decide.2 (by rw [sg_neg, sg_neg])
theorem subC_eq {a b : Cl} (pa : Pcl a) (pb : Pcl b) : subC a b = decide (b.lo ≤ a.lo ∧ a.hi ≤ b.hi) := by
  unfold subC
  rw [cp_pos pa.1 pb.1, cp_pos pa.2 pb.2, ← decide_not, ← decide_not, ← Bool.decide_and]
  exact decide_eq_decide.2 (by rw [sg_m1, sg_p1, Int.not_lt, Int.not_lt])
/-- Equals. -/
theorem eqC_eq {a b : Cl} (pa : Pcl a) (pb : Pcl b) : (decide (cp (ctOf a.a a.x) (ctOf b.a b.x) = 0) && decide (cp (ctOf a.b a.y) (ctOf b.b b.y) = 0)) = decide (a.lo = b.lo ∧ a.hi = b.hi) := by
  rw [cp_pos pa.1 pb.1, cp_pos pa.2 pb.2, ← Bool.decide_and]
  exact decide_eq_decide.2 (by rw [sg_z, sg_z])
/-- IsConnected. -/
theorem conC_eq {a b : Cl} (pa : Pcl a) (pb : Pcl b) : (decide (cp (ctOf a.a a.x) (ctOf b.b b.y) ≤ 0) && decide (cp (ctOf b.a b.x) (ctOf a.b a.y) ≤ 0)) = decide (a.lo ≤ b.hi ∧ b.lo ≤ a.hi) := by
  rw [cp_pos pa.1 pb.2, cp_pos pb.1 pa.2, ← Bool.decide_and]
  exact decide_eq_decide.2 (by rw [sg_le, sg_le])

/-- Two columns' ranges joined. -/
def jn (a b : Cl) : Cl := ⟨if a.lo ≤ b.lo then a.a else b.a, if a.lo ≤ b.lo then a.x else b.x, if a.hi ≤ b.hi then b.b else a.b, if a.hi ≤ b.hi then b.y else a.y⟩
theorem union_cl (a b : Cl) (w : World) (pa : Pcl a) (pb : Pcl b) (na : a.lo < a.hi) (nb : b.lo < b.hi) :
    Calls Tryz.prog 71 #[a.e, b.e] w fun e w' => e = .returned (.tuple #[if a.lo ≤ b.hi ∧ b.lo ≤ a.hi then (jn a b).e else .agg #[.nilIface, .nilIface, .nilIface], .bool (decide (a.lo ≤ b.hi ∧ b.lo ≤ a.hi)), .nilIface]) ∧ Below w.heap.size w w' := by
  have h := union_ct (ctOf a.a a.x) (ctOf a.b a.y) (ctOf b.a b.x) (ctOf b.b b.y) w
  rw [ex_eq (ctOf a.a a.x), ex_eq (ctOf b.a b.x)] at h
  have e1 : ¬ 0 ≤ cp (ctOf b.a b.x) (ctOf b.b b.y) := by rw [cp_pos pb.1 pb.2, Int.not_le, sg_neg]; exact nb
  have e2 : ¬ 0 ≤ cp (ctOf a.a a.x) (ctOf a.b a.y) := by rw [cp_pos pa.1 pa.2, Int.not_le, sg_neg]; exact na
  have e3 : (cp (ctOf a.a a.x) (ctOf b.b b.y) ≤ 0 ∧ cp (ctOf b.a b.x) (ctOf a.b a.y) ≤ 0) ↔ (a.lo ≤ b.hi ∧ b.lo ≤ a.hi) := by rw [cp_pos pa.1 pb.2, cp_pos pb.1 pa.2, sg_le, sg_le]
  have m1 : mn (ctOf a.a a.x) (ctOf b.a b.x) = ctOf (jn a b).a (jn a b).x := by
    unfold mn jn
    rw [cp_pos pa.1 pb.1]
    by_cases h1 : a.lo ≤ b.lo
    · rw [if_pos (sg_le.2 h1), if_pos h1, if_pos h1]
    · rw [if_neg (fun h => h1 (sg_le.1 h)), if_neg h1, if_neg h1]
  have m2 : mx (ctOf a.b a.y) (ctOf b.b b.y) = ctOf (jn a b).b (jn a b).y := by
    unfold mx jn
    rw [cp_pos pa.2 pb.2]
    by_cases h1 : a.hi ≤ b.hi
    · rw [if_pos (sg_le.2 h1), if_pos h1, if_pos h1]
    · rw [if_neg (fun h => h1 (sg_le.1 h)), if_neg h1, if_neg h1]
  unfold unV unY at h
  rw [if_neg e1, if_neg e2, if_neg e1, if_neg e2, m1, m2, ex_eq] at h
  by_cases h3 : a.lo ≤ b.hi ∧ b.lo ≤ a.hi
  · rw [if_pos (e3.2 h3), decide_eq_true (e3.2 h3)] at h
    rw [if_pos h3, decide_eq_true h3]
    exact h
  · rw [if_neg (fun x => h3 (e3.1 x)), decide_eq_false (fun x => h3 (e3.1 x))] at h
    rw [if_neg h3, decide_eq_false h3]
    exact h
end Go.Proofs.YtfnogpelaoofbaaGreatDoor.Rg

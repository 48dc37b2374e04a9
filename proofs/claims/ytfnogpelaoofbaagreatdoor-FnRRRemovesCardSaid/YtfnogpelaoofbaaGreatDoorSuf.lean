/- RGSubtract, as the thin package has it. Conditions: those written at each lemma. -/
import Derived.Test.YtfnogpelaoofbaaGreatDoorSue
import Derived.Test.YtfnogpelaoofbaaGreatDoorSud
set_option linter.unusedVariables false
set_option linter.unusedSimpArgs false
set_option maxRecDepth 100000
set_option maxHeartbeats 4000000
namespace Go.Proofs.YtfnogpelaoofbaaGreatDoor.Rg
open Go.RowKit Go.Proofs.YtfnogpelaoofbaaGreatDoor.B Go.Proofs.YtfnogpelaoofbaaGreatDoor.Sp

/-- What is left of a range without another one. -/
def sub (a b : Cl) : List Cl :=
  if a.lo < b.hi ∧ b.lo < a.hi then (if a.lo < b.lo then [⟨a.a, a.x, b.a, b.x⟩] else []) ++ (if b.hi < a.hi then [⟨b.b, b.y, a.b, a.y⟩] else []) else [a]
theorem sub_len (a b : Cl) : (sub a b).length ≤ 2 := by
  unfold sub
  (repeat' split) <;> simp
theorem sub_pcl {a b : Cl} (pa : Pcl a) (pb : Pcl b) : ∀ c ∈ sub a b, Pcl c := by
  unfold sub
  intro c hc
  split at hc
  · rcases List.mem_append.1 hc with h | h
    · split at h
      · rw [List.mem_singleton.1 h]; exact ⟨pa.1, pb.1⟩
      · cases h
    · split at h
      · rw [List.mem_singleton.1 h]; exact ⟨pb.2, pa.2⟩
      · cases h
  · rw [List.mem_singleton.1 hc]; exact pa
theorem sg_cases (x y : Int) : (x < y ∧ sg x y = -1) ∨ (x = y ∧ sg x y = 0) ∨ (y < x ∧ sg x y = 1) := by unfold sg; (repeat' split) <;> omega
theorem subtract_cl (a b : Cl) (w : World) (pa : Pcl a) (pb : Pcl b) :
    Calls Tryz.prog 52 #[exV (ctOf a.a a.x) (ctOf a.b a.y), exV (ctOf b.a b.x) (ctOf b.b b.y)] w fun e w' => ∃ v, e = .returned (.tuple #[v, .nilIface]) ∧ Rd w' 3 v (sub a b).length (exs (sub a b)) ∧ Below w.heap.size w w' := by
  have O : ∀ W, Calls Tryz.prog 51 #[exV (ctOf a.a a.x) (ctOf a.b a.y), exV (ctOf b.a b.x) (ctOf b.b b.y)] W fun e w' => e = .returned (.tuple #[exV (ovL (ctOf a.a a.x) (ctOf a.b a.y) (ctOf b.a b.x) (ctOf b.b b.y)) (ovU (ctOf a.a a.x) (ctOf a.b a.y) (ctOf b.a b.x) (ctOf b.b b.y)), .bool (ovY (ctOf a.a a.x) (ctOf a.b a.y) (ctOf b.a b.x) (ctOf b.b b.y)), .nilIface]) ∧ Below W.heap.size W w' := fun W => overlaps_ct _ _ _ _ W
  have hy : ovY (ctOf a.a a.x) (ctOf a.b a.y) (ctOf b.a b.x) (ctOf b.b b.y) = decide (a.lo < b.hi ∧ b.lo < a.hi) := by
    unfold ovY
    rw [cp_pos pa.1 pb.2, cp_pos pb.1 pa.2, ← Bool.decide_and]
    exact decide_eq_decide.2 (by rw [sg_neg, sg_neg])
  rw [hy] at O
  have C := cmp_of (ctOf a.a a.x) (ctOf b.a b.x)
  have D := cmp_of (ctOf a.b a.y) (ctOf b.b b.y)
  rw [cp_pos pa.1 pb.1] at C
  rw [cp_pos pa.2 pb.2] at D
  rw [ex_eq (ctOf a.a a.x), ex_eq (ctOf b.a b.x)]
  simp only [ex_eq] at O
  by_cases h : a.lo < b.hi ∧ b.lo < a.hi
  · rw [decide_eq_true h] at O
    unfold sub
    rw [if_pos h]
    have e1 : plc a.a a.x = a.lo := rfl
    have e2 : plc b.a b.x = b.lo := rfl
    have e3 : plc a.b a.y = a.hi := rfl
    have e4 : plc b.b b.y = b.hi := rfl
    rw [e1, e2] at C
    rw [e3, e4] at D
    clear hy h e1 e2 e3 e4
    rcases sg_cases a.lo b.lo with ⟨h1, h2⟩ | ⟨h1, h2⟩ | ⟨h1, h2⟩ <;> rcases sg_cases a.hi b.hi with ⟨h3, h4⟩ | ⟨h3, h4⟩ | ⟨h3, h4⟩ <;> rw [h2] at C <;> rw [h4] at D
    · rw [if_pos h1, if_neg (by omega)]; exact sub_mm w O C D
    · rw [if_pos h1, if_neg (by omega)]; exact sub_mz w O C D
    · rw [if_pos h1, if_pos h3]; exact sub_mp w O C D
    · rw [if_neg (by omega), if_neg (by omega)]; exact sub_zm w O C D
    · rw [if_neg (by omega), if_neg (by omega)]; exact sub_zz w O C D
    · rw [if_neg (by omega), if_pos h3]; exact sub_zp w O C D
    · rw [if_neg (by omega), if_neg (by omega)]; exact sub_pm w O C D
    · rw [if_neg (by omega), if_neg (by omega)]; exact sub_pz w O C D
    · rw [if_neg (by omega), if_pos h3]; exact sub_pp w O C D
  · rw [decide_eq_false h] at O
    unfold sub
    rw [if_neg h]
    exact sub_no w O

abbrev fb (b : Bool) : Obj := .cells #[.bool b] 4
abbrev S3 (B : Nat) (a b : Cl) (w W : World) : Prop := Ms B w W [(B + 1, b), (B, a)] ∧ W.heap[B + 1 + 1]? = some (fb false)
theorem keep3 {B : Nat} {a b : Cl} {w W w' : World} (hb : Below W.heap.size W w') (h : S3 B a b w W) : S3 B a b w w' := ⟨h.1.keep hb, blk_keep h.2 hb⟩
theorem own_grown_lt {W W1 : World} {B : Nat} {e : TypeId} {s n : Nat} {v : Value} {xs : List Value} {r : Option Nat} (h : W.ownsRow B e s v n xs) (hr : ∀ k, r = some k → k < B) (hg : W.grownBy W1 r) : W1.ownsRow B e s v n xs := by
  refine ⟨h.1, ?_⟩
  rcases h.2 with h2 | ⟨g, cap, cur, h1, h2, h3, h4⟩
  · exact .inl h2
  · refine .inr ⟨g, cap, cur, h1, h2, ?_, h4⟩
    rw [hg.block g (lt_of_block h3) (fun e1 => ?_)]
    · exact h3
    · have := hr g e1.symm
      omega
theorem expr_cl (c : Cl) (w : World) (p : Pcl c) : Calls Tryz.prog 47 #[c.v] w fun e w' => e = .returned (exV (ctOf c.a c.x) (ctOf c.b c.y)) ∧ Below w.heap.size w w' := expr_any c.a c.x c.b c.y w p.1.1 p.1.2.1 p.2.1 p.2.2.1
theorem sub_ful {a b : Cl} (pa : Ful a) : ∀ c ∈ sub a b, c.lo < c.hi := by
  unfold sub
  intro c hc
  split at hc
  · rcases List.mem_append.1 hc with h | h
    · split at h
      · rw [List.mem_singleton.1 h]; assumption
      · cases h
    · split at h
      · rw [List.mem_singleton.1 h]; assumption
      · cases h
  · rw [List.mem_singleton.1 hc]; exact pa.2.2
theorem okB_one (c : Cl) (p : Int) : okB [c] [p] = inB c p := by simp [okB]
theorem has_one (cs : List Cl) (p : Int) : hasB (cs.map fun x => [x]) [p] = cs.any fun c => inB c p := by
  unfold hasB
  rw [List.any_map]
  congr 1
  funext c
  exact okB_one c p
theorem any_append {α : Type} (f : α → Bool) (l m : List α) : (l ++ m).any f = (l.any f || m.any f) := List.any_append
theorem sub_has {a b : Cl} (pa : Ful a) (pb : Ful b) (p : Int) : hasB ((sub a b).map fun x => [x]) [p] = (inB a p && !inB b p) := by
  rw [has_one]
  have h1 := pa.2.2
  have h2 := pb.2.2
  have hin : ∀ c : Cl, inB c p = true ↔ c.lo ≤ p ∧ p < c.hi := fun c => by unfold inB; rw [Bool.and_eq_true, decide_eq_true_iff, decide_eq_true_iff]
  rw [Bool.eq_iff_iff, Bool.and_eq_true, Bool.not_eq_true', ← Bool.not_eq_true, hin, hin]
  unfold sub
  split
  · rw [any_append, Bool.or_eq_true]
    have e1 : ((if a.lo < b.lo then [(⟨a.a, a.x, b.a, b.x⟩ : Cl)] else []).any fun c => inB c p) = true ↔ a.lo ≤ p ∧ p < b.lo := by
      split
      · rw [List.any_cons, List.any_nil, Bool.or_false, hin]
      · simp only [List.any_nil]
        constructor
        · intro h; cases h
        · intro h; omega
    have e2 : ((if b.hi < a.hi then [(⟨b.b, b.y, a.b, a.y⟩ : Cl)] else []).any fun c => inB c p) = true ↔ b.hi ≤ p ∧ p < a.hi := by
      split
      · rw [List.any_cons, List.any_nil, Bool.or_false, hin]
      · simp only [List.any_nil]
        constructor
        · intro h; cases h
        · intro h; omega
    rw [e1, e2]
    omega
  · rw [List.any_cons, List.any_nil, Bool.or_false, hin]
    omega
theorem sub_own (a : Cl) : sub a ⟨a.b, a.y, 4, 0⟩ = [a] := if_neg (fun h => Int.lt_irrefl _ h.2)
end Go.Proofs.YtfnogpelaoofbaaGreatDoor.Rg

/- When two objects are equal, plain. Conditions: those written at each lemma. -/
import Derived.Test.YtmelgankbegjaaaKa
set_option linter.unusedVariables false
set_option linter.unusedSimpArgs false
set_option maxRecDepth 100000
set_option maxHeartbeats 4000000
namespace Go.Proofs.Ytmelgankbegjaaa.Js
open Go.RowKit Go.Proofs.Ytmelgankbegjaaa.B

theorem it_obj {a b : J} (hk : a.k = 5) (ha : a.ns.length = a.is.length) (hb : b.ns.length = b.is.length) (i : Nat) (hi : i < a.is.length) :
    it a b i = true ↔ ∃ j, ∃ hj : j < b.ns.length, b.ns[j] = a.ns[i]'(by omega) ∧ eqJ a.is[i] (b.is[j]'(by omega)) = true ∧ idx (a.ns[i]'(by omega)) b.ns 0 = (j : Int) := by
  rw [it_iff a b i hi]
  have e : a.ns.getD i .empty = a.ns[i]'(by omega) := by rw [List.getD_eq_getElem?_getD, List.getElem?_eq_getElem (by omega : i < a.ns.length)]; rfl
  unfold ps
  rw [if_pos hk, e]
  constructor
  · rintro ⟨p1, p2⟩
    obtain ⟨j, e1, hj, e2⟩ := idx_pos p1
    rw [e1, Int.toNat_natCast, getD_at (by omega)] at p2
    exact ⟨j, hj, e2, p2, e1⟩
  · rintro ⟨j, hj, e2, p2, e1⟩
    rw [e1]
    refine ⟨by omega, ?_⟩
    rw [Int.toNat_natCast, getD_at (by omega)]
    exact p2
end Go.Proofs.Ytmelgankbegjaaa.Js

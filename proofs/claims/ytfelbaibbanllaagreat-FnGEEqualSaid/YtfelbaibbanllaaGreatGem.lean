/- Twice the area around points of whole numbers: the other way round, moved. Plain numbers, no program in sight. -/
import Derived.Test.YtfelbaibbanllaaGreatFn
set_option linter.unusedVariables false
set_option linter.unusedSimpArgs false
namespace Go.Proofs.YtfelbaibbanllaaGreat.Ge

def cross (p q : Int × Int) : Int := p.1 * q.2 - p.2 * q.1
def Sl : List (Int × Int) → Int
  | [] => 0
  | [_] => 0
  | p :: q :: r => cross p q + Sl (q :: r)
theorem Sl_snoc : ∀ (l : List (Int × Int)) (p q : Int × Int), Sl (l ++ [p] ++ [q]) = Sl (l ++ [p]) + cross p q
  | [], p, q => by simp [Sl]
  | [a], p, q => by simp [Sl]
  | a :: b :: l, p, q => by
    have ih := Sl_snoc (b :: l) p q
    simp only [List.cons_append] at ih ⊢
    rw [Sl, Sl, ih]
    omega
/-- What is there at k + 1 is added. -/
theorem Sl_take (l : List (Int × Int)) (k : Nat) (h : k + 1 < l.length) : Sl (l.take (k + 2)) = Sl (l.take (k + 1)) + cross (l[k]'(by omega)) l[k + 1] := by
  rw [List.take_succ_eq_append_getElem h, List.take_succ_eq_append_getElem (show k < l.length by omega)]
  exact Sl_snoc _ _ _
theorem Sl_one (l : List (Int × Int)) : Sl (l.take 1) = 0 := by
  match l with
  | [] => rfl
  | [_] => rfl
  | _ :: _ :: _ => rfl
theorem cross_swap (p q : Int × Int) : cross q p = - cross p q := by
  unfold cross
  rw [Int.mul_comm q.1, Int.mul_comm q.2]
  omega
theorem Sl_reverse : ∀ l : List (Int × Int), Sl l.reverse = - Sl l
  | [] => rfl
  | [_] => rfl
  | p :: q :: r => by
    have ih := Sl_reverse (q :: r)
    rw [List.reverse_cons, List.reverse_cons, Sl_snoc, ← List.reverse_cons, ih, cross_swap, Sl]
    omega
def mv (a b : Int) (p : Int × Int) : Int × Int := (p.1 + a, p.2 + b)
theorem cross_mv (a b : Int) (p q : Int × Int) : cross (mv a b p) (mv a b q) = cross p q + (b * (p.1 - q.1) + a * (q.2 - p.2)) := by
  unfold cross mv
  simp only [Int.mul_add, Int.add_mul, Int.mul_sub]
  rw [Int.mul_comm p.1 b, Int.mul_comm b q.1, Int.mul_comm p.2 a, Int.mul_comm a b]
  have : b * q.1 = q.1 * b := Int.mul_comm _ _
  omega
theorem Sl_mv (a b : Int) : ∀ (p : Int × Int) (l : List (Int × Int)), Sl ((p :: l).map (mv a b)) = Sl (p :: l) + (b * (p.1 - ((p :: l).getLast (List.cons_ne_nil p l)).1) + a * (((p :: l).getLast (List.cons_ne_nil p l)).2 - p.2))
  | p, [] => by simp [Sl]
  | p, q :: l => by
    have ih := Sl_mv a b q l
    rw [List.map_cons, List.map_cons, Sl, ← List.map_cons, ih, cross_mv, List.getLast_cons (List.cons_ne_nil q l), Sl]
    generalize (q :: l).getLast _ = z
    simp only [Int.mul_sub]
    omega
/-- A ring that is moved has the area that it had. -/
theorem Sl_ring (a b : Int) (p : Int × Int) (l : List (Int × Int)) : Sl ((p :: l ++ [p]).map (mv a b)) = Sl (p :: l ++ [p]) := by
  have h := Sl_mv a b p (l ++ [p])
  have e : (p :: (l ++ [p])).getLast (List.cons_ne_nil p (l ++ [p])) = p := List.getLast_concat (l := p :: l)
  rw [e] at h
  rw [List.cons_append, h]
  simp
/-- Numbers of at most this size. -/
def Bd (K : Int) (l : List (Int × Int)) : Prop := ∀ p ∈ l, -K ≤ p.1 ∧ p.1 ≤ K ∧ -K ≤ p.2 ∧ p.2 ≤ K
theorem mul_bd {x y : Int} (h1 : -1128 ≤ x) (h2 : x ≤ 1128) (h3 : -1128 ≤ y) (h4 : y ≤ 1128) : -1272384 ≤ x * y ∧ x * y ≤ 1272384 := by
  have a := Nat.mul_le_mul (show x.natAbs ≤ 1128 by omega) (show y.natAbs ≤ 1128 by omega)
  rw [← Int.natAbs_mul] at a
  omega
theorem cross_bd {p q : Int × Int} (hp : -1128 ≤ p.1 ∧ p.1 ≤ 1128 ∧ -1128 ≤ p.2 ∧ p.2 ≤ 1128) (hq : -1128 ≤ q.1 ∧ q.1 ≤ 1128 ∧ -1128 ≤ q.2 ∧ q.2 ≤ 1128) : -2544768 ≤ cross p q ∧ cross p q ≤ 2544768 := by
  unfold cross
  have a := mul_bd hp.1 hp.2.1 hq.2.2.1 hq.2.2.2
  have b := mul_bd hp.2.2.1 hp.2.2.2 hq.1 hq.2.1
  omega
theorem Sl_bd : ∀ (l : List (Int × Int)), Bd 1128 l → -(2544768 * (l.length : Int)) ≤ Sl l ∧ Sl l ≤ 2544768 * (l.length : Int)
  | [], _ => by simp [Sl]
  | [_], _ => by simp [Sl]
  | p :: q :: r, h => by
    have ih := Sl_bd (q :: r) (fun x hx => h x (List.mem_cons_of_mem _ hx))
    have c := cross_bd (h p (by simp)) (h q (by simp))
    rw [Sl]
    simp only [List.length_cons] at ih ⊢
    omega
/-- The words l stand for the whole numbers zs. -/
def Fp (l : List (Nat × Nat)) (zs : List (Int × Int)) : Prop := l.length = zs.length ∧ ∀ i (h1 : i < l.length) (h2 : i < zs.length), F.FI l[i].1 zs[i].1 ∧ F.FI l[i].2 zs[i].2
theorem Fp.snoc {l : List (Nat × Nat)} {zs : List (Int × Int)} {p : Nat × Nat} {z : Int × Int} (h : Fp l zs) (hp : F.FI p.1 z.1 ∧ F.FI p.2 z.2) : Fp (l ++ [p]) (zs ++ [z]) := by
  refine ⟨by simp [h.1], fun i h1 h2 => ?_⟩
  by_cases hi : i < l.length
  · rw [List.getElem_append_left hi, List.getElem_append_left (by rw [← h.1]; exact hi)]
    exact h.2 i hi _
  · have e : i = l.length := by simp at h1; omega
    subst e
    rw [List.getElem_append_right (Nat.le_refl _), List.getElem_append_right (by rw [h.1]; exact Nat.le_refl _)]
    simp only [Nat.sub_self, List.getElem_cons_zero, h.1]
    exact hp
theorem Fp.reverse {l : List (Nat × Nat)} {zs : List (Int × Int)} (h : Fp l zs) : Fp l.reverse zs.reverse := by
  refine ⟨by simp [h.1], fun i h1 h2 => ?_⟩
  rw [List.getElem_reverse, List.getElem_reverse]
  have := h.2 (l.length - 1 - i) (by simp at h1; omega) (by simp at h1; rw [← h.1]; omega)
  simpa [h.1] using this
end Go.Proofs.YtfelbaibbanllaaGreat.Ge

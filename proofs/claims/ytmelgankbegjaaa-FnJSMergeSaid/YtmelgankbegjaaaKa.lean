/- When two trees are equal. Conditions: those written at each lemma. -/
import Derived.Test.YtmelgankbegjaaaJb
set_option linter.unusedVariables false
set_option linter.unusedSimpArgs false
set_option maxRecDepth 100000
set_option maxHeartbeats 4000000
namespace Go.Proofs.Ytmelgankbegjaaa.Js
open Go.RowKit Go.Proofs.Ytmelgankbegjaaa.B

/-- Where the partner of item i stands. -/
def ps (k : Int) (ns : List ByteArray) (b : J) (i : Nat) : Int := if k = 5 then idx (ns.getD i .empty) b.ns 0 else i
/-- Equal as values: the members of objects in whatever order. -/
def eqJ (a b : J) : Bool :=
  match a with
  | .mk k n s ns is => (k == b.k) && (n == b.n) && decide (s = b.s) && (is.length == b.is.length) && (List.range is.length).all fun i => if h : i < is.length then decide (0 ≤ ps k ns b i) && eqJ is[i] (b.is.getD (ps k ns b i).toNat b) else true
termination_by SizeOf.sizeOf a
decreasing_by
  have := List.sizeOf_lt_of_mem (List.getElem_mem h)
  simp only [J.mk.sizeOf_spec]
  omega
/-- Item i finds its equal. -/
def it (a b : J) (i : Nat) : Bool := decide (0 ≤ ps a.k a.ns b i) && eqJ (a.is.getD i a) (b.is.getD (ps a.k a.ns b i).toNat b)
theorem eqJ_eq (a b : J) : eqJ a b = ((a.k == b.k) && (a.n == b.n) && decide (a.s = b.s) && (a.is.length == b.is.length) && (List.range a.is.length).all fun i => it a b i) := by
  obtain ⟨k, n, s, ns, is⟩ := a
  rw [eqJ]
  congr 1
  rw [Bool.eq_iff_iff, List.all_eq_true, List.all_eq_true]
  refine forall_congr' fun i => forall_congr' fun hi => ?_
  have hi := List.mem_range.1 hi
  rw [dif_pos hi]
  unfold it
  rw [List.getD_eq_getElem?_getD (l := is), List.getElem?_eq_getElem hi]
  rfl
theorem eqJ_iff (a b : J) : eqJ a b = true ↔ a.k = b.k ∧ a.n = b.n ∧ a.s = b.s ∧ a.is.length = b.is.length ∧ ∀ i, i < a.is.length → it a b i = true := by
  rw [eqJ_eq]
  simp only [Bool.and_eq_true, beq_iff_eq, decide_eq_true_iff, List.all_eq_true, List.mem_range, and_assoc]
theorem it_iff (a b : J) (i : Nat) (hi : i < a.is.length) : it a b i = true ↔ 0 ≤ ps a.k a.ns b i ∧ eqJ a.is[i] (b.is.getD (ps a.k a.ns b i).toNat b) = true := by
  unfold it
  rw [List.getD_eq_getElem?_getD (l := a.is), List.getElem?_eq_getElem hi, Bool.and_eq_true, decide_eq_true_iff]
  rfl
theorem Wf.kids {t : J} (h : Wf t) : Wfs t.is ∧ (t.k = 5 → t.ns.length = t.is.length ∧ t.ns.Nodup) := by
  obtain ⟨k, n, s, ns, is⟩ := t
  show Wfs is ∧ (k = 5 → ns.length = is.length ∧ ns.Nodup)
  rcases h with ⟨rfl, _, _, _, e2⟩ | ⟨rfl, _, _, _, e2⟩ | ⟨rfl, _, _, _, _, e2⟩ | ⟨rfl, _, _, _, e2⟩ | ⟨rfl, _, _, _, _, h⟩ | ⟨rfl, _, _, h1, _, h2, _, h⟩
  · rw [e2]; exact ⟨trivial, fun h => by cases h⟩
  · rw [e2]; exact ⟨trivial, fun h => by cases h⟩
  · rw [e2]; exact ⟨trivial, fun h => by cases h⟩
  · rw [e2]; exact ⟨trivial, fun h => by cases h⟩
  · exact ⟨h, fun h => by cases h⟩
  · exact ⟨h, fun _ => ⟨h1, h2⟩⟩
theorem nd_inj {l : List ByteArray} (hd : l.Nodup) {i j : Nat} (hi : i < l.length) (hj : j < l.length) (e : l[i] = l[j]) : i = j := by
  rcases Nat.lt_trichotomy i j with h | h | h
  · exact absurd e (List.pairwise_iff_getElem.1 hd i j hi hj h)
  · exact h
  · exact absurd e.symm (List.pairwise_iff_getElem.1 hd j i hj hi h)
theorem sup_of_sub : ∀ (l m : List ByteArray), l.Nodup → (∀ x ∈ l, x ∈ m) → m.length ≤ l.length → ∀ x ∈ m, x ∈ l
  | [], m, _, _, h, x, hx => by
    have : m = [] := List.eq_nil_of_length_eq_zero (by simpa using h)
    rw [this] at hx
    cases hx
  | y :: r, m, hd, hs, h, x, hx => by
    have hy := hs y (.head _)
    have hd2 := List.nodup_cons.1 hd
    by_cases e : x = y
    · rw [e]; exact .head _
    · refine .tail _ (sup_of_sub r (m.filter fun z => decide (z ≠ y)) hd2.2 (fun z hz => ?_) ?_ x (List.mem_filter.2 ⟨hx, decide_eq_true e⟩))
      · exact List.mem_filter.2 ⟨hs z (.tail _ hz), decide_eq_true (fun e2 => hd2.1 (by rw [← e2]; exact hz))⟩
      · have := (List.length_filter_lt_length_iff_exists (p := fun z => decide (z ≠ y)) (l := m)).2 ⟨y, hy, (by simp : ¬ (decide (y ≠ y) = true))⟩
        simp only [List.length_cons] at h
        omega
theorem size_item (a : J) (i : Nat) (hi : i < a.is.length) : SizeOf.sizeOf a.is[i] < SizeOf.sizeOf a := by
  obtain ⟨k, n, s, ns, is⟩ := a
  have h : SizeOf.sizeOf (is[i]'hi) < SizeOf.sizeOf is := List.sizeOf_lt_of_mem (List.getElem_mem hi)
  show SizeOf.sizeOf (is[i]'hi) < _
  simp only [J.mk.sizeOf_spec]
  omega
theorem idx_at {l : List ByteArray} (hd : l.Nodup) {i : Nat} (hi : i < l.length) : idx l[i] l 0 = (i : Int) := by
  rcases idx_range (x := l[i]) (l := l) (i := 0) (Int.le_refl 0) with ⟨_, h⟩ | ⟨k, h1, h2, h3⟩
  · exact absurd (List.getElem_mem hi) h
  · obtain ⟨hk, h2⟩ := List.getElem?_eq_some_iff.1 h2
    have : k = i := nd_inj hd hk hi h2
    rw [h1, this]; omega
theorem idx_pos {x : ByteArray} {l : List ByteArray} (h : 0 ≤ idx x l 0) : ∃ k, idx x l 0 = ((k : Nat) : Int) ∧ ∃ hk : k < l.length, l[k] = x := by
  rcases idx_range (x := x) (l := l) (i := 0) (Int.le_refl 0) with ⟨h1, _⟩ | ⟨k, h1, h2, _⟩
  · omega
  · obtain ⟨hk, h2⟩ := List.getElem?_eq_some_iff.1 h2
    exact ⟨k, by rw [h1]; omega, hk, h2⟩
theorem getD_at {l : List J} {i : Nat} (h : i < l.length) (d : J) : l.getD i d = l[i] := by
  rw [List.getD_eq_getElem?_getD, List.getElem?_eq_getElem h]
  rfl
theorem eqJ_sym : ∀ (N : Nat) (a b : J), SizeOf.sizeOf a ≤ N → Wf a → Wf b → eqJ a b = true → eqJ b a = true := by
  intro N
  induction N with
  | zero => intro a b h; obtain ⟨k, n, s, ns, is⟩ := a; simp only [J.mk.sizeOf_spec] at h; omega
  | succ N ih =>
    intro a b hN ha hb h
    obtain ⟨h1, h2, h3, h4, h5⟩ := (eqJ_iff a b).1 h
    refine (eqJ_iff b a).2 ⟨h1.symm, h2.symm, h3.symm, h4.symm, fun j hj => ?_⟩
    have hsz : ∀ i (hi : i < a.is.length), SizeOf.sizeOf a.is[i] ≤ N := fun i hi => by
      have := size_item a i hi
      omega
    rw [it_iff b a j hj]
    by_cases hk : a.k = 5
    · have hk2 : b.k = 5 := by omega
      obtain ⟨hwa, ha5⟩ := ha.kids
      obtain ⟨hwb, hb5⟩ := hb.kids
      obtain ⟨la, da⟩ := ha5 hk
      obtain ⟨lb, db⟩ := hb5 hk2
      have hpa : ∀ i (hi : i < a.is.length), ∃ j, ∃ hj : j < b.ns.length, b.ns[j] = a.ns[i]'(by omega) ∧ eqJ a.is[i] (b.is[j]'(by omega)) = true := fun i hi => by
        obtain ⟨p1, p2⟩ := (it_iff a b i hi).1 (h5 i hi)
        unfold ps at p1 p2
        rw [if_pos hk] at p1 p2
        have e : a.ns.getD i .empty = a.ns[i]'(by omega) := by rw [List.getD_eq_getElem?_getD, List.getElem?_eq_getElem (by omega : i < a.ns.length)]; rfl
        rw [e] at p1 p2
        obtain ⟨j, e1, hj, e2⟩ := idx_pos p1
        rw [e1, Int.toNat_natCast, getD_at (by omega)] at p2
        exact ⟨j, hj, e2, p2⟩
      have hsub : ∀ x ∈ a.ns, x ∈ b.ns := fun x hx => by
        obtain ⟨i, hi, rfl⟩ := List.getElem_of_mem hx
        obtain ⟨j, hj, e, _⟩ := hpa i (by omega)
        rw [← e]
        exact List.getElem_mem _
      have hsup : b.ns[j]'(by omega) ∈ a.ns := sup_of_sub a.ns b.ns da hsub (by omega) _ (List.getElem_mem _)
      obtain ⟨i, hi, ei⟩ := List.getElem_of_mem hsup
      obtain ⟨j', hj', e, q⟩ := hpa i (by omega)
      have : j' = j := nd_inj db hj' (by omega) (e.trans ei)
      subst this
      have eb : b.ns.getD j' .empty = a.ns[i] := by rw [List.getD_eq_getElem?_getD, List.getElem?_eq_getElem hj', e]; rfl
      unfold ps
      rw [if_pos hk2, eb, idx_at da hi]
      refine ⟨by omega, ?_⟩
      rw [Int.toNat_natCast, getD_at (by omega)]
      exact ih _ _ (hsz i (by omega)) (hwa.get _ (List.getElem_mem _)) (hwb.get _ (List.getElem_mem _)) q
    · have hk2 : ¬ b.k = 5 := by omega
      have hja : j < a.is.length := by omega
      obtain ⟨p1, p2⟩ := (it_iff a b j hja).1 (h5 j hja)
      unfold ps at p2 ⊢
      rw [if_neg hk] at p2
      rw [if_neg hk2]
      refine ⟨by omega, ?_⟩
      rw [Int.toNat_natCast, getD_at (by omega)] at p2 ⊢
      exact ih _ _ (hsz j hja) (ha.kids.1.get _ (List.getElem_mem _)) (hb.kids.1.get _ (List.getElem_mem _)) p2
theorem eqJ_comm (a b : J) (ha : Wf a) (hb : Wf b) : eqJ a b = eqJ b a := by
  rw [Bool.eq_iff_iff]
  exact ⟨eqJ_sym _ a b (Nat.le_refl _) ha hb, eqJ_sym _ b a (Nat.le_refl _) hb ha⟩
end Go.Proofs.Ytmelgankbegjaaa.Js

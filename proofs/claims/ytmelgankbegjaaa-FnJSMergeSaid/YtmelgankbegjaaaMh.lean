/- Names that are sorted by the library; the names of a map. Conditions: those written at each lemma. -/
import Derived.Test.YtmelgankbegjaaaMg
import Derived.Test.YtmelgankbegjaaaShelf
import Derived.Sort.OwnSorted
set_option linter.unusedVariables false
set_option linter.unusedSimpArgs false
set_option maxRecDepth 100000
set_option maxHeartbeats 8000000
namespace Go.Proofs.Ytmelgankbegjaaa.Js
open Go.RowKit Go.Proofs.Ytmelgankbegjaaa.B Go.Sort

theorem strs_enc (ss : List ByteArray) : (ss.map fun x => x.data.toList).map encStr = strs ss := by
  rw [List.map_map]
  exact List.map_congr_left fun x _ => by simp [encStr]
theorem sort_any (B : Nat) (A : Option Addr) (c : Nat) (ss : List ByteArray) (w : World) (ho : w.ownsRow B 9 1 (.slice A ss.length c) ss.length (strs ss)) (h8 : ss.length ≤ 8) :
    Calls Try.prog 33 #[.slice A ss.length c] w fun e w' => ∃ ss2 : List ByteArray, e = .returned (.tuple #[]) ∧ ss2.Perm ss ∧ w'.ownsRow B 9 1 (.slice A ss.length c) ss.length (strs ss2) ∧ w.grownBy w' (Value.slice A ss.length c).ownBlock := by
  rcases ho.2 with ⟨hv, hn⟩ | ⟨g, cap, cur, hv, hbase, hb, h1, h2, h3, h4⟩
  · obtain rfl := List.eq_nil_of_length_eq_zero hn
    injection hv with ha _ hc
    subst ha hc
    refine (Try.sort_Strings_none none 0 w).mono ?_
    rintro e w' ⟨rfl, rfl⟩
    exact ⟨[], rfl, .refl _, ho, rfl, rfl, rfl, Nat.le_refl _, fun _ _ _ => rfl⟩
  · injection hv with ha _ hc
    subst ha hc
    have hl : (ss.map fun x => x.data.toList).length = ss.length := by simp
    have hc := Try.sort_Strings g 0 c (ss.map fun x => x.data.toList) w (holds_of_block hb (by rw [strs_enc, hl]; simpa using h4)) (Array.getElem?_eq_some_iff.1 hb).1 (by rw [hl]; omega)
    rw [hl] at hc
    refine hc.mono ?_
    rintro e w' ⟨rfl, n, os, rfl⟩
    have hp := (List.mergeSort_perm (ss.map fun x => x.data.toList) fun x y => decide (x ≤ y))
    have ho2 := ownsRow_sorted (n := n) (os := os) (ss := ss.map fun x => x.data.toList) (ts := (ss.map fun x => x.data.toList).mergeSort fun x y => decide (x ≤ y)) (by simp) hbase hb (by rw [hl]; exact h1) h2 h3
    have hg : w.grownBy _ (some g) := grownBy_sorted (w := w) (g := g) (n := n) (os := os) ((ss.map fun x => x.data.toList).mergeSort fun x y => decide (x ≤ y)).toArray
    generalize (ss.map fun x => x.data.toList).mergeSort (fun x y => decide (x ≤ y)) = ts at *
    rw [hl] at ho2
    have e1 : strs (ts.map fun l => (⟨l.toArray⟩ : ByteArray)) = ts.map encStr := by
      show (ts.map _).map _ = _
      rw [List.map_map]
      exact List.map_congr_left fun x _ => rfl
    refine ⟨ts.map fun l => ⟨l.toArray⟩, rfl, ?_, by rw [e1]; exact ho2, hg⟩
    have := hp.map (fun l => (⟨l.toArray⟩ : ByteArray))
    rw [List.map_map] at this
    refine this.trans (List.Perm.of_eq ?_)
    conv => rhs; rw [← List.map_id ss]
    exact List.map_congr_left fun x _ => by simp
/-- The names of a map that have come. -/
def Keys (ns : List ByteArray) (vs : List Value) (left : Lit → Bool) (ss : List ByteArray) : Prop := ss.Nodup ∧ (∀ x, x ∈ ss ↔ x ∈ ns ∧ left (kl x) = false) ∧ ∀ z, left z = true → Maps.has (dat ns vs) z = true
theorem Keys.start {ns : List ByteArray} {vs : List Value} (hl : vs.length = ns.length) (hd : ns.Nodup) : Keys ns vs (Maps.has (dat ns vs)) [] := by
  refine ⟨List.nodup_nil, fun x => ⟨(fun h => by cases h), fun h => ?_⟩, fun z h => h⟩
  rw [((dat_facts _ ns vs rfl hl hd).2.2.1 x).2 h.1] at h
  cases h.2
theorem Keys.step {ns : List ByteArray} {vs : List Value} {left : Lit → Bool} {ss : List ByteArray} {x : ByteArray} (h : Keys ns vs left ss) (hx : left (kl x) = true) (hm : x ∈ ns) : Keys ns vs (fun z => left z && !z.sameKey (kl x)) (ss ++ [x]) := by
  have hn : x ∉ ss := fun e => by rw [((h.2.1 x).1 e).2] at hx; cases hx
  refine ⟨List.nodup_append.2 ⟨h.1, by simp, fun u hu v hv e => hn (by rw [← List.mem_singleton.1 hv, ← e]; exact hu)⟩, fun z => ?_, fun z hz => h.2.2 z (by rw [Bool.and_eq_true] at hz; exact hz.1)⟩
  rw [List.mem_append, h.2.1 z, List.mem_singleton, same_key]
  constructor
  · rintro (⟨a, b⟩ | rfl)
    · exact ⟨a, .inl b⟩
    · exact ⟨hm, .inr rfl⟩
  · rintro ⟨a, b | rfl⟩
    · exact .inl ⟨a, b⟩
    · exact .inr rfl
theorem Keys.len {ns : List ByteArray} {vs : List Value} {left : Lit → Bool} {ss : List ByteArray} (h : Keys ns vs left ss) : ss.length ≤ ns.length := nd_len ss ns h.1 (fun x hx => ((h.2.1 x).1 hx).1)
theorem Keys.done {ns : List ByteArray} {vs : List Value} {left : Lit → Bool} {ss ss2 : List ByteArray} (h : Keys ns vs left ss) (hd : ns.Nodup) (hl : ∀ z, left z = false) (hp : ss2.Perm ss) : ss2.Nodup ∧ ss2.length = ns.length ∧ ∀ x, x ∈ ss2 ↔ x ∈ ns := by
  have hm : ∀ x, x ∈ ss2 ↔ x ∈ ns := fun x => by rw [hp.mem_iff, h.2.1 x]; exact ⟨fun e => e.1, fun e => ⟨e, hl _⟩⟩
  have hn : ss2.Nodup := hp.nodup_iff.2 h.1
  exact ⟨hn, Nat.le_antisymm (nd_len _ _ hn fun x hx => (hm x).1 hx) (nd_len _ _ hd fun x hx => (hm x).2 hx), hm⟩
end Go.Proofs.Ytmelgankbegjaaa.Js

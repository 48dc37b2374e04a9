/- The maps of names and values, plain. Conditions: those written at each lemma. -/
import Derived.Test.YtmelgankbegjaaaJj
import Derived.Test.YtmelgankbegjaaaKd
import Derived.Maps.Views
set_option linter.unusedVariables false
set_option linter.unusedSimpArgs false
set_option maxRecDepth 100000
set_option maxHeartbeats 4000000
namespace Go.Proofs.Ytmelgankbegjaaa.Js
open Go.RowKit Go.Proofs.Ytmelgankbegjaaa.B

abbrev kl (x : ByteArray) : Lit := .string x.data.toList
theorem kl_inj {x y : ByteArray} (h : kl x = kl y) : x = y := by
  have h : x.data.toList = y.data.toList := by injection h
  cases x; cases y
  simp only at h
  rw [Array.toList_inj.1 h]
theorem kl_key (x : ByteArray) : WideAt.IsKeyLit (kl x) := by
  trivial
theorem dat_facts : ∀ (n : Nat) (ns : List ByteArray) (vs : List Value), ns.length = n → vs.length = n → ns.Nodup → Maps.Tidy (dat ns vs) ∧ Maps.size (dat ns vs) = n ∧ (∀ x, Maps.has (dat ns vs) (kl x) = true ↔ x ∈ ns) ∧
    ∀ i (h : i < ns.length) (h2 : i < vs.length) z, (dat ns vs).atKey (kl ns[i]) z = .held vs[i] := by
  intro n
  induction n with
  | zero =>
    intro ns vs h1 h2 hd
    obtain rfl := List.eq_nil_of_length_eq_zero h1
    obtain rfl := List.eq_nil_of_length_eq_zero h2
    exact ⟨Maps.tidy_empty, rfl, fun x => by simp [dat, Maps.has_eq], fun i h => absurd h (by simp)⟩
  | succ n ih =>
    intro ns vs h1 h2 hd
    have hn0 : ns ≠ [] := fun e => by rw [e] at h1; simp at h1
    have hv0 : vs ≠ [] := fun e => by rw [e] at h2; simp at h2
    obtain ⟨ns', x, rfl⟩ : ∃ l x, ns = l ++ [x] := ⟨_, _, (List.dropLast_concat_getLast hn0).symm⟩
    obtain ⟨vs', v, rfl⟩ : ∃ l x, vs = l ++ [x] := ⟨_, _, (List.dropLast_concat_getLast hv0).symm⟩
    simp only [List.length_append, List.length_singleton] at h1 h2
    have hl : ns'.length = vs'.length := by omega
    obtain ⟨hd1, _, hd3⟩ := List.nodup_append.1 hd
    have hx : x ∉ ns' := fun h => hd3 x h x (by simp) rfl
    obtain ⟨a1, a2, a3, a4⟩ := ih ns' vs' (by omega) (by omega) hd1
    rw [dat_push hl]
    refine ⟨a1.put (kl_key x) _, ?_, fun y => ?_, fun i h h3 z => ?_⟩
    · rw [Maps.size_put a1, show Maps.has (dat ns' vs') (kl x) = false from Bool.eq_false_iff.2 (fun h => hx ((a3 x).1 h)), a2]
      rfl
    · by_cases e : y = x
      · subst e
        rw [Maps.has_put_same a1.isMap (kl_key y)]
        simp
      · rw [Maps.has_put_other (fun h => e (kl_inj h)), a3 y]
        simp [e]
    · by_cases hi : i < ns'.length
      · rw [List.getElem_append_left hi, List.getElem_append_left (by omega : i < vs'.length)]
        rw [Maps.atKey_put_other (fun h => hx (by rw [← kl_inj h]; exact List.getElem_mem _))]
        exact a4 i hi (by omega) z
      · have hi2 : i = ns'.length := by simp at h; omega
        have e1 : (ns' ++ [x])[i] = x := by subst hi2; simp
        have e2 : (vs' ++ [v])[i] = v := by
          have : i = vs'.length := by omega
          subst this; simp
        rw [e1, e2]
        exact Maps.atKey_put_same a1.isMap (kl_key x) _ _
end Go.Proofs.Ytmelgankbegjaaa.Js

/- Maps that are changed at a name; whose each block is. Conditions: those written at each lemma. -/
import Derived.Test.YtmelgankbegjaaaMa
import Derived.Test.YtmelgankbegjaaaKi
import Derived.Maps.Ext
set_option linter.unusedVariables false
set_option linter.unusedSimpArgs false
set_option maxRecDepth 100000
set_option maxHeartbeats 4000000
namespace Go.Proofs.Ytmelgankbegjaaa.Js
open Go.RowKit Go.Proofs.Ytmelgankbegjaaa.B

/-- A map as read whose keys are texts. -/
def StrCanon (D : DataW Value) : Prop := ∃ es, D = .map es ∧ es.Pairwise (fun p q => p.1.before q.1 = true) ∧ ChangeMaps.StrKeys es
theorem StrCanon.canon {D : DataW Value} (h : StrCanon D) : Maps.Canon D := by
  obtain ⟨es, e, s, k⟩ := h
  exact ⟨es, e, s, fun p hp => by obtain ⟨x, hx⟩ := k p hp; rw [hx]; trivial⟩
theorem StrCanon.put {D : DataW Value} (h : StrCanon D) (x : ByteArray) (d : DataW Value) : StrCanon (D.put (kl x) d) := by
  obtain ⟨es, rfl, s, k⟩ := h
  have hk : ChangeMaps.StrKeys (es.filter (ChangeMaps.notKey (kl x))) := fun p hp => k p (List.mem_filter.1 hp).1
  refine ⟨ChangeMaps.putKey (kl x) d es, by rw [DataW.put_eq], ?_, ?_⟩
  · exact ChangeMaps.insert_sorted (x := (kl x, d)) ⟨_, rfl⟩ _ (s.filter _) hk (fun p hp => (Maps.notKey_iff (kl_key x)).1 (List.mem_filter.1 hp).2)
  · intro p hp
    rcases ChangeMaps.mem_insert_iff.1 hp with rfl | hp
    · exact ⟨_, rfl⟩
    · exact hk p hp
theorem dat_canon (ns : List ByteArray) (vs : List Value) : StrCanon (dat ns vs) := by
  have key : ∀ (l : List (ByteArray × Value)) (D : DataW Value), StrCanon D → StrCanon (l.foldl (fun D p => D.put (.string p.1.data.toList) (.held p.2)) D) := by
    intro l
    induction l with
    | nil => exact fun D h => h
    | cons a r ih => exact fun D h => ih _ (h.put a.1 _)
  exact key _ _ ⟨[], rfl, List.Pairwise.nil, fun p hp => by cases hp⟩
theorem has_dat {ns : List ByteArray} {vs : List Value} (hl : vs.length = ns.length) (hd : ns.Nodup) (k : Lit) : Maps.has (dat ns vs) k = true ↔ ∃ x, x ∈ ns ∧ k = kl x := by
  constructor
  · intro h
    obtain ⟨es, e, _, hk⟩ := dat_canon ns vs
    have h0 := h
    rw [e, Maps.has_eq] at h
    obtain ⟨p, hp, hs⟩ := List.any_eq_true.1 h
    obtain ⟨s, hs2⟩ := hk p hp
    have hks : k = kl ⟨s.toArray⟩ := by rw [← WideAt.sameKey_eq hs, hs2]
    rw [hks] at h0
    exact ⟨_, ((dat_facts _ ns vs rfl hl hd).2.2.1 _).1 h0, hks⟩
  · rintro ⟨x, hx, rfl⟩
    exact ((dat_facts _ ns vs rfl hl hd).2.2.1 _).2 hx
theorem dat_set {ns : List ByteArray} {vs : List Value} (hl : vs.length = ns.length) (hd : ns.Nodup) (i : Nat) (hi : i < ns.length) (u : Value) : (dat ns vs).put (kl ns[i]) (.held u) = dat ns (vs.set i u) := by
  have hl2 : (vs.set i u).length = ns.length := by rw [List.length_set]; exact hl
  refine Maps.ext ((dat_canon ns vs).put _ _).canon (dat_canon ns _).canon (fun k => ?_) (fun k z hk => ?_)
  · by_cases e : k = kl ns[i]
    · subst e
      rw [Maps.has_put_same (dat_facts _ ns vs rfl hl hd).1.isMap (kl_key _), ((dat_facts _ ns _ rfl hl2 hd).2.2.1 _).2 (List.getElem_mem hi)]
    · rw [Maps.has_put_other e, Bool.eq_iff_iff, has_dat hl hd, has_dat hl2 hd]
  · by_cases e : k = kl ns[i]
    · subst e
      rw [Maps.atKey_put_same (dat_facts _ ns vs rfl hl hd).1.isMap (kl_key _), (dat_facts _ ns _ rfl hl2 hd).2.2.2 i hi (by omega)]
      simp
    · rw [Maps.has_put_other e] at hk
      obtain ⟨x, hx, rfl⟩ := (has_dat hl hd k).1 hk
      obtain ⟨j, hj, rfl⟩ := List.getElem_of_mem hx
      rw [Maps.atKey_put_other e, (dat_facts _ ns vs rfl hl hd).2.2.2 j hj (by omega), (dat_facts _ ns _ rfl hl2 hd).2.2.2 j hj (by omega)]
      have hij : i ≠ j := fun e2 => e (by subst e2; rfl)
      simp [List.getElem_set, hij]
theorem own_tight {W : World} {b n : Nat} {D : DataW Value} (h : W.ownsMap Try.prog 9 RH b n D) : W.ownsMap Try.prog 9 RH b (Maps.size D) D := by
  obtain ⟨es, clock, hb, F, hs, rfl⟩ := h
  exact ⟨es, clock, hb, F, by simp [Maps.size, length_sorted], rfl⟩
theorem ranges_same {W W' : World} {b r n cnt : Nat} {D : DataW Value} {left : Lit → Bool} (h : W.ranges Try.prog 9 RH b r n D left cnt) (hb : W'.heap[b]? = W.heap[b]?) (hr : W'.heap[r]? = W.heap[r]?) : W'.ranges Try.prog 9 RH b r n D left cnt := by
  obtain ⟨es, clock, since, seen, c0, h1, F, hs, hD, h2, rest⟩ := h
  exact ⟨es, clock, since, seen, c0, hb.trans h1, F, hs, hD, hr.trans h2, rest⟩
section
variable {W : World}
theorem IOs.owner : ∀ {p : Nat → Prop} {ts : List J} {vs : List Value}, IOs p W ts vs → ∃ o : Nat → Option Nat, (∀ x i, o x = some i → p x) ∧ ∀ i (h1 : i < ts.length) (h2 : i < vs.length), IO (fun x => o x = some i) W ts[i] vs[i]
  | p, [], vs, h => ⟨fun _ => none, fun x i h => by (cases h), fun i h1 => absurd h1 (by simp)⟩
  | p, t :: r, vs, h => by
    obtain ⟨v, vs', q, rfl, h1, h2⟩ := h
    obtain ⟨o, ho, hi⟩ := IOs.owner h2
    classical
    refine ⟨fun x => if p x ∧ q x then some 0 else (o x).map (· + 1), fun x i e => ?_, fun i hi1 hi2 => ?_⟩
    · by_cases hp : p x ∧ q x
      · exact hp.1
      · dsimp only at e
        rw [if_neg hp] at e
        obtain ⟨j, hj, _⟩ := Option.map_eq_some_iff.1 e
        exact (ho x j hj).1
    · match i, hi1, hi2 with
      | 0, _, _ => exact h1.mono (fun x hx => by dsimp only; rw [if_pos hx])
      | i + 1, hi1, hi2 => exact (hi i (by simpa using hi1) (by simpa using hi2)).mono (fun x hx => by
          dsimp only
          rw [if_neg (fun e => (ho x i hx).2 e.2), hx]
          rfl)
theorem IOs.of_owner : ∀ {p : Nat → Prop} {ts : List J} {vs : List Value} {o : Nat → Option Nat}, vs.length = ts.length → (∀ i (h1 : i < ts.length) (h2 : i < vs.length), IO (fun x => o x = some i) W ts[i] vs[i]) → (∀ x i, i < ts.length → o x = some i → p x) → IOs p W ts vs
  | p, [], vs, o, hl, H, hp => List.eq_nil_of_length_eq_zero hl
  | p, t :: r, [], o, hl, H, hp => by simp at hl
  | p, t :: r, v :: vs, o, hl, H, hp => by
    refine ⟨v, vs, fun x => o x = some 0, rfl, (H 0 (by simp) (by simp)).mono (fun x hx => ⟨hp x 0 (by simp) hx, hx⟩), ?_⟩
    refine IOs.of_owner (o := fun x => (o x).bind fun i => if i = 0 then none else some (i - 1)) (by simpa using hl) (fun i h1 h2 => (H (i + 1) (by simpa using h1) (by simpa using h2)).mono (fun x hx => ?_)) (fun x i h1 hx => ?_)
    · show ((o x).bind fun i => if i = 0 then none else some (i - 1)) = some i
      rw [hx]
      rfl
    · obtain ⟨j, hj, e⟩ := Option.bind_eq_some_iff.1 hx
      by_cases hj0 : j = 0
      · rw [if_pos hj0] at e; cases e
      · rw [if_neg hj0] at e
        injection e with e
        refine ⟨hp x j (by simp; omega) hj, fun e2 => ?_⟩
        have e2 : o x = some 0 := e2
        rw [e2] at hj
        injection hj with hj
        omega
theorem IOs.append : ∀ {p q : Nat → Prop} {ts us : List J} {vs ws : List Value}, IOs p W ts vs → IOs q W us ws → (∀ x, p x → ¬ q x) → IOs (fun x => p x ∨ q x) W (ts ++ us) (vs ++ ws)
  | p, q, [], us, vs, ws, h, hx, H => by
    rw [show vs = [] from h]
    exact hx.mono (fun x h => .inr h)
  | p, q, t' :: r, us, vs, ws, h, hx, H => by
    obtain ⟨y, vs', q0, rfl, h1, h2⟩ := h
    refine ⟨y, vs' ++ ws, fun x => p x ∧ q0 x, rfl, h1.mono (fun x h => ⟨.inl h.1, h⟩), (IOs.append h2 hx (fun x h => H x h.1)).mono (fun x h => ?_)⟩
    rcases h with h | h
    · exact ⟨.inl h.1, fun h' => h.2 h'.2⟩
    · exact ⟨.inr h, fun h' => H x h'.1 h⟩
mutual
theorem IO.iv : ∀ {p : Nat → Prop} {t : J} {v : Value}, IO p W t v → IV p W t v
  | p, .mk k n s ns is, v, h => by
    rcases h with h | h | h | h | ⟨e, A, c, vs, e2, h1, h2, h3⟩ | ⟨e, b, vs, e2, h1, h2, h3⟩
    · exact .inl h
    · exact .inr (.inl h)
    · exact .inr (.inr (.inl h))
    · exact .inr (.inr (.inr (.inl h)))
    · exact .inr (.inr (.inr (.inr (.inl ⟨e, A, c, vs, e2, (Rp.own h1).weak (fun b _ hx => h2 b hx.2.symm), (IOs.iv h3).weak (fun b _ hx => hx.1)⟩))))
    · exact .inr (.inr (.inr (.inr (.inr ⟨e, b, vs, e2, ⟨h1, h2⟩, (IOs.iv h3).weak (fun b _ hx => hx.1)⟩))))
theorem IOs.iv : ∀ {p : Nat → Prop} {ts : List J} {vs : List Value}, IOs p W ts vs → IVs p W ts vs
  | p, [], vs, h => h
  | p, t :: r, vs, h => by
    obtain ⟨x, vs', q0, e, h1, h2⟩ := h
    exact ⟨x, vs', e, (IO.iv h1).weak (fun b _ hx => hx.1), (IOs.iv h2).weak (fun b _ hx => hx.1)⟩
end
end
end Go.Proofs.Ytmelgankbegjaaa.Js

/- Sets that are joined where they meet: plain laws, no program in sight. -/
import Derived.Test.YtbhlhgfgkiclgaaDoorSep
set_option linter.unusedVariables false
set_option linter.unusedSimpArgs false
namespace Go.Proofs.YtbhlhgfgkiclgaaDoor.Set

/-- Two numbers are joined by a chain of the sets. -/
inductive Con (S : List (List Int)) : Int → Int → Prop
  | base {s : List Int} {u v : Int} (hs : s ∈ S) (hu : u ∈ s) (hv : v ∈ s) : Con S u v
  | trans {u v t : Int} (h : Con S u v) (k : Con S v t) : Con S u t
theorem Con.into {S T : List (List Int)} (h : ∀ s ∈ S, ∀ u v, u ∈ s → v ∈ s → Con T u v) {u v : Int} (hc : Con S u v) : Con T u v := by
  induction hc with
  | base hs hu hv => exact h _ hs _ _ hu hv
  | trans _ _ h1 h2 => exact h1.trans h2
theorem Con.sub {S T : List (List Int)} (h : ∀ s ∈ S, s ∈ T) {u v : Int} (hc : Con S u v) : Con T u v := hc.into fun s hs u v hu hv => .base (h s hs) hu hv
/-- The sets share no number. -/
def Dis (L : List (List Int)) : Prop := L.Pairwise fun s t => ∀ u ∈ s, u ∉ t
theorem dis_idx {L : List (List Int)} (h : Dis L) {j k : Nat} (hj : j < L.length) (hk : k < L.length) (hne : j ≠ k) {u : Int} (hu : u ∈ L[j]) : u ∉ L[k] := by
  rcases Nat.lt_or_gt_of_ne hne with h1 | h1
  · exact List.pairwise_iff_getElem.1 h j k hj hk h1 u hu
  · exact fun h2 => List.pairwise_iff_getElem.1 h k j hk hj h1 u h2 hu
theorem dis_eq {L : List (List Int)} (h : Dis L) {s t : List Int} (hs : s ∈ L) (ht : t ∈ L) {u : Int} (hu : u ∈ s) (hv : u ∈ t) : s = t := by
  obtain ⟨j, hj, rfl⟩ := List.getElem_of_mem hs
  obtain ⟨k, hk, rfl⟩ := List.getElem_of_mem ht
  by_cases e : j = k
  · subst e; rfl
  · exact absurd hv (dis_idx h hj hk e hu)
theorem con_dis {L : List (List Int)} (h : Dis L) {u v : Int} (hc : Con L u v) : ∃ s ∈ L, u ∈ s ∧ v ∈ s := by
  induction hc with
  | base hs hu hv => exact ⟨_, hs, hu, hv⟩
  | trans _ _ h1 h2 =>
    obtain ⟨s, hs, hu, hv⟩ := h1
    obtain ⟨t, ht, hv2, hw⟩ := h2
    have e := dis_eq h hs ht hv hv2
    subst e
    exact ⟨s, hs, hu, hw⟩
/-- Number i taken out, the last one put in its place. -/
def swapOut (L : List (List Int)) (i : Nat) : List (List Int) := (L.set i (L[L.length - 1]?.getD [])).take (L.length - 1)
theorem swap_len (L : List (List Int)) (i : Nat) : (swapOut L i).length = L.length - 1 := by unfold swapOut; simp
theorem swap_get {L : List (List Int)} {i j : Nat} (hi : i < L.length) (hj : j < L.length - 1) : ∃ k, ∃ hk : k < L.length, k ≠ i ∧ (swapOut L i)[j]'(by rw [swap_len]; exact hj) = L[k] ∧ k = if j = i then L.length - 1 else j := by
  unfold swapOut
  by_cases e : j = i
  · subst e
    refine ⟨L.length - 1, by omega, by omega, ?_, by simp⟩
    simp only [List.getElem_take, List.getElem_set_self, List.getElem?_eq_getElem (show L.length - 1 < L.length by omega), Option.getD_some]
  · refine ⟨j, by omega, e, ?_, by simp [e]⟩
    simp only [List.getElem_take]
    rw [List.getElem_set_ne (fun h => e h.symm)]
theorem swap_keep {L : List (List Int)} {i j : Nat} (hi : i < L.length) (hj : j < i) : (swapOut L i)[j]'(by rw [swap_len]; omega) = L[j] := by
  obtain ⟨k, hk, _, h1, h2⟩ := swap_get (j := j) hi (by omega)
  rw [if_neg (by omega)] at h2
  subst h2
  exact h1
theorem swap_mem {L : List (List Int)} {i : Nat} (hi : i < L.length) {s : List Int} (h : s ∈ swapOut L i) : s ∈ L := by
  obtain ⟨j, hj, rfl⟩ := List.getElem_of_mem h
  rw [swap_len] at hj
  obtain ⟨k, hk, _, h1, _⟩ := swap_get hi hj
  rw [h1]
  exact List.getElem_mem hk
theorem mem_swap {L : List (List Int)} {i : Nat} (hi : i < L.length) {s : List Int} (h : s ∈ L) : s = L[i] ∨ s ∈ swapOut L i := by
  obtain ⟨k, hk, rfl⟩ := List.getElem_of_mem h
  by_cases e : k = i
  · subst e; exact .inl rfl
  · refine .inr ?_
    by_cases e2 : k = L.length - 1
    · obtain ⟨k', hk', _, h1, h2⟩ := swap_get (j := i) hi (by omega)
      rw [if_pos rfl, ← e2] at h2
      subst h2
      rw [← h1]
      exact List.getElem_mem _
    · obtain ⟨k', hk', _, h1, h2⟩ := swap_get (j := k) hi (by omega)
      rw [if_neg e] at h2
      subst h2
      rw [← h1]
      exact List.getElem_mem _
theorem swap_dis {L : List (List Int)} {i : Nat} (hi : i < L.length) (h : Dis L) : Dis (swapOut L i) := by
  unfold Dis
  rw [List.pairwise_iff_getElem]
  intro a b ha hb hab u hu
  have ha' := ha
  have hb' := hb
  rw [swap_len] at ha' hb'
  obtain ⟨k1, hk1, _, h1, e1⟩ := swap_get hi ha'
  obtain ⟨k2, hk2, _, h2, e2⟩ := swap_get hi hb'
  rw [h1] at hu
  rw [h2]
  refine dis_idx h hk1 hk2 (fun e => ?_) hu
  rw [e1, e2] at e
  split at e <;> split at e <;> omega
/-- The sets, and one to be joined, with those in front of i apart from it. -/
structure Joins (L0 : List (List Int)) (c0 : List Int) (L : List (List Int)) (i : Nat) (c : List Int) : Prop where
  dis : Dis L
  srt : ∀ s ∈ L, Srt s ∧ s ≠ []
  cs : Srt c ∧ c ≠ []
  hi : i ≤ L.length
  apart : ∀ j (h : j < L.length), j < i → ∀ u ∈ L[j], u ∉ c
  con : ∀ u v, Con (c :: L) u v ↔ Con (c0 :: L0) u v
theorem Joins.start {L : List (List Int)} {c : List Int} (h : Dis L) (h1 : ∀ s ∈ L, Srt s ∧ s ≠ []) (h2 : Srt c ∧ c ≠ []) : Joins L c L 0 c := ⟨h, h1, h2, Nat.zero_le _, fun _ _ h => by omega, fun _ _ => Iff.rfl⟩
theorem Joins.pass {L0 L : List (List Int)} {c0 c : List Int} {i : Nat} (h : Joins L0 c0 L i c) (hi : i < L.length) (ha : ∀ u ∈ L[i], u ∉ c) : Joins L0 c0 L (i + 1) c :=
  ⟨h.dis, h.srt, h.cs, by omega, fun j hj hji => by
    by_cases e : j = i
    · subst e; exact ha
    · exact h.apart j hj (by omega), h.con⟩
theorem Joins.join {L0 L : List (List Int)} {c0 c d : List Int} {i : Nat} (h : Joins L0 c0 L i c) (hi : i < L.length) {x : Int} (hx : x ∈ L[i]) (hxc : x ∈ c) (hd : Srt d) (hm : ∀ u, u ∈ d ↔ u ∈ c ∨ u ∈ L[i]) : Joins L0 c0 (swapOut L i) i d := by
  refine ⟨swap_dis hi h.dis, fun s hs => h.srt s (swap_mem hi hs), ⟨hd, fun e => ?_⟩, by rw [swap_len]; omega, fun j hj hji u hu hud => ?_, fun u v => ?_⟩
  · have := (hm x).2 (.inl hxc); rw [e] at this; cases this
  · rw [swap_keep hi hji] at hu
    rcases (hm u).1 hud with h1 | h1
    · exact h.apart j (by omega) hji u hu h1
    · exact dis_idx h.dis (by omega) hi (by omega) hu h1
  · rw [← h.con u v]
    constructor
    · refine Con.into fun s hs p q hp hq => ?_
      rcases List.mem_cons.1 hs with rfl | hs
      · have hcx : ∀ p, p ∈ s → Con (c :: L) p x ∧ Con (c :: L) x p := fun p hp => by
          rcases (hm p).1 hp with h1 | h1
          · exact ⟨.base List.mem_cons_self h1 hxc, .base List.mem_cons_self hxc h1⟩
          · exact ⟨.base (List.mem_cons_of_mem _ (List.getElem_mem hi)) h1 hx, .base (List.mem_cons_of_mem _ (List.getElem_mem hi)) hx h1⟩
        exact (hcx p hp).1.trans (hcx q hq).2
      · exact .base (List.mem_cons_of_mem _ (swap_mem hi hs)) hp hq
    · refine Con.into fun s hs p q hp hq => ?_
      rcases List.mem_cons.1 hs with rfl | hs
      · exact .base List.mem_cons_self ((hm p).2 (.inl hp)) ((hm q).2 (.inl hq))
      · rcases mem_swap hi hs with rfl | hs
        · exact .base List.mem_cons_self ((hm p).2 (.inr hp)) ((hm q).2 (.inr hq))
        · exact .base (List.mem_cons_of_mem _ hs) hp hq
/-- Sets of a partition: apart, each in order and not empty. -/
def Part (L : List (List Int)) : Prop := Dis L ∧ ∀ s ∈ L, Srt s ∧ s ≠ []
theorem Joins.done {L0 L : List (List Int)} {c0 c : List Int} (h : Joins L0 c0 L L.length c) : Part (L ++ [c]) ∧ ∀ u v, Con (L ++ [c]) u v ↔ Con (c0 :: L0) u v := by
  refine ⟨⟨?_, fun s hs => ?_⟩, fun u v => ?_⟩
  · unfold Dis
    rw [List.pairwise_append]
    refine ⟨h.dis, List.pairwise_singleton _ _, fun s hs t ht => ?_⟩
    rw [List.mem_singleton.1 ht]
    obtain ⟨j, hj, rfl⟩ := List.getElem_of_mem hs
    exact h.apart j hj hj
  · rcases List.mem_append.1 hs with hs | hs
    · exact h.srt s hs
    · rw [List.mem_singleton.1 hs]; exact h.cs
  · rw [← h.con u v]
    exact ⟨Con.sub fun s hs => by simp at hs ⊢; exact hs.symm, Con.sub fun s hs => by simp at hs ⊢; exact hs.symm⟩
theorem part_nodup {L : List (List Int)} (h : Part L) : L.Nodup := by
  unfold List.Nodup
  rw [List.pairwise_iff_getElem]
  intro a b ha hb hab e
  have h1 := (h.2 _ (List.getElem_mem ha)).2
  rcases hc : L[a] with _ | ⟨x, r⟩
  · exact h1 hc
  · have hx : x ∈ L[a] := by rw [hc]; exact List.mem_cons_self
    have := dis_idx h.1 ha hb (by omega) hx
    rw [← e] at this
    exact this hx
theorem part_sub {L M : List (List Int)} (hL : Part L) (hM : Part M) (hc : ∀ u v, Con L u v ↔ Con M u v) {s : List Int} (hs : s ∈ L) : s ∈ M := by
  obtain ⟨h1, h2⟩ := hL.2 s hs
  rcases e : s with _ | ⟨x, r⟩
  · exact absurd e h2
  · have hx : x ∈ s := by rw [e]; exact List.mem_cons_self
    obtain ⟨t, ht, hxt, _⟩ := con_dis hM.1 ((hc x x).1 (.base hs hx hx))
    have hst : s = t := by
      refine srt_ext h1 (hM.2 t ht).1 fun u => ⟨fun hu => ?_, fun hu => ?_⟩
      · obtain ⟨t2, ht2, hx2, hu2⟩ := con_dis hM.1 ((hc x u).1 (.base hs hx hu))
        rw [dis_eq hM.1 ht ht2 hxt hx2]; exact hu2
      · obtain ⟨s2, hs2, hx2, hu2⟩ := con_dis hL.1 ((hc x u).2 (.base ht hxt hu))
        rw [dis_eq hL.1 hs hs2 hx hx2]; exact hu2
    rw [← e, hst]; exact ht
/-- Two partitions that join the same numbers are the same sets, in some order. -/
theorem part_perm {L M : List (List Int)} (hL : Part L) (hM : Part M) (hc : ∀ u v, Con L u v ↔ Con M u v) : L.length = M.length ∧ ∀ s ∈ L, M.count s = 1 := by
  have hp : L.Perm M := by
    rw [List.perm_iff_count]
    intro s
    rw [(part_nodup hL).count, (part_nodup hM).count]
    by_cases h : s ∈ L
    · rw [if_pos h, if_pos (part_sub hL hM hc h)]
    · rw [if_neg h, if_neg (fun h2 => h (part_sub hM hL (fun u v => (hc u v).symm) h2))]
  refine ⟨hp.length_eq, fun s hs => ?_⟩
  rw [(part_nodup hM).count, if_pos (part_sub hL hM hc hs)]
end Go.Proofs.YtbhlhgfgkiclgaaDoor.Set

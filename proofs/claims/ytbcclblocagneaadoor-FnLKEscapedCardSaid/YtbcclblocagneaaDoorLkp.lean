/- A matcher of patterns that goes back where it must: what it answers for a text all of whose marks are escaped. Plain lists, no program in sight. -/
set_option linter.unusedVariables false
set_option linter.unusedSimpArgs false
namespace Go.Proofs.YtbcclblocagneaaDoor.Lk

/-- A part of a pattern: any characters, or one. -/
inductive Nd where
  | any : Nd
  | one : Int → Nd
deriving DecidableEq

/-- The last part before k that takes any characters takes one more. -/
def bt (nodes : List Nd) (S : List Nat) : Nat → Option (List Nat)
  | 0 => none
  | k + 1 => if nodes[k]? = some .any then some (S.take k ++ [S.getD k 0 + 1]) else bt nodes S k

/-- Where the matcher stands at i with S, so many turns on it answers b. -/
inductive Runs (nodes : List Nd) (T : List Int) : Nat → Nat → List Nat → Bool → Prop
  | done {i S} : i = T.length → S.length = nodes.length → Runs nodes T 0 i S true
  | fullNone {i S} : i < T.length → S.length = nodes.length → bt nodes S S.length = none → Runs nodes T 0 i S false
  | fullSome {n i S S1 x b} : i < T.length → S.length = nodes.length → bt nodes S S.length = some (S1 ++ [x]) → Runs nodes T n x (S1 ++ [x]) b → Runs nodes T (n + 1) i S b
  | rest {i S} : i = T.length → S.length < nodes.length → Runs nodes T 0 i S (decide (∀ x ∈ nodes.drop S.length, x = .any))
  | any {n i S b} : i < T.length → nodes[S.length]? = some .any → Runs nodes T n i (S ++ [i]) b → Runs nodes T (n + 1) i S b
  | eq {n i S r b} : i < T.length → nodes[S.length]? = some (.one r) → T[i]? = some r → Runs nodes T n (i + 1) (S ++ [i + 1]) b → Runs nodes T (n + 1) i S b
  | neNone {i S r} : i < T.length → nodes[S.length]? = some (.one r) → T[i]? ≠ some r → bt nodes S S.length = none → Runs nodes T 0 i S false
  | neSome {n i S r S1 x b} : i < T.length → nodes[S.length]? = some (.one r) → T[i]? ≠ some r → bt nodes S S.length = some (S1 ++ [x]) → Runs nodes T n x (S1 ++ [x]) b → Runs nodes T (n + 1) i S b

/-- i + 1, .., i + q. -/
def ups (i : Nat) : Nat → List Nat
  | 0 => []
  | q + 1 => ups i q ++ [i + q + 1]
theorem ups_len (i : Nat) : ∀ q, (ups i q).length = q
  | 0 => rfl
  | q + 1 => by simp [ups, ups_len i q]

theorem bt_ones (s : List Int) (S : List Nat) : ∀ k, bt (s.map .one) S k = none
  | 0 => rfl
  | k + 1 => by
    rw [bt, if_neg, bt_ones s S k]
    rw [List.getElem?_map]
    cases s[k]? <;> simp

/-- All its parts are characters: it answers whether the text is these, from what is there on. -/
theorem ones_run (s T : List Int) (q : Nat) (hq : q ≤ s.length) (hs : s.length ≤ T.length) : ∃ n, Runs (s.map .one) T n q (ups 0 q) (decide (s.drop q = T.drop q)) := by
  obtain ⟨m, hm⟩ : ∃ m, m = s.length - q := ⟨_, rfl⟩
  induction m generalizing q with
  | zero =>
    have e : q = s.length := by omega
    subst e
    rw [List.drop_length]
    by_cases h : s.length = T.length
    · refine ⟨0, ?_⟩
      have h2 : decide (([] : List Int) = T.drop s.length) = true := decide_eq_true (by rw [h, List.drop_length])
      rw [h2]
      exact .done h (by rw [ups_len, List.length_map])
    · refine ⟨0, ?_⟩
      have h2 : decide (([] : List Int) = T.drop s.length) = false := decide_eq_false (fun e => by
        have := congrArg List.length e
        rw [List.length_drop] at this
        simp at this
        omega)
      rw [h2]
      exact .fullNone (by omega) (by rw [ups_len, List.length_map]) (by rw [bt_ones])
  | succ m ih =>
    have hq1 : q < s.length := by omega
    have hn : (s.map Nd.one)[(ups 0 q).length]? = some (.one s[q]) := by rw [ups_len, List.getElem?_map, List.getElem?_eq_getElem hq1]; rfl
    by_cases h : T[q]? = some s[q]
    · obtain ⟨n, hn2⟩ := ih (q + 1) (by omega) (by omega)
      refine ⟨n + 1, ?_⟩
      have e : decide (s.drop q = T.drop q) = decide (s.drop (q + 1) = T.drop (q + 1)) := by
        have hqT : q < T.length := by omega
        have e3 : T[q] = s[q] := by rw [List.getElem?_eq_getElem hqT] at h; exact Option.some.inj h
        have e1 : s.drop q = s[q] :: s.drop (q + 1) := List.drop_eq_getElem_cons hq1
        have e2 : T.drop q = T[q] :: T.drop (q + 1) := List.drop_eq_getElem_cons hqT
        rw [e1, e2, e3]
        exact decide_eq_decide.2 ⟨fun h => (List.cons.inj h).2, fun h => by rw [h]⟩
      rw [e]
      refine .eq (r := s[q]) (by omega) hn h ?_
      have := hn2
      rw [ups, Nat.zero_add] at this
      exact this
    · refine ⟨0, ?_⟩
      have e : decide (s.drop q = T.drop q) = false := decide_eq_false (fun e => h (by
        have h1 := congrArg (fun l => l[0]?) e
        simp only [List.getElem?_drop, Nat.add_zero] at h1
        rw [← h1, List.getElem?_eq_getElem hq1]))
      rw [e]
      exact .neNone (by omega) hn h (bt_ones _ _ _)

/-- From its beginning on. -/
theorem ones_all (s T : List Int) (hs : s.length ≤ T.length) : ∃ n, Runs (s.map .one) T n 0 [] (decide (s = T)) := by
  have h := ones_run s T 0 (Nat.zero_le _) hs
  simpa [ups] using h

def wild (s : List Int) : List Nd := .any :: (s.map .one ++ [.any])
theorem wild_len (s : List Int) : (wild s).length = s.length + 2 := by simp [wild]
theorem wild_get (s : List Int) (q : Nat) (h : q < s.length) : (wild s)[q + 1]? = some (.one s[q]) := by
  rw [wild, List.getElem?_cons_succ, List.getElem?_append_left (by simpa using h), List.getElem?_map, List.getElem?_eq_getElem h]
  rfl
theorem wild_last (s : List Int) : (wild s)[s.length + 1]? = some .any := by
  rw [wild, List.getElem?_cons_succ, List.getElem?_append_right (by simp)]
  simp
theorem bt_wild (s : List Int) (j : Nat) (S : List Nat) : ∀ k, k ≤ s.length → bt (wild s) (j :: S) (k + 1) = some [j + 1]
  | 0, _ => by simp [bt, wild]
  | k + 1, h => by
    rw [bt, if_neg, bt_wild s j S k (by omega)]
    rw [wild_get s k (by omega)]
    simp
theorem bt_wild_last (s : List Int) (S : List Nat) (x : Nat) (h : S.length = s.length + 1) : bt (wild s) (S ++ [x]) (s.length + 2) = some (S ++ [x + 1]) := by
  rw [bt, if_pos (wild_last s)]
  congr 2
  · rw [← h, List.take_left]
  · rw [← h, List.getD_eq_getElem?_getD, List.getElem?_append_right (Nat.le_refl _)]
    simp

/-- The end takes all that is left. -/
theorem wild_end (s T : List Int) (S : List Nat) (i : Nat) (hi : i ≤ T.length) (h : S.length = s.length + 1) : ∃ n, Runs (wild s) T n i (S ++ [i]) true := by
  obtain ⟨m, hm⟩ : ∃ m, m = T.length - i := ⟨_, rfl⟩
  induction m generalizing i with
  | zero => exact ⟨0, .done (by omega) (by rw [wild_len]; simp [h])⟩
  | succ m ih =>
    obtain ⟨n, hn⟩ := ih (i + 1) (by omega) (by omega)
    refine ⟨n + 1, .fullSome (by omega) (by rw [wild_len]; simp [h]) ?_ hn⟩
    have e : (S ++ [i]).length = s.length + 2 := by simp [h]
    rw [e]
    exact bt_wild_last s S i h

/-- The text stands within the other one: it is found. -/
theorem wild_at (s a b : List Int) (j q : Nat) (hq : q ≤ s.length) (hj : j ≤ a.length) (hm : ∀ x, x < q → (a ++ s ++ b)[j + x]? = s[x]?) : ∃ n, Runs (wild s) (a ++ s ++ b) n (j + q) (j :: ups j q) true := by
  have hlen : (a ++ s ++ b).length = a.length + s.length + b.length := by simp; omega
  obtain ⟨m, hmm⟩ : ∃ m, m = (a.length - j) * (s.length + 1) + (s.length - q) := ⟨_, rfl⟩
  induction m using Nat.strongRecOn generalizing j q with
  | _ m ih =>
    have hS : (j :: ups j q).length = q + 1 := by rw [List.length_cons, ups_len]
    by_cases hqs : q = s.length
    · subst hqs
      by_cases hend : j + s.length = (a ++ s ++ b).length
      · refine ⟨0, ?_⟩
        have e : decide (∀ x ∈ (wild s).drop (j :: ups j s.length).length, x = .any) = true := decide_eq_true (fun x hx => by
          rw [hS, wild, List.drop_succ_cons, List.drop_left' (by simp)] at hx
          simpa using hx)
        rw [← e]
        exact .rest hend (by rw [hS, wild_len]; omega)
      · obtain ⟨n, hn⟩ := wild_end s (a ++ s ++ b) (j :: ups j s.length) (j + s.length) (by omega) hS
        exact ⟨n + 1, .any (by omega) (by rw [hS]; exact wild_last s) hn⟩
    · have hq1 : q < s.length := by omega
      have hlt : j + q < (a ++ s ++ b).length := by omega
      have hn : (wild s)[(j :: ups j q).length]? = some (.one s[q]) := by rw [hS]; exact wild_get s q hq1
      by_cases h : (a ++ s ++ b)[j + q]? = some s[q]
      · obtain ⟨n, hn2⟩ := ih ((a.length - j) * (s.length + 1) + (s.length - (q + 1))) (by omega) j (q + 1) (by omega) hj (fun x hx => by
          rcases Nat.lt_or_ge x q with h1 | h1
          · exact hm x h1
          · have e : x = q := by omega
            subst e
            rw [h, List.getElem?_eq_getElem hq1]) rfl
        refine ⟨n + 1, .eq hlt hn h ?_⟩
        rw [ups] at hn2
        exact hn2
      · have hja : j < a.length := by
          rcases Nat.lt_or_ge j a.length with h1 | h1
          · exact h1
          · exfalso
            have e : j = a.length := by omega
            subst e
            apply h
            rw [List.append_assoc, List.getElem?_append_right (by omega), Nat.add_sub_cancel_left, List.getElem?_append_left hq1, List.getElem?_eq_getElem hq1]
        have hlt2 : (a.length - (j + 1)) * (s.length + 1) + (s.length - 0) < m := by
          have e : a.length - j = (a.length - (j + 1)) + 1 := by omega
          rw [hmm, e, Nat.add_mul]
          omega
        obtain ⟨n, hn2⟩ := ih _ hlt2 (j + 1) 0 (Nat.zero_le _) (by omega) (fun x hx => by omega) rfl
        refine ⟨n + 1, .neSome (S1 := []) hlt hn h ?_ (by simpa [ups] using hn2)⟩
        rw [hS]
        exact bt_wild s j _ q hq
theorem wild_in (s a b : List Int) : ∃ n, Runs (wild s) (a ++ s ++ b) n 0 [] true := by
  have h := wild_at s a b 0 0 (Nat.zero_le _) (Nat.zero_le _) (fun x hx => by omega)
  obtain ⟨n, hn⟩ := h
  by_cases h0 : (a ++ s ++ b).length = 0
  · have e : a = [] ∧ s = [] ∧ b = [] := by simpa using List.eq_nil_of_length_eq_zero h0
    obtain ⟨rfl, rfl, rfl⟩ := e
    refine ⟨0, ?_⟩
    have e : decide (∀ x ∈ (wild []).drop ([] : List Nat).length, x = .any) = true := by decide
    rw [← e]
    exact .rest rfl (by simp [wild])
  · exact ⟨n + 1, .any (by omega) rfl (by simpa [ups] using hn)⟩
theorem app_eq (s a b : List Int) : decide (s = a ++ s ++ b) = decide (a.length + b.length = 0) := by
  by_cases h : a.length + b.length = 0
  · have ha : a = [] := List.eq_nil_of_length_eq_zero (by omega)
    have hb : b = [] := List.eq_nil_of_length_eq_zero (by omega)
    subst ha; subst hb
    simp
  · rw [decide_eq_false h, decide_eq_false]
    intro e
    have := congrArg List.length e
    simp at this
    omega
end Go.Proofs.YtbcclblocagneaaDoor.Lk

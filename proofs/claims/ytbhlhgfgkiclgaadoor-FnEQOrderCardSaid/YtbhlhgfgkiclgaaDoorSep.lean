/- Plain words for sets of whole numbers as lists: the place of a number, a number put in, the next one; the bits of a number as such a list. Conditions: those written at each lemma. -/
import Derived.Lib.TrailingZeros
set_option linter.unusedVariables false
namespace Go.Proofs.YtbhlhgfgkiclgaaDoor.Set

/-- How many numbers at the beginning are below x. -/
def lo (xs : List Int) (x : Int) : Nat := (xs.takeWhile fun y => decide (y < x)).length
def hasB (xs : List Int) (x : Int) : Bool := decide (xs[lo xs x]? = some x)
def ins (xs : List Int) (x : Int) : List Int := if hasB xs x = true then xs else xs.take (lo xs x) ++ x :: xs.drop (lo xs x)
/-- The first number from x on. -/
def nx (xs : List Int) (x : Int) : Option Int := xs[lo xs x]?
def Srt (xs : List Int) : Prop := xs.Pairwise (· < ·)

theorem lo_le : ∀ (xs : List Int) (x : Int), lo xs x ≤ xs.length
  | [], _ => by simp [lo]
  | y :: r, x => by
    have h := lo_le r x
    unfold lo at *
    rw [List.takeWhile_cons]
    split <;> simp <;> omega
theorem lo_lt : ∀ (xs : List Int) (x : Int) (i : Nat) (h : i < lo xs x) (h2 : i < xs.length), xs[i] < x
  | [], _, i, h, h2 => by simp at h2
  | y :: r, x, i, h, h2 => by
    unfold lo at h
    rw [List.takeWhile_cons] at h
    split at h
    · rename_i hy
      cases i with
      | zero => simpa using hy
      | succ i => exact lo_lt r x i (by simp at h; exact h) (by simpa using h2)
    · simp at h
theorem lo_stop : ∀ (xs : List Int) (x : Int) (h : lo xs x < xs.length), x ≤ xs[lo xs x]
  | [], _, h => by simp at h
  | y :: r, x, h => by
    have e : lo (y :: r) x = if y < x then lo r x + 1 else 0 := by
      unfold lo
      rw [List.takeWhile_cons]
      by_cases hy : y < x <;> simp [hy]
    by_cases hy : y < x
    · have e2 : lo (y :: r) x = lo r x + 1 := by rw [e, if_pos hy]
      have h3 := lo_stop r x (by rw [e2] at h; simpa using h)
      simp only [e2, List.getElem_cons_succ]
      exact h3
    · have e2 : lo (y :: r) x = 0 := by rw [e, if_neg hy]
      simp only [e2, List.getElem_cons_zero]
      omega
/-- The place is told by what stands ahead of it and at it. -/
theorem lo_eq (xs : List Int) (x : Int) (i : Nat) (hi : i ≤ xs.length) (h1 : ∀ j (h : j < xs.length), j < i → xs[j] < x) (h2 : ∀ h : i < xs.length, x ≤ xs[i]) : lo xs x = i := by
  rcases Nat.lt_trichotomy (lo xs x) i with h | h | h
  · have h3 := lo_stop xs x (by omega)
    have h4 := h1 (lo xs x) (by omega) h
    omega
  · exact h
  · have hl := lo_le xs x
    have h3 := lo_lt xs x i h (by omega)
    have h4 := h2 (by omega)
    omega

theorem srt_lt {xs : List Int} (h : Srt xs) (i j : Nat) (hi : i < xs.length) (hj : j < xs.length) (hij : i < j) : xs[i] < xs[j] := List.pairwise_iff_getElem.1 h i j hi hj hij
theorem srt_le {xs : List Int} (h : Srt xs) (i j : Nat) (hi : i < xs.length) (hj : j < xs.length) (hij : i ≤ j) : xs[i] ≤ xs[j] := by
  rcases Nat.lt_or_ge i j with h1 | h1
  · have := srt_lt h i j hi hj h1; omega
  · have e : i = j := by omega
    subst e; exact Int.le_refl _
theorem hasB_iff {xs : List Int} (h : Srt xs) (x : Int) : hasB xs x = true ↔ x ∈ xs := by
  unfold hasB
  rw [decide_eq_true_iff]
  constructor
  · intro h1; exact List.mem_of_getElem? h1
  · intro h1
    obtain ⟨i, hi, rfl⟩ := List.getElem_of_mem h1
    have e : lo xs xs[i] = i := lo_eq xs _ i (by omega) (fun j hj hji => srt_lt h j i hj hi hji) (fun _ => Int.le_refl _)
    rw [e, List.getElem?_eq_getElem hi]
theorem mem_ins {xs : List Int} (h : Srt xs) (x u : Int) : u ∈ ins xs x ↔ u ∈ xs ∨ u = x := by
  unfold ins
  split
  · rename_i h1
    have h2 := (hasB_iff h x).1 h1
    constructor
    · exact Or.inl
    · rintro (h3 | rfl)
      · exact h3
      · exact h2
  · have e : u ∈ xs ↔ u ∈ xs.take (lo xs x) ∨ u ∈ xs.drop (lo xs x) := by rw [← List.mem_append, List.take_append_drop]
    rw [List.mem_append, List.mem_cons, e]
    constructor
    · rintro (h1 | h1 | h1)
      · exact .inl (.inl h1)
      · exact .inr h1
      · exact .inl (.inr h1)
    · rintro ((h1 | h1) | h1)
      · exact .inl h1
      · exact .inr (.inr h1)
      · exact .inr (.inl h1)
theorem srt_ins {xs : List Int} (h : Srt xs) (x : Int) : Srt (ins xs x) := by
  unfold ins
  split
  · exact h
  · rename_i hn
    have hl := lo_le xs x
    refine List.pairwise_append.2 ⟨List.Pairwise.sublist (List.take_sublist _ _) h, List.pairwise_cons.2 ⟨?_, List.Pairwise.sublist (List.drop_sublist _ _) h⟩, ?_⟩
    · intro b hb
      obtain ⟨i, hi, rfl⟩ := List.getElem_of_mem hb
      rw [List.length_drop] at hi
      rw [List.getElem_drop]
      have h1 := lo_stop xs x (by omega)
      have h2 := srt_le h (lo xs x) (lo xs x + i) (by omega) (by omega) (by omega)
      rcases Int.lt_or_eq_of_le h1 with h3 | h3
      · omega
      · exfalso
        apply hn
        unfold hasB
        rw [decide_eq_true_iff, List.getElem?_eq_getElem (by omega), ← h3]
    · intro a ha b hb
      obtain ⟨i, hi, rfl⟩ := List.getElem_of_mem ha
      rw [List.length_take] at hi
      rw [List.getElem_take]
      have h0 := lo_lt xs x i (by omega) (by omega)
      rcases List.mem_cons.1 hb with rfl | hb
      · exact h0
      · obtain ⟨j, hj, rfl⟩ := List.getElem_of_mem hb
        rw [List.length_drop] at hj
        rw [List.getElem_drop]
        exact srt_lt h _ _ (by omega) (by omega) (by omega)
/-- Two ascending lists with the same numbers are one. -/
theorem srt_ext : ∀ {xs ys : List Int}, Srt xs → Srt ys → (∀ u, u ∈ xs ↔ u ∈ ys) → xs = ys
  | [], [], _, _, _ => rfl
  | [], y :: ys, _, _, h => by have := (h y).2 (by simp); simp at this
  | x :: xs, [], _, _, h => by have := (h x).1 (by simp); simp at this
  | x :: xs, y :: ys, h1, h2, h => by
    obtain ⟨a1, b1⟩ := List.pairwise_cons.1 h1
    obtain ⟨a2, b2⟩ := List.pairwise_cons.1 h2
    have hx := List.mem_cons.1 ((h x).1 (by simp))
    have hy := List.mem_cons.1 ((h y).2 (by simp))
    have e : x = y := by
      rcases hx with hx | hx
      · exact hx
      · rcases hy with hy | hy
        · exact hy.symm
        · have := a2 _ hx; have := a1 _ hy; omega
    subst e
    congr 1
    refine srt_ext b1 b2 fun u => ?_
    have h3 := h u
    constructor
    · intro hu
      have := a1 _ hu
      rcases List.mem_cons.1 (h3.1 (List.mem_cons_of_mem _ hu)) with h4 | h4
      · omega
      · exact h4
    · intro hu
      have := a2 _ hu
      rcases List.mem_cons.1 (h3.2 (List.mem_cons_of_mem _ hu)) with h4 | h4
      · omega
      · exact h4
theorem nx_some {xs : List Int} (h : Srt xs) {x v : Int} (hv : v ∈ xs) (hx : x ≤ v) (hm : ∀ u ∈ xs, x ≤ u → v ≤ u) : nx xs x = some v := by
  obtain ⟨i, hi, rfl⟩ := List.getElem_of_mem hv
  have e : lo xs x = i := lo_eq xs x i (by omega) (fun j hj hji => by
    have h1 := srt_lt h j i hj hi hji
    rcases Int.lt_or_le xs[j] x with h2 | h2
    · exact h2
    · have := hm _ (List.getElem_mem hj) h2; omega) (fun _ => hx)
  unfold nx
  rw [e, List.getElem?_eq_getElem hi]
theorem nx_none {xs : List Int} {x : Int} (hm : ∀ u ∈ xs, u < x) : nx xs x = none := by
  have e : lo xs x = xs.length := lo_eq xs x _ (Nat.le_refl _) (fun j hj _ => hm _ (List.getElem_mem hj)) (fun h => absurd h (by omega))
  unfold nx
  rw [e, List.getElem?_eq_none (Nat.le_refl _)]
/-- The next one behind the k-th is the k+1-st. -/
theorem nx_succ {xs : List Int} (h : Srt xs) (k : Nat) (hk : k < xs.length) : nx xs (xs[k] + 1) = xs[k + 1]? := by
  have e : lo xs (xs[k] + 1) = k + 1 := lo_eq xs _ _ (by omega) (fun j hj hji => by have := srt_le h j k hj hk (by omega); omega) (fun hl => by have := srt_lt h k (k + 1) hk hl (by omega); omega)
  unfold nx
  rw [e]
theorem nx_zero {xs : List Int} (h : ∀ u ∈ xs, 0 ≤ u) : nx xs 0 = xs[0]? := by
  have e : lo xs 0 = 0 := lo_eq xs _ _ (by omega) (fun j hj hji => by omega) (fun hl => h _ (List.getElem_mem hl))
  unfold nx
  rw [e]
theorem srt_take {xs : List Int} (h : Srt xs) (k : Nat) : Srt (xs.take k) := List.Pairwise.sublist (List.take_sublist _ _) h
theorem ins_take {xs : List Int} (h : Srt xs) (k : Nat) (hk : k < xs.length) : ins (xs.take k) xs[k] = xs.take (k + 1) := by
  refine srt_ext (srt_ins (srt_take h k) _) (srt_take h _) fun u => ?_
  rw [mem_ins (srt_take h k), List.take_succ_eq_append_getElem hk, List.mem_append, List.mem_singleton]
theorem ins_comm_mem {xs : List Int} (h : Srt xs) {x : Int} (hx : x ∈ xs) : ins xs x = xs := by
  unfold ins
  rw [if_pos ((hasB_iff h x).2 hx)]

/-! ### the bits of a number -/
def bitsL (n : Nat) : List Int := ((List.range 64).filter fun i => n.testBit i).map fun i : Nat => (i : Int)
theorem mem_bitsL (n : Nat) (u : Int) : u ∈ bitsL n ↔ ∃ i : Nat, i < 64 ∧ n.testBit i = true ∧ u = i := by
  unfold bitsL
  rw [List.mem_map]
  constructor
  · rintro ⟨i, hi, rfl⟩
    rw [List.mem_filter, List.mem_range] at hi
    exact ⟨i, hi.1, hi.2, rfl⟩
  · rintro ⟨i, h1, h2, rfl⟩
    exact ⟨i, by rw [List.mem_filter, List.mem_range]; exact ⟨h1, h2⟩, rfl⟩
theorem srt_bitsL (n : Nat) : Srt (bitsL n) := by
  unfold bitsL Srt
  rw [List.pairwise_map]
  refine List.Pairwise.filter _ ?_
  exact List.Pairwise.imp (fun h => by omega) List.pairwise_lt_range
theorem bitsL_zero : bitsL 0 = [] := by simp [bitsL]
theorem bitsL_or (n i : Nat) (hi : i < 64) : bitsL (n ||| 2 ^ i) = ins (bitsL n) i := by
  refine srt_ext (srt_bitsL _) (srt_ins (srt_bitsL n) _) fun u => ?_
  rw [mem_ins (srt_bitsL n), mem_bitsL, mem_bitsL]
  constructor
  · rintro ⟨j, hj, ht, rfl⟩
    rw [Nat.testBit_or, Nat.testBit_two_pow, Bool.or_eq_true, decide_eq_true_eq] at ht
    rcases ht with ht | ht
    · exact .inl ⟨j, hj, ht, rfl⟩
    · exact .inr (by omega)
  · rintro (⟨j, hj, ht, rfl⟩ | h)
    · exact ⟨j, hj, by rw [Nat.testBit_or, ht]; rfl, rfl⟩
    · exact ⟨i, hi, by rw [Nat.testBit_or, Nat.testBit_two_pow]; simp, h⟩
/-- The next bit from s on. -/
theorem nx_bits (n s : Nat) (hn : n < 18446744073709551616) (hs : s < 64) :
    nx (bitsL n) s = if n / 2 ^ s = 0 then none else some ((s + Lib.ctz 64 (n / 2 ^ s) : Nat) : Int) := by
  have hb : ∀ j, (n / 2 ^ s).testBit j = n.testBit (s + j) := fun j => by rw [Nat.testBit_div_two_pow]; congr 1; omega
  split
  · rename_i h0
    refine nx_none fun u hu => ?_
    obtain ⟨i, hi, ht, rfl⟩ := (mem_bitsL n u).1 hu
    rcases Nat.lt_or_ge i s with h1 | h1
    · omega
    · have h2 := hb (i - s)
      rw [h0, show s + (i - s) = i by omega, ht] at h2
      simp at h2
  · rename_i h0
    have hlt : n / 2 ^ s < 2 ^ 64 := Nat.lt_of_le_of_lt (Nat.div_le_self _ _) (by omega)
    obtain ⟨m, hm, hc⟩ := Lib.ctzFrom_spec 64 (n / 2 ^ s) (Nat.pos_of_ne_zero h0) hlt
    have e : Lib.ctz 64 (n / 2 ^ s) = Lib.ctzFrom 64 (n / 2 ^ s) := by unfold Lib.ctz; rw [if_neg h0]
    rw [e]
    generalize Lib.ctzFrom 64 (n / 2 ^ s) = c at *
    have hbit : ∀ j, (n / 2 ^ s).testBit j = (decide (c ≤ j) && (2 * m + 1).testBit (j - c)) := fun j => by
      rw [hm, Nat.mul_comm, Nat.testBit_mul_two_pow]
    have ht : n.testBit (s + c) = true := by
      rw [← hb, hbit]
      simp [Nat.testBit_zero]
    have h64 : s + c < 64 := by
      rcases Nat.lt_or_ge (s + c) 64 with h1 | h1
      · exact h1
      · have h2 : n < 2 ^ (s + c) := Nat.lt_of_lt_of_le (show n < 2 ^ 64 by omega) (Nat.pow_le_pow_right (by omega) h1)
        rw [Nat.testBit_lt_two_pow h2] at ht
        cases ht
    refine nx_some (srt_bitsL n) ((mem_bitsL n _).2 ⟨s + c, h64, ht, rfl⟩) (by omega) fun u hu hsu => ?_
    obtain ⟨i, hi, hti, rfl⟩ := (mem_bitsL n u).1 hu
    have h2 := hb (i - s)
    rw [show s + (i - s) = i by omega, hti, hbit] at h2
    simp at h2
    omega
theorem nx_far (n : Nat) (s : Int) (hs : 64 ≤ s) : nx (bitsL n) s = none :=
  nx_none fun u hu => by
    obtain ⟨i, hi, _, rfl⟩ := (mem_bitsL n u).1 hu
    omega
theorem nn_bitsL (n : Nat) : ∀ u ∈ bitsL n, 0 ≤ u ∧ u < 64 := fun u hu => by
  obtain ⟨i, hi, _, rfl⟩ := (mem_bitsL n u).1 hu
  omega

/-! ### the reference's way -/
/-- What the reference appends, from some number on, where x is already there or not. -/
def putR (x : Int) : Bool → List Int → List Int
  | d, [] => if d then [] else [x]
  | d, y :: r => (if !d && decide (x ≤ y) then [x] else []) ++ ((if y ≠ x then [y] else []) ++ putR x (d || decide (x ≤ y)) r)
theorem putR_done (x : Int) : ∀ (xs : List Int), (∀ y ∈ xs, x < y) → putR x true xs = xs
  | [], _ => rfl
  | y :: r, h => by
    have h1 := h y (by simp)
    rw [putR, Bool.true_or, putR_done x r (fun z hz => h z (by simp [hz]))]
    simp [show ¬ y = x by omega]
theorem putR_ins (x : Int) : ∀ (xs : List Int), Srt xs → putR x false xs = ins xs x
  | [], _ => by simp [putR, ins, hasB, lo]
  | y :: r, h => by
    obtain ⟨h1, h2⟩ := List.pairwise_cons.1 h
    rw [putR]
    by_cases hxy : x ≤ y
    · have e : lo (y :: r) x = 0 := lo_eq _ _ _ (by omega) (fun j _ hj => by omega) (fun _ => hxy)
      by_cases hy : y = x
      · subst hy
        rw [ins_comm_mem h (by simp)]
        simp [putR_done y r h1]
      · rw [Bool.false_or, decide_eq_true hxy, putR_done x r (fun z hz => by have := h1 z hz; omega)]
        unfold ins hasB
        rw [e]
        simp [hy]
    · have e : lo (y :: r) x = lo r x + 1 := by
        unfold lo
        rw [List.takeWhile_cons]
        simp [show y < x by omega]
      rw [Bool.false_or, decide_eq_false hxy, putR_ins x r h2]
      unfold ins hasB
      rw [e]
      simp only [List.getElem?_cons_succ, List.take_succ_cons, List.drop_succ_cons]
      simp only [Bool.not_false, Bool.and_false, Bool.false_eq_true, if_false, List.nil_append, decide_eq_true_eq, ne_eq, show ¬ y = x by omega, not_false_eq_true, if_true, List.cons_append]
      by_cases hh : r[lo r x]? = some x
      · rw [if_pos hh, if_pos hh]
      · rw [if_neg hh, if_neg hh]

end Go.Proofs.YtbhlhgfgkiclgaaDoor.Set

/- Floats that hold whole numbers exactly: what a word of 64 bits stands for, sums, differences, products and comparisons of such. Plain arithmetic over the model's own words; no program in sight. -/
import GoSem.Core.Float
import Derived.Laws.Cover2
import Derived.Laws.FloatArith
set_option linter.unusedVariables false
set_option linter.unusedSimpArgs false
namespace Go.Proofs.Ytmelgankbegjaaa.F
open Ieee

abbrev dbl : Format := Ieee.double
theorem dbl_binade : dbl.binade = 4503599627370496 := by decide
theorem dbl_sw : dbl.signWeight = 9223372036854775808 := by decide
theorem dbl_inf : dbl.infRung = 9218868437227405312 := by decide
theorem dbl_least : dbl.leastPlace = -1074 := by decide
theorem dbl_frac : dbl.fractionBits = 52 := rfl
theorem fmt : FloatKind.format .f64 = dbl := rfl

/-- The word w stands for N units of 2^-1074. -/
def FV (w : Nat) (N : Int) : Prop := ∃ s m t, dbl.read w = .number s m ((t : Nat) - 1074) ∧ (if s then -((m * 2 ^ t : Nat) : Int) else ((m * 2 ^ t : Nat) : Int)) = N
/-- One is so many units. -/
def U : Nat := 2 ^ 1074

theorem log2_eq {n : Nat} (h1 : 4503599627370496 ≤ n) (h2 : n < 9007199254740992) : n.log2 = 52 := by
  have hn : n ≠ 0 := by omega
  have := (Nat.le_log2 hn (k := 52)).2 (by omega)
  have h3 := (Nat.log2_lt hn (k := 53)).2 (by omega)
  omega

theorem cut_zero (neg : Bool) (n : Nat) : Toward.even.cut neg n 0 = n := by
  simp [Toward.cut, Nat.mod_one]

/-- A number in its own form is written as it stands. -/
theorem nearest_norm (neg : Bool) (n t : Nat) (hn : n < 9007199254740992) (ht : t ≤ 2045) (h : t = 0 ∨ 4503599627370496 ≤ n) :
    dbl.nearest neg n ((t : Nat) - 1074) = dbl.word neg (t * 4503599627370496 + n) := by
  unfold Format.nearest
  split
  · rename_i h0
    subst h0
    rcases h with h | h
    · subst h; simp
    · omega
  · rename_i h0
    have hlog : n.log2 ≤ 52 := by
      have h3 := (Nat.log2_lt h0 (k := 53)).2 (by omega)
      omega
    have hlast : max (((t : Nat) : Int) - 1074 + n.log2 - dbl.fractionBits) dbl.leastPlace = (t : Int) - 1074 := by
      rw [dbl_least, dbl_frac]
      rcases h with h | h
      · subst h; omega
      · rw [log2_eq h hn]; omega
    simp only [hlast]
    rw [show ((t : Int) - 1074 - ((t : Int) - 1074)).toNat = 0 by omega, cut_zero, dbl_least, dbl_binade, dbl_inf]
    rw [show ((t : Int) - 1074 - -1074).toNat = t by omega, Nat.shiftLeft_zero, Nat.min_eq_left (by omega)]

theorem read_norm (neg : Bool) (n t : Nat) (hn : n < 9007199254740992) (ht : t ≤ 2045) (h : t = 0 ∨ 4503599627370496 ≤ n) :
    dbl.read (dbl.word neg (t * 4503599627370496 + n)) = .number neg n ((t : Nat) - 1074) := by
  have hr : t * 4503599627370496 + n < 9218868437227405312 := by omega
  have hneg : (dbl.word neg (t * 4503599627370496 + n) / 9223372036854775808 % 2 == 1) = neg ∧ dbl.word neg (t * 4503599627370496 + n) % 9223372036854775808 = t * 4503599627370496 + n := by
    unfold Format.word
    rw [dbl_sw]
    cases neg
    · simp; omega
    · simp; omega
  unfold Format.read
  rw [dbl_sw, hneg.1, hneg.2, dbl_binade, dbl_inf, dbl_least]
  simp only
  by_cases hs : t * 4503599627370496 + n < 4503599627370496
  · rw [if_pos hs]
    have : t = 0 := by omega
    subst this
    simp
  · rw [if_neg hs, if_pos hr]
    have hq : (t * 4503599627370496 + n) / 4503599627370496 = t + 1 := by omega
    have hm : (t * 4503599627370496 + n) % 4503599627370496 = n - 4503599627370496 := by omega
    rw [hq, hm, show 4503599627370496 + (n - 4503599627370496) = n by omega, show (-1074 : Int) + ((t + 1 - 1 : Nat) : Int) = (t : Int) - 1074 by omega]

theorem shl (n k : Nat) : n <<< k = n * 2 ^ k := Nat.shiftLeft_eq n k
theorem log2_mul (n k : Nat) (h : n ≠ 0) : (n * 2 ^ k).log2 = n.log2 + k := by
  have hp : 0 < 2 ^ k := Nat.two_pow_pos k
  have h0 : n * 2 ^ k ≠ 0 := Nat.mul_ne_zero h (by omega)
  rw [Nat.log2_eq_iff h0]
  have h1 := (Nat.log2_eq_iff h).1 rfl
  constructor
  · rw [Nat.pow_add]; exact Nat.mul_le_mul_right _ h1.1
  · rw [show n.log2 + k + 1 = n.log2 + 1 + k by omega, Nat.pow_add]; exact Nat.mul_lt_mul_of_pos_right h1.2 hp

theorem cut_scale (neg : Bool) (n drop a : Nat) (h : n ≠ 0) : Toward.even.cut neg (n * 2 ^ a) (drop + a) = Toward.even.cut neg n drop := by
  have hp : 0 < 2 ^ a := Nat.two_pow_pos a
  unfold Toward.cut
  rw [log2_mul n a h, show min (drop + a) (n.log2 + a + 2) = min drop (n.log2 + 2) + a by omega]
  simp only [shl, Nat.one_mul, Nat.pow_add]
  generalize 2 ^ min drop (n.log2 + 2) = g
  rw [Nat.mul_div_mul_right _ _ hp, Nat.mul_mod_mul_right]
  congr 2
  have e1 : decide (g * 2 ^ a < 2 * (n % g * 2 ^ a)) = decide (g < 2 * (n % g)) := by
    rw [← Nat.mul_assoc]
    exact decide_eq_decide.2 ⟨fun h => Nat.lt_of_mul_lt_mul_right h, fun h => Nat.mul_lt_mul_of_pos_right h hp⟩
  have e2 : (g * 2 ^ a == 2 * (n % g * 2 ^ a)) = (g == 2 * (n % g)) := by
    rw [← Nat.mul_assoc, Bool.eq_iff_iff, beq_iff_eq, beq_iff_eq]
    exact ⟨fun h => Nat.eq_of_mul_eq_mul_right hp h, fun h => by rw [← h]⟩
  rw [e1, e2]

/-- The word hangs on the number alone. -/
theorem nearest_scale (neg : Bool) (n k : Nat) (p : Int) : dbl.nearest neg (n * 2 ^ k) (p - k) = dbl.nearest neg n p := by
  by_cases h : n = 0
  · subst h; simp [Format.nearest]
  · have hp : 0 < 2 ^ k := Nat.two_pow_pos k
    have h0 : n * 2 ^ k ≠ 0 := Nat.mul_ne_zero h (by omega)
    unfold Format.nearest
    rw [if_neg h, if_neg h0, log2_mul n k h]
    rw [show p - (k : Int) + ((n.log2 + k : Nat) : Int) = p + n.log2 by omega]
    simp only
    generalize max (p + (n.log2 : Int) - dbl.fractionBits) dbl.leastPlace = last
    congr 3
    by_cases hl : last ≤ p - k
    · rw [show (last - (p - (k : Int))).toNat = 0 by omega, show (last - p).toNat = 0 by omega, cut_zero, cut_zero, shl, shl, Nat.mul_assoc, ← Nat.pow_add]
      congr 2
      omega
    · by_cases hl2 : last ≤ p
      · obtain ⟨a, ha⟩ : ∃ a : Nat, (a : Int) = p - last := ⟨(p - last).toNat, by omega⟩
        obtain ⟨b, hb⟩ : ∃ b : Nat, (b : Int) = last - (p - k) := ⟨(last - (p - k)).toNat, by omega⟩
        rw [show (p - (k : Int) - last).toNat = 0 by omega, show (last - (p - (k : Int))).toNat = b by omega, show (p - last).toNat = a by omega, show (last - p).toNat = 0 by omega, Nat.shiftLeft_zero, shl]
        rw [show n * 2 ^ k = n * 2 ^ a * 2 ^ b by rw [Nat.mul_assoc, ← Nat.pow_add]; congr 2; omega]
        have := cut_scale neg (n * 2 ^ a) 0 b (Nat.mul_ne_zero h (by have := Nat.two_pow_pos a; omega))
        rw [Nat.zero_add] at this
        exact this
      · rw [show (p - (k : Int) - last).toNat = 0 by omega, show (p - last).toNat = 0 by omega, Nat.shiftLeft_zero, Nat.shiftLeft_zero]
        rw [show (last - (p - (k : Int))).toNat = (last - p).toNat + k by omega]
        exact cut_scale neg n _ k h

/-- A number of at most 53 digits in its own form. -/
theorem norm_form : ∀ (t n : Nat), n < 9007199254740992 → ∃ n' t', n' < 9007199254740992 ∧ t' ≤ t ∧ (t' = 0 ∨ 4503599627370496 ≤ n') ∧ n' * 2 ^ t' = n * 2 ^ t
  | 0, n, h => ⟨n, 0, h, Nat.le_refl _, .inl rfl, rfl⟩
  | t + 1, n, h => by
    by_cases hn : 4503599627370496 ≤ n
    · exact ⟨n, t + 1, h, Nat.le_refl _, .inr hn, rfl⟩
    · obtain ⟨n', t', h1, h2, h3, h4⟩ := norm_form t (2 * n) (by omega)
      exact ⟨n', t', h1, by omega, h3, by rw [h4, Nat.pow_succ]; rw [Nat.mul_comm 2 n, Nat.mul_assoc, Nat.mul_comm 2]⟩

/-- Sign and size. -/
def sg (s : Bool) (m : Nat) : Int := if s then -(m : Int) else m
/-- N has at most 53 digits. -/
def Few (M : Nat) : Prop := ∃ n t, n < 9007199254740992 ∧ t ≤ 2045 ∧ M = n * 2 ^ t

/-- Written, it stands for itself. -/
theorem write_FV (neg : Bool) (m : Nat) (p : Int) (k : Nat) (M : Nat) (hM : Few M) (hk : -1074 ≤ p + k) (h : m * 2 ^ (p + 1074 + k).toNat = M * 2 ^ k) : FV (dbl.write (.number neg m p)) (sg neg M) := by
  obtain ⟨n, t, hn, ht, rfl⟩ := hM
  obtain ⟨n', t', h1, h2, h3, h4⟩ := norm_form t n hn
  rw [← h4] at h ⊢
  have e1 : dbl.nearest neg m p = dbl.nearest neg n' ((t' : Nat) - 1074) := by
    have a := nearest_scale neg m (p + 1074 + k).toNat p
    have b := nearest_scale neg n' (t' + k) ((t' : Nat) - 1074)
    rw [← a, ← b, h, Nat.pow_add, Nat.mul_assoc]
    congr 1
    omega
  show FV (dbl.nearest neg m p) _
  rw [e1, nearest_norm neg n' t' h1 (by omega) h3]
  exact ⟨neg, n', t', read_norm neg n' t' h1 (by omega) h3, by unfold sg; rfl⟩


/-! ### operations -/
theorem sg_mul (s t : Bool) (m n : Nat) : sg s m * sg t n = sg (s ^^ t) (m * n) := by
  cases s <;> cases t <;> simp [sg, Int.mul_neg, Int.neg_mul]
theorem natAbs_sg (x : Int) : sg (decide (x < 0)) x.natAbs = x := by
  unfold sg
  by_cases h : x < 0
  · simp [h]; omega
  · simp [h]; omega
theorem sg_natAbs (s : Bool) (q : Nat) : (sg s q).natAbs = q := by unfold sg; cases s <;> simp
theorem two_abs (k : Nat) : ((2 : Int) ^ k).natAbs = 2 ^ k := by rw [Int.natAbs_pow]; rfl
theorem sg_scale (s : Bool) (q k : Nat) : sg s (q * 2 ^ k) = sg s q * 2 ^ k := by unfold sg; cases s <;> simp [Int.neg_mul]
theorem signed_eq (s : Bool) (m k : Nat) : signed s m k = sg s (m * 2 ^ k) := by
  unfold signed sg
  rw [shl]

theorem FV.read {w : Nat} {N : Int} (h : FV w N) : ∃ s m t, dbl.read w = .number s m ((t : Nat) - 1074) ∧ sg s (m * 2 ^ t) = N := h

/-- Two ends: the lesser place, and the two numbers over it. -/
theorem sum_D (s u : Bool) (m n i j : Nat) (hf : Few (sg s (m * 2 ^ i) + sg u (n * 2 ^ j)).natAbs) :
    ∃ c, (Datum.sum (.number s m ((i : Nat) - 1074)) (.number u n ((j : Nat) - 1074))).map dbl.write = some c ∧ FV c (sg s (m * 2 ^ i) + sg u (n * 2 ^ j)) := by
  obtain ⟨p, hp⟩ : ∃ p : Nat, min ((i : Int) - 1074) ((j : Int) - 1074) = (p : Int) - 1074 := ⟨min i j, by omega⟩
  have hpi : p ≤ i := by omega
  have hpj : p ≤ j := by omega
  have ei : sg s (m * 2 ^ i) = sg s (m * 2 ^ (i - p)) * 2 ^ p := by
    have h2 : (2 : Nat) ^ i = 2 ^ (i - p) * 2 ^ p := by rw [← Nat.pow_add]; congr 1; omega
    unfold sg
    rw [h2]
    cases s <;> simp [Int.mul_assoc, Int.neg_mul]
  have ej : sg u (n * 2 ^ j) = sg u (n * 2 ^ (j - p)) * 2 ^ p := by
    have h2 : (2 : Nat) ^ j = 2 ^ (j - p) * 2 ^ p := by rw [← Nat.pow_add]; congr 1; omega
    unfold sg
    rw [h2]
    cases u <;> simp [Int.mul_assoc, Int.neg_mul]
  simp only [Datum.sum, Option.map_some]
  rw [hp, show ((i : Int) - 1074 - ((p : Int) - 1074)).toNat = i - p by omega, show ((j : Int) - 1074 - ((p : Int) - 1074)).toNat = j - p by omega, signed_eq, signed_eq]
  rw [ei, ej, ← Int.add_mul] at hf ⊢
  generalize sg s (m * 2 ^ (i - p)) + sg u (n * 2 ^ (j - p)) = q at hf ⊢
  refine ⟨_, rfl, ?_⟩
  have hq : (q * 2 ^ p).natAbs = q.natAbs * 2 ^ p := by rw [Int.natAbs_mul, two_abs]
  have hw := fun neg => write_FV neg q.natAbs ((p : Int) - 1074) 0 _ hf (by omega) (by rw [hq]; simp)
  have hsgn := hw (if q = 0 then s && u else decide (q < 0))
  have e : sg (if q = 0 then s && u else decide (q < 0)) (q * 2 ^ p).natAbs = q * 2 ^ p := by
    rw [hq]
    by_cases h0 : q = 0
    · subst h0; simp [sg]
    · rw [if_neg h0]
      have := natAbs_sg q
      unfold sg at this ⊢
      split at this <;> rename_i hlt
      · rw [if_pos hlt]
        conv => rhs; rw [← this]
        simp [Int.neg_mul]
      · rw [if_neg hlt]
        conv => rhs; rw [← this]
        simp
  rw [e] at hsgn
  exact hsgn


theorem add_FV {a b : Nat} {x y : Int} (ha : FV a x) (hb : FV b y) (hf : Few (x + y).natAbs) : ∃ c, dbl.add a b = some c ∧ FV c (x + y) := by
  obtain ⟨s, m, i, r1, rfl⟩ := ha.read
  obtain ⟨u, n, j, r2, rfl⟩ := hb.read
  unfold Format.add
  rw [r1, r2]
  exact sum_D s u m n i j hf
theorem opp_read {w : Nat} {N : Int} (h : FV w N) : ∃ s m t, (dbl.read w).opposite = .number s m ((t : Nat) - 1074) ∧ sg s (m * 2 ^ t) = -N := by
  obtain ⟨s, m, i, r1, rfl⟩ := h.read
  refine ⟨!s, m, i, by rw [r1]; rfl, ?_⟩
  cases s <;> simp [sg]

theorem sub_FV {a b : Nat} {x y : Int} (ha : FV a x) (hb : FV b y) (hf : Few (x - y).natAbs) : ∃ c, dbl.sub a b = some c ∧ FV c (x - y) := by
  obtain ⟨s, m, i, r1, rfl⟩ := ha.read
  obtain ⟨u, n, j, r2, e2⟩ := opp_read hb
  unfold Format.sub
  rw [r1, r2]
  rw [show sg s (m * 2 ^ i) - y = sg s (m * 2 ^ i) + sg u (n * 2 ^ j) by rw [e2]; omega] at hf ⊢
  exact sum_D s u m n i j hf

theorem mul_FV {a b : Nat} {x y z : Int} (ha : FV a x) (hb : FV b y) (hz : x * y = z * 2 ^ 1074) (hf : Few z.natAbs) : ∃ c, dbl.mul a b = some c ∧ FV c z := by
  obtain ⟨s, m, i, r1, rfl⟩ := ha.read
  obtain ⟨u, n, j, r2, rfl⟩ := hb.read
  unfold Format.mul
  rw [r1, r2]
  simp only [Datum.product, Option.map_some]
  refine ⟨_, rfl, ?_⟩
  rw [sg_mul] at hz
  have hp : (2 : Nat) ^ i * 2 ^ j = 2 ^ (i + j) := (Nat.pow_add ..).symm
  have hab : m * 2 ^ i * (n * 2 ^ j) = z.natAbs * 2 ^ 1074 := by
    have h := congrArg Int.natAbs hz
    rw [Int.natAbs_mul] at h
    rw [sg_natAbs, two_abs] at h
    exact h
  have hw := write_FV (s ^^ u) (m * n) ((i : Int) - 1074 + ((j : Int) - 1074)) 1074 z.natAbs hf (by omega) (by
    rw [show ((i : Int) - 1074 + ((j : Int) - 1074) + 1074 + (1074 : Nat)).toNat = i + j by omega, ← hp, ← hab]
    rw [Nat.mul_assoc, Nat.mul_assoc, Nat.mul_left_comm n])
  have e : sg (s ^^ u) z.natAbs = z := by
    have hpos : (0 : Int) < 2 ^ 1074 := Int.pow_pos (by decide)
    by_cases h0 : z = 0
    · subst h0; simp [sg]
    · have hsg : sg (s ^^ u) (m * 2 ^ i * (n * 2 ^ j)) = sg (s ^^ u) z.natAbs * 2 ^ 1074 := by
        rw [hab]
        exact sg_scale (s ^^ u) z.natAbs 1074
      rw [hsg] at hz
      exact Int.eq_of_mul_eq_mul_right (Int.ne_of_gt hpos) hz
  rw [e] at hw
  exact hw

theorem compare_mul (x y k : Int) (hk : 0 < k) : compare (x * k) (y * k) = compare x y := by
  rcases Int.lt_trichotomy x y with h | h | h
  · have h1 : x * k < y * k := Int.mul_lt_mul_of_pos_right h hk
    rw [show compare (x * k) (y * k) = .lt from by simp [compare, compareOfLessAndEq, h1], show compare x y = .lt from by simp [compare, compareOfLessAndEq, h]]
  · subst h
    rw [show compare (x * k) (x * k) = .eq from by simp [compare, compareOfLessAndEq], show compare x x = .eq from by simp [compare, compareOfLessAndEq]]
  · have h1 : y * k < x * k := Int.mul_lt_mul_of_pos_right h hk
    have a1 : ¬ x < y := by omega
    have a2 : x ≠ y := by omega
    have a3 : ¬ x * k < y * k := by omega
    have a4 : x * k ≠ y * k := by omega
    rw [show compare (x * k) (y * k) = .gt from by simp only [compare, compareOfLessAndEq, if_neg a3, if_neg a4], show compare x y = .gt from by simp only [compare, compareOfLessAndEq, if_neg a1, if_neg a2]]

theorem order_FV {a b : Nat} {x y : Int} (ha : FV a x) (hb : FV b y) : dbl.order a b = some (compare x y) := by
  obtain ⟨s, m, i, r1, rfl⟩ := ha.read
  obtain ⟨u, n, j, r2, rfl⟩ := hb.read
  obtain ⟨p, hp⟩ : ∃ p : Nat, min ((i : Int) - 1074) ((j : Int) - 1074) = (p : Int) - 1074 := ⟨min i j, by omega⟩
  have hpi : p ≤ i := by omega
  have hpj : p ≤ j := by omega
  have key : ∀ (s : Bool) (m i : Nat), p ≤ i → sg s (m * 2 ^ i) = sg s (m * 2 ^ (i - p)) * 2 ^ p := fun s m i h => by
    have h2 : (2 : Nat) ^ i = 2 ^ (i - p) * 2 ^ p := by rw [← Nat.pow_add]; congr 1; omega
    unfold sg
    rw [h2]
    cases s <;> simp [Int.mul_assoc, Int.neg_mul]
  unfold Format.order
  rw [r1, r2]
  simp only [Datum.order]
  rw [hp, show ((i : Int) - 1074 - ((p : Int) - 1074)).toNat = i - p by omega, show ((j : Int) - 1074 - ((p : Int) - 1074)).toNat = j - p by omega, signed_eq, signed_eq]
  rw [key s m i hpi, key u n j hpj, compare_mul _ _ _ (Int.pow_pos (by decide))]

/-! ### whole numbers -/
/-- w stands for the whole number n. -/
def FI (w : Nat) (n : Int) : Prop := FV w (n * 2 ^ 1074)
theorem few_int (n : Int) (h : n.natAbs < 9007199254740992) : Few (n * 2 ^ 1074).natAbs :=
  ⟨n.natAbs, 1074, h, by omega, by rw [Int.natAbs_mul, two_abs]⟩
theorem of_int (n : Int) (h : n.natAbs < 9007199254740992) : FI (floatOfInt .f64 n) n := by
  have hw := write_FV (decide (n < 0)) n.natAbs 0 0 (n * 2 ^ 1074).natAbs (few_int n h) (by omega) (by
    rw [Int.natAbs_mul, two_abs, Nat.pow_zero, Nat.mul_one, show ((0 : Int) + 1074 + ((0 : Nat) : Int)).toNat = 1074 by omega])
  have e : sg (decide (n < 0)) (n * 2 ^ 1074).natAbs = n * 2 ^ 1074 := by
    rw [Int.natAbs_mul, two_abs 1074, sg_scale (decide (n < 0)) n.natAbs 1074, natAbs_sg]
  rw [e] at hw
  exact hw
theorem FI.add {a b : Nat} {x y : Int} (ha : FI a x) (hb : FI b y) (h : (x + y).natAbs < 9007199254740992) : ∃ c, dbl.add a b = some c ∧ FI c (x + y) := by
  have := add_FV ha hb (by rw [← Int.add_mul]; exact few_int _ h)
  rwa [← Int.add_mul] at this
theorem FI.sub {a b : Nat} {x y : Int} (ha : FI a x) (hb : FI b y) (h : (x - y).natAbs < 9007199254740992) : ∃ c, dbl.sub a b = some c ∧ FI c (x - y) := by
  have := sub_FV ha hb (by rw [← Int.sub_mul]; exact few_int _ h)
  rwa [← Int.sub_mul] at this
theorem FI.mul {a b : Nat} {x y : Int} (ha : FI a x) (hb : FI b y) (h : (x * y).natAbs < 9007199254740992) : ∃ c, dbl.mul a b = some c ∧ FI c (x * y) :=
  mul_FV ha hb (by rw [Int.mul_assoc, ← Int.mul_assoc (2 ^ 1074), Int.mul_comm (2 ^ 1074) y, ← Int.mul_assoc, ← Int.mul_assoc]) (few_int _ h)
theorem FI.order {a b : Nat} {x y : Int} (ha : FI a x) (hb : FI b y) : dbl.order a b = some (compare x y) := by
  rw [order_FV ha hb, compare_mul _ _ _ (Int.pow_pos (by decide))]
theorem FI.eq {a b : Nat} {x y : Int} (ha : FI a x) (hb : FI b y) : (dbl.order a b == some .eq) = decide (x = y) := by
  rw [ha.order hb]
  by_cases h : x = y
  · subst h; simp [compare, compareOfLessAndEq]
  · rw [decide_eq_false h]
    simp only [compare, compareOfLessAndEq]
    split <;> simp [h]

end Go.Proofs.Ytmelgankbegjaaa.F

/- Part f of the chain. Conditions: those written at each lemma. -/
import GoSem.Core.Float
import Derived.Laws.Cover2
import Derived.Laws.FloatArith
import Derived.Test.YtmelgankbegjaaaGreatDoorGe
import Derived.Laws.BitsLemmas
import Derived.Laws.Bits64
import Derived.Deep.Upon
set_option linter.unusedVariables false
set_option linter.unusedSimpArgs false
namespace Go.Proofs.YtmelgankbegjaaaGreatDoor.F
open Ieee

abbrev dbl : Format := Ieee.double
theorem dbl_binade : dbl.binade = 4503599627370496 := by decide
theorem dbl_sw : dbl.signWeight = 9223372036854775808 := by decide
theorem dbl_inf : dbl.infRung = 9218868437227405312 := by decide
theorem dbl_least : dbl.leastPlace = -1074 := by decide
theorem dbl_frac : dbl.fractionBits = 52 := rfl
theorem fmt : FloatKind.format .f64 = dbl := rfl

/-- The word w stands for N units of 2^-1074. -/
def FV (w : Nat) (N : Int) : Prop := ∃ s m t, dbl.read w = .number s m ((t : Nat) - 1074) ∧ (if s then -((m * 2 ^ t : Nat) : Int) else ((m * 2 ^ t : Nat) : Int)) = N
/-- One is so many units. -/
def U : Nat := 2 ^ 1074

theorem log2_eq {n : Nat} (h1 : 4503599627370496 ≤ n) (h2 : n < 9007199254740992) : n.log2 = 52 := by
  have hn : n ≠ 0 := by omega
  have := (Nat.le_log2 hn (k := 52)).2 (by omega)
  have h3 := (Nat.log2_lt hn (k := 53)).2 (by omega)
  omega

theorem cut_zero (neg : Bool) (n : Nat) : Toward.even.cut neg n 0 = n := by
  simp [Toward.cut, Nat.mod_one]

/-- A number in its own form is written as it stands. -/
theorem nearest_norm (neg : Bool) (n t : Nat) (hn : n < 9007199254740992) (ht : t ≤ 2045) (h : t = 0 ∨ 4503599627370496 ≤ n) :
    dbl.nearest neg n ((t : Nat) - 1074) = dbl.word neg (t * 4503599627370496 + n) := by
  unfold Format.nearest
  split
  · rename_i h0
    subst h0
    rcases h with h | h
    · subst h; simp
    · omega
  · rename_i h0
    have hlog : n.log2 ≤ 52 := by
      have h3 := (Nat.log2_lt h0 (k := 53)).2 (by omega)
      omega
    have hlast : max (((t : Nat) : Int) - 1074 + n.log2 - dbl.fractionBits) dbl.leastPlace = (t : Int) - 1074 := by
      rw [dbl_least, dbl_frac]
      rcases h with h | h
      · subst h; omega
      · rw [log2_eq h hn]; omega
    simp only [hlast]
    rw [show ((t : Int) - 1074 - ((t : Int) - 1074)).toNat = 0 by omega, cut_zero, dbl_least, dbl_binade, dbl_inf]
    rw [show ((t : Int) - 1074 - -1074).toNat = t by omega, Nat.shiftLeft_zero, Nat.min_eq_left (by omega)]

theorem read_norm (neg : Bool) (n t : Nat) (hn : n < 9007199254740992) (ht : t ≤ 2045) (h : t = 0 ∨ 4503599627370496 ≤ n) :
    dbl.read (dbl.word neg (t * 4503599627370496 + n)) = .number neg n ((t : Nat) - 1074) := by
  have hr : t * 4503599627370496 + n < 9218868437227405312 := by omega
  have hneg : (dbl.word neg (t * 4503599627370496 + n) / 9223372036854775808 % 2 == 1) = neg ∧ dbl.word neg (t * 4503599627370496 + n) % 9223372036854775808 = t * 4503599627370496 + n := by
    unfold Format.word
    rw [dbl_sw]
    cases neg
    · simp; omega
    · simp; omega
  unfold Format.read
  rw [dbl_sw, hneg.1, hneg.2, dbl_binade, dbl_inf, dbl_least]
  simp only
  by_cases hs : t * 4503599627370496 + n < 4503599627370496
  · rw [if_pos hs]
    have : t = 0 := by omega
    subst this
    simp
  · rw [if_neg hs, if_pos hr]
    have hq : (t * 4503599627370496 + n) / 4503599627370496 = t + 1 := by omega
    have hm : (t * 4503599627370496 + n) % 4503599627370496 = n - 4503599627370496 := by omega
    rw [hq, hm, show 4503599627370496 + (n - 4503599627370496) = n by omega, show (-1074 : Int) + ((t + 1 - 1 : Nat) : Int) = (t : Int) - 1074 by omega]

theorem shl (n k : Nat) : n <<< k = n * 2 ^ k := Nat.shiftLeft_eq n k
theorem log2_mul (n k : Nat) (h : n ≠ 0) : (n * 2 ^ k).log2 = n.log2 + k := by
  have hp : 0 < 2 ^ k := Nat.two_pow_pos k
  have h0 : n * 2 ^ k ≠ 0 := Nat.mul_ne_zero h (by omega)
  rw [Nat.log2_eq_iff h0]
  have h1 := (Nat.log2_eq_iff h).1 rfl
  constructor
  · rw [Nat.pow_add]; exact Nat.mul_le_mul_right _ h1.1
  · rw [show n.log2 + k + 1 = n.log2 + 1 + k by omega, Nat.pow_add]; exact Nat.mul_lt_mul_of_pos_right h1.2 hp

theorem cut_scale (neg : Bool) (n drop a : Nat) (h : n ≠ 0) : Toward.even.cut neg (n * 2 ^ a) (drop + a) = Toward.even.cut neg n drop := by
  have hp : 0 < 2 ^ a := Nat.two_pow_pos a
  unfold Toward.cut
  rw [log2_mul n a h, show min (drop + a) (n.log2 + a + 2) = min drop (n.log2 + 2) + a by omega]
  simp only [shl, Nat.one_mul, Nat.pow_add]
  generalize 2 ^ min drop (n.log2 + 2) = g
  rw [Nat.mul_div_mul_right _ _ hp, Nat.mul_mod_mul_right]
  congr 2
  have e1 : decide (g * 2 ^ a < 2 * (n % g * 2 ^ a)) = decide (g < 2 * (n % g)) := by
    rw [← Nat.mul_assoc]
    exact decide_eq_decide.2 ⟨fun h => Nat.lt_of_mul_lt_mul_right h, fun h => Nat.mul_lt_mul_of_pos_right h hp⟩
  have e2 : (g * 2 ^ a == 2 * (n % g * 2 ^ a)) = (g == 2 * (n % g)) := by
    rw [← Nat.mul_assoc, Bool.eq_iff_iff, beq_iff_eq, beq_iff_eq]
    exact ⟨fun h => Nat.eq_of_mul_eq_mul_right hp h, fun h => by rw [← h]⟩
  rw [e1, e2]

/-- The word hangs on the number alone. -/
theorem nearest_scale (neg : Bool) (n k : Nat) (p : Int) : dbl.nearest neg (n * 2 ^ k) (p - k) = dbl.nearest neg n p := by
  by_cases h : n = 0
  · subst h; simp [Format.nearest]
  · have hp : 0 < 2 ^ k := Nat.two_pow_pos k
    have h0 : n * 2 ^ k ≠ 0 := Nat.mul_ne_zero h (by omega)
    unfold Format.nearest
    rw [if_neg h, if_neg h0, log2_mul n k h]
    rw [show p - (k : Int) + ((n.log2 + k : Nat) : Int) = p + n.log2 by omega]
    simp only
    generalize max (p + (n.log2 : Int) - dbl.fractionBits) dbl.leastPlace = last
    congr 3
    by_cases hl : last ≤ p - k
    · rw [show (last - (p - (k : Int))).toNat = 0 by omega, show (last - p).toNat = 0 by omega, cut_zero, cut_zero, shl, shl, Nat.mul_assoc, ← Nat.pow_add]
      congr 2
      omega
    · by_cases hl2 : last ≤ p
      · obtain ⟨a, ha⟩ : ∃ a : Nat, (a : Int) = p - last := ⟨(p - last).toNat, by omega⟩
        obtain ⟨b, hb⟩ : ∃ b : Nat, (b : Int) = last - (p - k) := ⟨(last - (p - k)).toNat, by omega⟩
        rw [show (p - (k : Int) - last).toNat = 0 by omega, show (last - (p - (k : Int))).toNat = b by omega, show (p - last).toNat = a by omega, show (last - p).toNat = 0 by omega, Nat.shiftLeft_zero, shl]
        rw [show n * 2 ^ k = n * 2 ^ a * 2 ^ b by rw [Nat.mul_assoc, ← Nat.pow_add]; congr 2; omega]
        have := cut_scale neg (n * 2 ^ a) 0 b (Nat.mul_ne_zero h (by have := Nat.two_pow_pos a; omega))
        rw [Nat.zero_add] at this
        exact this
      · rw [show (p - (k : Int) - last).toNat = 0 by omega, show (p - last).toNat = 0 by omega, Nat.shiftLeft_zero, Nat.shiftLeft_zero]
        rw [show (last - (p - (k : Int))).toNat = (last - p).toNat + k by omega]
        exact cut_scale neg n _ k h

/-- A number of at most 53 digits in its own form. -/
theorem norm_form : ∀ (t n : Nat), n < 9007199254740992 → ∃ n' t', n' < 9007199254740992 ∧ t' ≤ t ∧ (t' = 0 ∨ 4503599627370496 ≤ n') ∧ n' * 2 ^ t' = n * 2 ^ t
  | 0, n, h => ⟨n, 0, h, Nat.le_refl _, .inl rfl, rfl⟩
  | t + 1, n, h => by
    by_cases hn : 4503599627370496 ≤ n
    · exact ⟨n, t + 1, h, Nat.le_refl _, .inr hn, rfl⟩
    · obtain ⟨n', t', h1, h2, h3, h4⟩ := norm_form t (2 * n) (by omega)
      exact ⟨n', t', h1, by omega, h3, by rw [h4, Nat.pow_succ]; rw [Nat.mul_comm 2 n, Nat.mul_assoc, Nat.mul_comm 2]⟩

/-- Sign and size. -/
def sg (s : Bool) (m : Nat) : Int := if s then -(m : Int) else m
/-- N has at most 53 digits. -/
def Few (M : Nat) : Prop := ∃ n t, n < 9007199254740992 ∧ t ≤ 2045 ∧ M = n * 2 ^ t

/-- Written, it stands for itself. -/
theorem write_FV (neg : Bool) (m : Nat) (p : Int) (k : Nat) (M : Nat) (hM : Few M) (hk : -1074 ≤ p + k) (h : m * 2 ^ (p + 1074 + k).toNat = M * 2 ^ k) : FV (dbl.write (.number neg m p)) (sg neg M) := by
  obtain ⟨n, t, hn, ht, rfl⟩ := hM
  obtain ⟨n', t', h1, h2, h3, h4⟩ := norm_form t n hn
  rw [← h4] at h ⊢
  have e1 : dbl.nearest neg m p = dbl.nearest neg n' ((t' : Nat) - 1074) := by
    have a := nearest_scale neg m (p + 1074 + k).toNat p
    have b := nearest_scale neg n' (t' + k) ((t' : Nat) - 1074)
    rw [← a, ← b, h, Nat.pow_add, Nat.mul_assoc]
    congr 1
    omega
  show FV (dbl.nearest neg m p) _
  rw [e1, nearest_norm neg n' t' h1 (by omega) h3]
  exact ⟨neg, n', t', read_norm neg n' t' h1 (by omega) h3, by unfold sg; rfl⟩


/-! ### operations -/
theorem sg_mul (s t : Bool) (m n : Nat) : sg s m * sg t n = sg (s ^^ t) (m * n) := by
  cases s <;> cases t <;> simp [sg, Int.mul_neg, Int.neg_mul]
theorem natAbs_sg (x : Int) : sg (decide (x < 0)) x.natAbs = x := by
  unfold sg
  by_cases h : x < 0
  · simp [h]; omega
  · simp [h]; omega
theorem sg_natAbs (s : Bool) (q : Nat) : (sg s q).natAbs = q := by unfold sg; cases s <;> simp
theorem two_abs (k : Nat) : ((2 : Int) ^ k).natAbs = 2 ^ k := by rw [Int.natAbs_pow]; rfl
theorem sg_scale (s : Bool) (q k : Nat) : sg s (q * 2 ^ k) = sg s q * 2 ^ k := by unfold sg; cases s <;> simp [Int.neg_mul]
theorem signed_eq (s : Bool) (m k : Nat) : signed s m k = sg s (m * 2 ^ k) := by
  unfold signed sg
  rw [shl]

theorem FV.read {w : Nat} {N : Int} (h : FV w N) : ∃ s m t, dbl.read w = .number s m ((t : Nat) - 1074) ∧ sg s (m * 2 ^ t) = N := h

/-- Two ends: the lesser place, and the two numbers over it. -/
theorem sum_D (s u : Bool) (m n i j : Nat) (hf : Few (sg s (m * 2 ^ i) + sg u (n * 2 ^ j)).natAbs) :
    ∃ c, (Datum.sum (.number s m ((i : Nat) - 1074)) (.number u n ((j : Nat) - 1074))).map dbl.write = some c ∧ FV c (sg s (m * 2 ^ i) + sg u (n * 2 ^ j)) := by
  obtain ⟨p, hp⟩ : ∃ p : Nat, min ((i : Int) - 1074) ((j : Int) - 1074) = (p : Int) - 1074 := ⟨min i j, by omega⟩
  have hpi : p ≤ i := by omega
  have hpj : p ≤ j := by omega
  have ei : sg s (m * 2 ^ i) = sg s (m * 2 ^ (i - p)) * 2 ^ p := by
    have h2 : (2 : Nat) ^ i = 2 ^ (i - p) * 2 ^ p := by rw [← Nat.pow_add]; congr 1; omega
    unfold sg
    rw [h2]
    cases s <;> simp [Int.mul_assoc, Int.neg_mul]
  have ej : sg u (n * 2 ^ j) = sg u (n * 2 ^ (j - p)) * 2 ^ p := by
    have h2 : (2 : Nat) ^ j = 2 ^ (j - p) * 2 ^ p := by rw [← Nat.pow_add]; congr 1; omega
    unfold sg
    rw [h2]
    cases u <;> simp [Int.mul_assoc, Int.neg_mul]
  simp only [Datum.sum, Option.map_some]
  rw [hp, show ((i : Int) - 1074 - ((p : Int) - 1074)).toNat = i - p by omega, show ((j : Int) - 1074 - ((p : Int) - 1074)).toNat = j - p by omega, signed_eq, signed_eq]
  rw [ei, ej, ← Int.add_mul] at hf ⊢
  generalize sg s (m * 2 ^ (i - p)) + sg u (n * 2 ^ (j - p)) = q at hf ⊢
  refine ⟨_, rfl, ?_⟩
  have hq : (q * 2 ^ p).natAbs = q.natAbs * 2 ^ p := by rw [Int.natAbs_mul, two_abs]
  have hw := fun neg => write_FV neg q.natAbs ((p : Int) - 1074) 0 _ hf (by omega) (by rw [hq]; simp)
  have hsgn := hw (if q = 0 then s && u else decide (q < 0))
  have e : sg (if q = 0 then s && u else decide (q < 0)) (q * 2 ^ p).natAbs = q * 2 ^ p := by
    rw [hq]
    by_cases h0 : q = 0
    · subst h0; simp [sg]
    · rw [if_neg h0]
      have := natAbs_sg q
      unfold sg at this ⊢
      split at this <;> rename_i hlt
      · rw [if_pos hlt]
        conv => rhs; rw [← this]
        simp [Int.neg_mul]
      · rw [if_neg hlt]
        conv => rhs; rw [← this]
        simp
  rw [e] at hsgn
  exact hsgn


theorem add_FV {a b : Nat} {x y : Int} (ha : FV a x) (hb : FV b y) (hf : Few (x + y).natAbs) : ∃ c, dbl.add a b = some c ∧ FV c (x + y) := by
  obtain ⟨s, m, i, r1, rfl⟩ := ha.read
  obtain ⟨u, n, j, r2, rfl⟩ := hb.read
  unfold Format.add
  rw [r1, r2]
  exact sum_D s u m n i j hf
theorem opp_read {w : Nat} {N : Int} (h : FV w N) : ∃ s m t, (dbl.read w).opposite = .number s m ((t : Nat) - 1074) ∧ sg s (m * 2 ^ t) = -N := by
  obtain ⟨s, m, i, r1, rfl⟩ := h.read
  refine ⟨!s, m, i, by rw [r1]; rfl, ?_⟩
  cases s <;> simp [sg]

theorem sub_FV {a b : Nat} {x y : Int} (ha : FV a x) (hb : FV b y) (hf : Few (x - y).natAbs) : ∃ c, dbl.sub a b = some c ∧ FV c (x - y) := by
  obtain ⟨s, m, i, r1, rfl⟩ := ha.read
  obtain ⟨u, n, j, r2, e2⟩ := opp_read hb
  unfold Format.sub
  rw [r1, r2]
  rw [show sg s (m * 2 ^ i) - y = sg s (m * 2 ^ i) + sg u (n * 2 ^ j) by rw [e2]; omega] at hf ⊢
  exact sum_D s u m n i j hf

theorem mul_FV {a b : Nat} {x y z : Int} (ha : FV a x) (hb : FV b y) (hz : x * y = z * 2 ^ 1074) (hf : Few z.natAbs) : ∃ c, dbl.mul a b = some c ∧ FV c z := by
  obtain ⟨s, m, i, r1, rfl⟩ := ha.read
  obtain ⟨u, n, j, r2, rfl⟩ := hb.read
  unfold Format.mul
  rw [r1, r2]
  simp only [Datum.product, Option.map_some]
  refine ⟨_, rfl, ?_⟩
  rw [sg_mul] at hz
  have hp : (2 : Nat) ^ i * 2 ^ j = 2 ^ (i + j) := (Nat.pow_add ..).symm
  have hab : m * 2 ^ i * (n * 2 ^ j) = z.natAbs * 2 ^ 1074 := by
    have h := congrArg Int.natAbs hz
    rw [Int.natAbs_mul] at h
    rw [sg_natAbs, two_abs] at h
    exact h
  have hw := write_FV (s ^^ u) (m * n) ((i : Int) - 1074 + ((j : Int) - 1074)) 1074 z.natAbs hf (by omega) (by
    rw [show ((i : Int) - 1074 + ((j : Int) - 1074) + 1074 + (1074 : Nat)).toNat = i + j by omega, ← hp, ← hab]
    rw [Nat.mul_assoc, Nat.mul_assoc, Nat.mul_left_comm n])
  have e : sg (s ^^ u) z.natAbs = z := by
    have hpos : (0 : Int) < 2 ^ 1074 := Int.pow_pos (by decide)
    by_cases h0 : z = 0
    · subst h0; simp [sg]
    · have hsg : sg (s ^^ u) (m * 2 ^ i * (n * 2 ^ j)) = sg (s ^^ u) z.natAbs * 2 ^ 1074 := by
        rw [hab]
        exact sg_scale (s ^^ u) z.natAbs 1074
      rw [hsg] at hz
      exact Int.eq_of_mul_eq_mul_right (Int.ne_of_gt hpos) hz
  rw [e] at hw
  exact hw

theorem compare_mul (x y k : Int) (hk : 0 < k) : compare (x * k) (y * k) = compare x y := by
  rcases Int.lt_trichotomy x y with h | h | h
  · have h1 : x * k < y * k := Int.mul_lt_mul_of_pos_right h hk
    rw [show compare (x * k) (y * k) = .lt from by simp [compare, compareOfLessAndEq, h1], show compare x y = .lt from by simp [compare, compareOfLessAndEq, h]]
  · subst h
    rw [show compare (x * k) (x * k) = .eq from by simp [compare, compareOfLessAndEq], show compare x x = .eq from by simp [compare, compareOfLessAndEq]]
  · have h1 : y * k < x * k := Int.mul_lt_mul_of_pos_right h hk
    have a1 : ¬ x < y := by omega
    have a2 : x ≠ y := by omega
    have a3 : ¬ x * k < y * k := by omega
    have a4 : x * k ≠ y * k := by omega
    rw [show compare (x * k) (y * k) = .gt from by simp only [compare, compareOfLessAndEq, if_neg a3, if_neg a4], show compare x y = .gt from by simp only [compare, compareOfLessAndEq, if_neg a1, if_neg a2]]

theorem order_FV {a b : Nat} {x y : Int} (ha : FV a x) (hb : FV b y) : dbl.order a b = some (compare x y) := by
  obtain ⟨s, m, i, r1, rfl⟩ := ha.read
  obtain ⟨u, n, j, r2, rfl⟩ := hb.read
  obtain ⟨p, hp⟩ : ∃ p : Nat, min ((i : Int) - 1074) ((j : Int) - 1074) = (p : Int) - 1074 := ⟨min i j, by omega⟩
  have hpi : p ≤ i := by omega
  have hpj : p ≤ j := by omega
  have key : ∀ (s : Bool) (m i : Nat), p ≤ i → sg s (m * 2 ^ i) = sg s (m * 2 ^ (i - p)) * 2 ^ p := fun s m i h => by
    have h2 : (2 : Nat) ^ i = 2 ^ (i - p) * 2 ^ p := by rw [← Nat.pow_add]; congr 1; omega
    unfold sg
    rw [h2]
    cases s <;> simp [Int.mul_assoc, Int.neg_mul]
  unfold Format.order
  rw [r1, r2]
  simp only [Datum.order]
  rw [hp, show ((i : Int) - 1074 - ((p : Int) - 1074)).toNat = i - p by omega, show ((j : Int) - 1074 - ((p : Int) - 1074)).toNat = j - p by omega, signed_eq, signed_eq]
  rw [key s m i hpi, key u n j hpj, compare_mul _ _ _ (Int.pow_pos (by decide))]

/-! ### whole numbers -/
/-- w stands for the whole number n. -/
def FI (w : Nat) (n : Int) : Prop := FV w (n * 2 ^ 1074)
theorem few_int (n : Int) (h : n.natAbs < 9007199254740992) : Few (n * 2 ^ 1074).natAbs :=
  ⟨n.natAbs, 1074, h, by omega, by rw [Int.natAbs_mul, two_abs]⟩
theorem of_int (n : Int) (h : n.natAbs < 9007199254740992) : FI (floatOfInt .f64 n) n := by
  have hw := write_FV (decide (n < 0)) n.natAbs 0 0 (n * 2 ^ 1074).natAbs (few_int n h) (by omega) (by
    rw [Int.natAbs_mul, two_abs, Nat.pow_zero, Nat.mul_one, show ((0 : Int) + 1074 + ((0 : Nat) : Int)).toNat = 1074 by omega])
  have e : sg (decide (n < 0)) (n * 2 ^ 1074).natAbs = n * 2 ^ 1074 := by
    rw [Int.natAbs_mul, two_abs 1074, sg_scale (decide (n < 0)) n.natAbs 1074, natAbs_sg]
  rw [e] at hw
  exact hw
theorem FI.add {a b : Nat} {x y : Int} (ha : FI a x) (hb : FI b y) (h : (x + y).natAbs < 9007199254740992) : ∃ c, dbl.add a b = some c ∧ FI c (x + y) := by
  have := add_FV ha hb (by rw [← Int.add_mul]; exact few_int _ h)
  rwa [← Int.add_mul] at this
theorem FI.sub {a b : Nat} {x y : Int} (ha : FI a x) (hb : FI b y) (h : (x - y).natAbs < 9007199254740992) : ∃ c, dbl.sub a b = some c ∧ FI c (x - y) := by
  have := sub_FV ha hb (by rw [← Int.sub_mul]; exact few_int _ h)
  rwa [← Int.sub_mul] at this
theorem FI.mul {a b : Nat} {x y : Int} (ha : FI a x) (hb : FI b y) (h : (x * y).natAbs < 9007199254740992) : ∃ c, dbl.mul a b = some c ∧ FI c (x * y) :=
  mul_FV ha hb (by rw [Int.mul_assoc, ← Int.mul_assoc (2 ^ 1074), Int.mul_comm (2 ^ 1074) y, ← Int.mul_assoc, ← Int.mul_assoc]) (few_int _ h)
theorem FI.order {a b : Nat} {x y : Int} (ha : FI a x) (hb : FI b y) : dbl.order a b = some (compare x y) := by
  rw [order_FV ha hb, compare_mul _ _ _ (Int.pow_pos (by decide))]
theorem FI.eq {a b : Nat} {x y : Int} (ha : FI a x) (hb : FI b y) : (dbl.order a b == some .eq) = decide (x = y) := by
  rw [ha.order hb]
  by_cases h : x = y
  · subst h; simp [compare, compareOfLessAndEq]
  · rw [decide_eq_false h]
    simp only [compare, compareOfLessAndEq]
    split <;> simp [h]

end Go.Proofs.YtmelgankbegjaaaGreatDoor.F

set_option linter.unusedVariables false
set_option linter.unusedSimpArgs false
namespace Go.Proofs.YtmelgankbegjaaaGreatDoor.F
open Ieee

/-- Cut towards zero, as a word. -/
def tr (x : Nat) : Nat := dbl.write ((dbl.read x).integral .zero)
theorem cut_low (neg : Bool) (n drop : Nat) : Toward.zero.cut neg n drop = n / 2 ^ drop := by
  unfold Toward.cut
  simp only [shl, Nat.one_mul]
  rcases Nat.lt_or_ge (n.log2 + 2) drop with h | h
  · rw [Nat.min_eq_right (by omega)]
    have h1 : n < 2 ^ (n.log2 + 2) := Nat.lt_of_lt_of_le Nat.lt_log2_self (Nat.pow_le_pow_right (by decide) (by omega))
    have h2 : n < 2 ^ drop := Nat.lt_of_lt_of_le h1 (Nat.pow_le_pow_right (by decide) (by omega))
    rw [Nat.div_eq_of_lt h1, Nat.div_eq_of_lt h2]
    simp
  · rw [Nat.min_eq_left h]
    simp
theorem abs_read (w : Nat) (hw : w < 18446744073709551616) : dbl.read (w % 9223372036854775808) = match dbl.read w with
    | .nan _ t => .nan false t
    | .infinity _ => .infinity false
    | .number _ m p => .number false m p := by
  unfold Format.read
  rw [dbl_sw, dbl_binade, dbl_inf, dbl_least]
  have h1 : w % 9223372036854775808 / 9223372036854775808 = 0 := by omega
  have h2 : w % 9223372036854775808 % 9223372036854775808 = w % 9223372036854775808 := by omega
  simp only [h1, h2]
  split <;> (try split) <;> (try split) <;> simp_all
/-- What a word stands for, in full. -/
theorem read_cases (w : Nat) : (∃ s t, dbl.read w = .nan s t) ∨ (∃ s, dbl.read w = .infinity s) ∨ ∃ s m t, dbl.read w = .number s m ((t : Nat) - 1074) ∧ m < 9007199254740992 := by
  unfold Format.read
  rw [dbl_sw, dbl_binade, dbl_inf, dbl_least]
  simp only
  generalize (w / 9223372036854775808 % 2 == 1) = g
  by_cases h1 : w % 9223372036854775808 < 4503599627370496
  · simp only [if_pos h1]
    exact .inr (.inr ⟨_, _, 0, rfl, by omega⟩)
  · simp only [if_neg h1]
    by_cases h2 : w % 9223372036854775808 < 9218868437227405312
    · simp only [if_pos h2]
      refine .inr (.inr ⟨g, 4503599627370496 + w % 9223372036854775808 % 4503599627370496, w % 9223372036854775808 / 4503599627370496 - 1, ?_, ?_⟩)
      · congr 1
        try omega
      · omega
    · simp only [if_neg h2]
      by_cases h3 : w % 9223372036854775808 = 9218868437227405312
      · simp only [if_pos h3]
        exact .inr (.inl ⟨_, rfl⟩)
      · simp only [if_neg h3]
        exact .inl ⟨_, _, rfl⟩

theorem cast_k (n k : Nat) : ((n * 2 ^ k : Nat) : Int) = (n : Int) * 2 ^ k := by rw [Int.natCast_mul, Int.natCast_pow]; rfl
theorem toNat_1074 : ((0 : Int) + 1074 + ((0 : Nat) : Int)).toNat = 1074 := by omega
theorem sg_bd (s : Bool) (k : Nat) (h : k ≤ 1000) : -1000 ≤ sg s k ∧ sg s k ≤ 1000 := by
  unfold sg
  split <;> omega
theorem write_k (s : Bool) (k t : Nat) (h1 : k < 9007199254740992) (h2 : t ≤ 2045) (ht : ((0 : Int) + 1074 + ((0 : Nat) : Int)).toNat = t) (hk0 : (-1074 : Int) ≤ 0 + ((0 : Nat) : Int)) : FV (dbl.write (.number s k 0)) (sg s (k * 2 ^ t)) :=
  write_FV s k 0 0 (k * 2 ^ t) ⟨k, t, h1, h2, rfl⟩ hk0 (by rw [ht, Nat.pow_zero, Nat.mul_one])
theorem w1000 : FI 4652007308841189376 1000 := of_int 1000 (by decide)
theorem order_nan {x y : Nat} {s : Bool} {t : Nat} (h : dbl.read x = .nan s t) : dbl.order x y = none := by
  unfold Format.order
  rw [h]
  cases dbl.read y <;> rfl
theorem compare_eq {a b : Int} (h : compare a b = .eq) : a = b := by
  simp only [compare, compareOfLessAndEq] at h
  split at h
  · cases h
  · split at h
    · assumption
    · cases h
theorem compare_gt {a b : Int} (h : compare a b ≠ .gt) : a ≤ b := by
  simp only [compare, compareOfLessAndEq] at h
  split at h
  · omega
  · split at h
    · omega
    · exact absurd rfl h
/-- A float that cutting leaves as it is, and that is not above 1000 either way, is a whole number. -/
theorem small (x : Nat) (hx : x < 18446744073709551616) (h1 : (dbl.order x (tr x) == some .eq) = true) (h2 : (dbl.order (x % 9223372036854775808) 4652007308841189376 == some .gt) = false) : ∃ n : Int, FI x n ∧ -1000 ≤ n ∧ n ≤ 1000 := by
  have h1 : dbl.order x (tr x) = some .eq := by simpa using h1
  have h2 : dbl.order (x % 9223372036854775808) 4652007308841189376 ≠ some .gt := by simpa using h2
  rcases read_cases x with ⟨s, t, h⟩ | ⟨s, h⟩ | ⟨s, m, t, h, hm⟩
  · rw [order_nan h] at h1
    cases h1
  · exfalso
    apply h2
    have ha := abs_read x hx
    rw [h] at ha
    obtain ⟨u, n, j, hr, _⟩ := w1000.read
    unfold Format.order
    rw [ha, hr]
    rfl
  · have hN : FV x (sg s (m * 2 ^ t)) := ⟨s, m, t, h, rfl⟩
    have hA : FV (x % 9223372036854775808) (sg false (m * 2 ^ t)) := ⟨false, m, t, by rw [abs_read x hx, h], rfl⟩
    rw [order_FV hA w1000] at h2
    have h2 : (m * 2 ^ t : Nat) ≤ 1000 * 2 ^ 1074 := by
      have h3 := compare_gt (fun e => h2 (by rw [e]))
      have e : (1000 : Int) * 2 ^ 1074 = ((1000 * 2 ^ 1074 : Nat) : Int) := (cast_k 1000 1074).symm
      rw [e] at h3
      exact Int.ofNat_le.1 h3
    obtain ⟨k, hk, hk2⟩ : ∃ k : Nat, (dbl.read x).integral .zero = .number s k 0 ∧ k * 2 ^ 1074 ≤ m * 2 ^ t := by
      rw [h]
      refine ⟨_, rfl, ?_⟩
      rw [cut_low, shl]
      by_cases hp : 1074 ≤ t
      · rw [show ((t : Int) - 1074).toNat = t - 1074 by omega, show (-((t : Int) - 1074)).toNat = 0 by omega, Nat.pow_zero, Nat.div_one, Nat.mul_assoc, ← Nat.pow_add 2 (t - 1074) 1074, show t - 1074 + 1074 = t by omega]
        exact Nat.le_refl _
      · rw [show ((t : Int) - 1074).toNat = 0 by omega, show (-((t : Int) - 1074)).toNat = 1074 - t by omega, Nat.pow_zero, Nat.mul_one]
        have e : (2 : Nat) ^ 1074 = 2 ^ (1074 - t) * 2 ^ t := by rw [← Nat.pow_add]; congr 1; omega
        rw [e, ← Nat.mul_assoc]
        exact Nat.mul_le_mul_right _ (Nat.div_mul_le_self _ _)
    have hk3 : k ≤ 1000 := Nat.le_of_mul_le_mul_right (Nat.le_trans hk2 h2) (Nat.two_pow_pos 1074)
    have hk1 : k < 9007199254740992 := Nat.lt_of_le_of_lt hk3 (by decide)
    have hk0 : (-1074 : Int) ≤ 0 + ((0 : Nat) : Int) := by decide
    have hT : FV (tr x) (sg s (k * 2 ^ 1074)) := by
      unfold tr
      rw [hk]
      exact write_k s k 1074 hk1 (by decide) toNat_1074 hk0
    rw [order_FV hN hT] at h1
    have he := compare_eq (Option.some.inj h1)
    refine ⟨sg s k, ?_, ?_⟩
    · unfold FI
      rw [← sg_scale, ← he]
      exact hN
    · exact sg_bd s k hk3
end Go.Proofs.YtmelgankbegjaaaGreatDoor.F

set_option linter.unusedVariables false
set_option linter.unusedSimpArgs false
set_option maxRecDepth 100000
set_option maxHeartbeats 4000000
namespace Go.Proofs.YtmelgankbegjaaaGreatDoor.Js
open Go.RowKit Go.Proofs.YtmelgankbegjaaaGreatDoor.B

/-- The bits of a whole number as a float. -/
def jw (n : Int) : Nat := if n = 0 then 0 else F.dbl.word (decide (n < 0)) ((1074 - (52 - n.natAbs.log2)) * 4503599627370496 + n.natAbs * 2 ^ (52 - n.natAbs.log2))
theorem log_le (m : Nat) (h : m < 9007199254740992) : m.log2 ≤ 52 := by
  by_cases h0 : m = 0
  · subst h0; decide
  · have h3 := (Nat.log2_lt h0 (k := 53)).2 (by omega)
    omega
theorem norm52 (m : Nat) (h0 : m ≠ 0) (h : m < 9007199254740992) : 4503599627370496 ≤ m * 2 ^ (52 - m.log2) ∧ m * 2 ^ (52 - m.log2) < 9007199254740992 := by
  have hl := log_le m h
  have h1 := F.log2_mul m (52 - m.log2) h0
  have hne : m * 2 ^ (52 - m.log2) ≠ 0 := Nat.mul_ne_zero h0 (Nat.pos_iff_ne_zero.1 (Nat.two_pow_pos _))
  have e : m.log2 + (52 - m.log2) = 52 := by omega
  rw [e] at h1
  have a := (Nat.le_log2 hne (k := 52)).1 (by omega)
  have b := (Nat.log2_lt hne (k := 53)).1 (by omega)
  generalize m * 2 ^ (52 - m.log2) = x at *
  omega
theorem jw_read (n : Int) (h0 : n ≠ 0) (h : n.natAbs < 9007199254740992) : F.dbl.read (jw n) = .number (decide (n < 0)) (n.natAbs * 2 ^ (52 - n.natAbs.log2)) (((1074 - (52 - n.natAbs.log2) : Nat) : Int) - 1074) := by
  obtain ⟨a, b⟩ := norm52 n.natAbs (by omega) h
  unfold jw
  rw [if_neg h0]
  exact F.read_norm _ _ _ b (by omega) (.inr a)
theorem jw_FI (n : Int) (h : n.natAbs < 9007199254740992) : F.FI (jw n) n := by
  by_cases h0 : n = 0
  · subst h0
    have h1 := F.read_norm false 0 0 (by omega) (by omega) (.inl rfl)
    exact ⟨false, 0, 0, h1, by rw [Int.zero_mul]; rfl⟩
  · refine ⟨_, _, _, jw_read n h0 h, ?_⟩
    have hl := log_le n.natAbs h
    have e : n.natAbs * 2 ^ (52 - n.natAbs.log2) * 2 ^ (1074 - (52 - n.natAbs.log2)) = n.natAbs * 2 ^ 1074 := by
      rw [Nat.mul_assoc, ← Nat.pow_add, show 52 - n.natAbs.log2 + (1074 - (52 - n.natAbs.log2)) = 1074 by omega]
    rw [e]
    have h2 := F.sg_scale (decide (n < 0)) n.natAbs 1074
    rw [F.natAbs_sg] at h2
    unfold F.sg at h2
    exact h2
theorem jw_lt (n : Int) (h : n.natAbs < 9007199254740992) : jw n < 18446744073709551616 := by
  unfold jw
  split
  · omega
  · rename_i h0
    obtain ⟨a, b⟩ := norm52 n.natAbs (by omega) h
    unfold Ieee.Format.word
    rw [F.dbl_sw]
    have : 1074 - (52 - n.natAbs.log2) ≤ 1074 := Nat.sub_le _ _
    generalize n.natAbs * 2 ^ (52 - n.natAbs.log2) = x at *
    split <;> omega
/-- The bits of a node's number. -/
def nb (k n : Int) : Int := if k = 1 then n else if k = 2 then ((jw n : Nat) : Int) else 0
mutual
/-- The value v reads as a tree. -/
def NN (p : Nat → Prop) (W : World) : J → Value → Prop
  | .mk k n s ns is, v => ∃ A c A2 c2 hs, v = .agg #[.int .i64 k, .int .u64 (nb k n), .string s, .slice A ns.length c, .slice A2 is.length c2] ∧
      Rp p W 1 (.slice A ns.length c) ns.length (strs ns) ∧ Rp p W 5 (.slice A2 is.length c2) is.length (flat hs) ∧ NNs p W is hs
def NNs (p : Nat → Prop) (W : World) : List J → List Value → Prop
  | [], hs => hs = []
  | t :: r, hs => ∃ h hs', hs = h :: hs' ∧ NN p W t h ∧ NNs p W r hs'
end
mutual
theorem NN.imp {p q : Nat → Prop} {W W' : World} (H : ∀ size v n cs, Rp p W size v n cs → Rp q W' size v n cs) : ∀ (t : J) (v : Value), NN p W t v → NN q W' t v
  | .mk k n s ns is, v, h => by
    obtain ⟨A, c, A2, c2, hs, e, h1, h2, h3⟩ := h
    exact ⟨A, c, A2, c2, hs, e, H _ _ _ _ h1, H _ _ _ _ h2, NNs.imp H is hs h3⟩
theorem NNs.imp {p q : Nat → Prop} {W W' : World} (H : ∀ size v n cs, Rp p W size v n cs → Rp q W' size v n cs) : ∀ (ts : List J) (hs : List Value), NNs p W ts hs → NNs q W' ts hs
  | [], hs, h => h
  | t :: r, hs, h => by
    obtain ⟨x, hs', e, h1, h2⟩ := h
    exact ⟨x, hs', e, NN.imp H t x h1, NNs.imp H r hs' h2⟩
end
theorem NN.below {p : Nat → Prop} {W W' : World} {t : J} {v : Value} (h : NN p W t v) (hb : Below W.heap.size W W') : NN p W' t v := NN.imp (fun _ _ _ _ h => h.below hb) t v h
theorem NN.weak {p q : Nat → Prop} {W : World} {t : J} {v : Value} (h : NN p W t v) (H : ∀ b, b < W.heap.size → p b → q b) : NN q W t v := NN.imp (fun _ _ _ _ h => h.weak H) t v h
theorem NN.grown {p : Nat → Prop} {W W' : World} {t : J} {v : Value} {row : Option Nat} (h : NN p W t v) (hg : W.grownBy W' row) (H : ∀ b, p b → some b ≠ row) : NN p W' t v := NN.imp (fun _ _ _ _ h => h.grown hg H) t v h
theorem NNs.below {p : Nat → Prop} {W W' : World} {t : List J} {v : List Value} (h : NNs p W t v) (hb : Below W.heap.size W W') : NNs p W' t v := NNs.imp (fun _ _ _ _ h => h.below hb) t v h
theorem NNs.weak {p q : Nat → Prop} {W : World} {t : List J} {v : List Value} (h : NNs p W t v) (H : ∀ b, b < W.heap.size → p b → q b) : NNs q W t v := NNs.imp (fun _ _ _ _ h => h.weak H) t v h
theorem NNs.grown {p : Nat → Prop} {W W' : World} {t : List J} {v : List Value} {row : Option Nat} (h : NNs p W t v) (hg : W.grownBy W' row) (H : ∀ b, p b → some b ≠ row) : NNs p W' t v := NNs.imp (fun _ _ _ _ h => h.grown hg H) t v h
theorem NNs.len {p : Nat → Prop} {W : World} : ∀ {ts : List J} {hs : List Value}, NNs p W ts hs → hs.length = ts.length
  | [], hs, h => by rw [show hs = [] from h]; rfl
  | t :: r, hs, h => by
    obtain ⟨x, hs', rfl, _, h2⟩ := h
    simp [NNs.len h2]
theorem NNs.get {p : Nat → Prop} {W : World} : ∀ {ts : List J} {hs : List Value}, NNs p W ts hs → ∀ (i : Nat) (h1 : i < ts.length) (h2 : i < hs.length), NN p W ts[i] hs[i]
  | t :: r, hs, h, 0, _, _ => by
    obtain ⟨x, hs', rfl, h1, _⟩ := h
    exact h1
  | t :: r, hs, h, i + 1, h1, h2 => by
    obtain ⟨x, hs', rfl, _, h3⟩ := h
    exact NNs.get h3 i (by simpa using h1) (by simpa using h2)
theorem NNs.push {p : Nat → Prop} {W : World} {t : J} {x : Value} : ∀ {ts : List J} {hs : List Value}, NNs p W ts hs → NN p W t x → NNs p W (ts ++ [t]) (hs ++ [x])
  | [], hs, h, hx => by
    rw [show hs = [] from h]
    exact ⟨x, [], rfl, hx, rfl⟩
  | t' :: r, hs, h, hx => by
    obtain ⟨y, hs', rfl, h1, h2⟩ := h
    exact ⟨y, hs' ++ [x], rfl, h1, NNs.push h2 hx⟩
/-- The five cells of a tree's value. -/
theorem NN.five {p : Nat → Prop} {W : World} {t : J} {v : Value} (h : NN p W t v) : ∃ A c A2 c2, v = .agg #[.int .i64 t.k, .int .u64 (nb t.k t.n), .string t.s, .slice A t.ns.length c, .slice A2 t.is.length c2] ∧
    Rp p W 1 (.slice A t.ns.length c) t.ns.length (strs t.ns) ∧ ∃ hs, Rp p W 5 (.slice A2 t.is.length c2) t.is.length (flat hs) ∧ NNs p W t.is hs := by
  obtain ⟨k, n, s, ns, is⟩ := t
  obtain ⟨A, c, A2, c2, hs, e, h1, h2, h3⟩ := h
  exact ⟨A, c, A2, c2, e, h1, hs, h2, h3⟩
theorem NNs.cells {p : Nat → Prop} {W : World} {ts : List J} {hs : List Value} (h : NNs p W ts hs) : ∀ x ∈ hs, x.cells.size = 5 := by
  intro x hx
  obtain ⟨i, hi, rfl⟩ := List.mem_iff_getElem.1 hx
  obtain ⟨A, c, A2, c2, e, _⟩ := (h.get i (by rw [← h.len]; exact hi) hi).five
  rw [e]
  rfl
/-- The item number i of a row of trees. -/
theorem node_item {p : Nat → Prop} {W : World} {A : Option Addr} {n c : Nat} {ts : List J} {hs : List Value} (hr : Rd W 5 (.slice A n c) n (flat hs)) (h : NNs p W ts hs) (hn : n = ts.length) (i : Nat) (hi : i < ts.length) :
    ∃ b o A1 c1 A2 c2, A = some ⟨b, o, none⟩ ∧ b < W.heap.size ∧ W.cell? ⟨b, o + i * 5, none⟩ = some (.int .i64 ts[i].k) ∧ W.cell? ⟨b, o + i * 5 + 1, none⟩ = some (.int .u64 (nb ts[i].k ts[i].n)) ∧ W.cell? ⟨b, o + i * 5 + 2, none⟩ = some (.string ts[i].s) ∧
      W.cell? ⟨b, o + i * 5 + 3, none⟩ = some (.slice A1 ts[i].ns.length c1) ∧ W.cell? ⟨b, o + i * 5 + 4, none⟩ = some (.slice A2 ts[i].is.length c2) ∧
      NN p W ts[i] (.agg #[.int .i64 ts[i].k, .int .u64 (nb ts[i].k ts[i].n), .string ts[i].s, .slice A1 ts[i].ns.length c1, .slice A2 ts[i].is.length c2]) := by
  have hi2 : i < hs.length := by rw [h.len]; exact hi
  have hj := h.get i hi hi2
  obtain ⟨A1, c1, A2, c2, e, _⟩ := hj.five
  obtain ⟨b, o, c', hv, _, _, hb, hc⟩ := hr.open (by omega)
  injection hv with e1 _ _
  obtain ⟨g0, g1, g2, g3, g4⟩ := flat_get i hi2 _ _ _ _ _ h.cells e
  rw [e] at hj
  exact ⟨b, o, A1, c1, A2, c2, e1, hb, hc _ _ g0, hc _ _ g1, hc _ _ g2, hc _ _ g3, hc _ _ g4, hj⟩
theorem nflat_len {p : Nat → Prop} {W : World} {ts : List J} {hs : List Value} (h : NNs p W ts hs) : (flat hs).length = ts.length * 5 := by
  have h5 := h.cells
  rw [← h.len]
  clear h
  induction hs with
  | nil => rfl
  | cons x r ih =>
    show (x.cells.toList ++ flat r).length = _
    rw [List.length_append, Array.length_toList, h5 x (.head _), ih (fun y hy => h5 y (.tail _ hy)), List.length_cons]
    omega

end Go.Proofs.YtmelgankbegjaaaGreatDoor.Js

set_option linter.unusedVariables false
set_option linter.unusedSimpArgs false
set_option maxRecDepth 100000
set_option maxHeartbeats 4000000
namespace Go.Proofs.YtmelgankbegjaaaGreatDoor.Js
open Go.RowKit Go.Proofs.YtmelgankbegjaaaGreatDoor.B

theorem pow_step (m i L : Nat) (h0 : m ≠ 0) (hL : m * 2 ^ L < 9007199254740992) (h : i < L) : m * 2 ^ i < 4503599627370496 := by
  have h1 : m * 2 ^ (i + 1) ≤ m * 2 ^ L := Nat.mul_le_mul_left m (Nat.pow_le_pow_right (by omega) (by omega))
  rw [Nat.pow_succ, ← Nat.mul_assoc] at h1
  omega
theorem u64_64 (n : Int) (h₀ : 0 ≤ n) (h₁ : n < 2 ^ 64) : IntKind.u64.wrap n = n := by rw [IntKind.wrap_u64]; omega
theorem or_lo (i a b : Nat) (hb : b < 2 ^ i) (hs : a * 2 ^ i < 2 ^ 64) (hb2 : b < 2 ^ 64) : bits .or .u64 ((a * 2 ^ i : Nat) : Int) (b : Int) = ((a * 2 ^ i + b : Nat) : Int) := by
  have h := (bits_nat .u64 64 (by decide) u64_64 (a * 2 ^ i) b hs hb2).2
  rw [h, ← Nat.shiftLeft_eq, Nat.shiftLeft_add_eq_or_of_lt hb]
theorem put_word (sn : Int) (hs : sn = 0 ∨ sn = 9223372036854775808) (i : Nat) (hi : i ≤ 52) (x : Int) (hx : 4503599627370496 ≤ x) (hx2 : x < 9007199254740992) :
    bits .or .u64 (bits .or .u64 sn ((1075 - (i : Int)) * 4503599627370496)) (bits .and .u64 x 4503599627370495) = sn + (1075 - (i : Int)) * 4503599627370496 + (x - 4503599627370496) := by
  have hm := bits_mask .u64 64 (by decide) u64_64 52 (by omega) x (by omega) (by omega)
  have e1 : ((2 : Int) ^ 52 - 1) = 4503599627370495 := by decide
  have e2 : ((2 : Int) ^ 52) = 4503599627370496 := by decide
  rw [e1, e2] at hm
  rw [hm, show x % 4503599627370496 = ((x - 4503599627370496).toNat : Int) by omega]
  have h52 : (2 : Nat) ^ 52 = 4503599627370496 := by decide
  have h63 : (2 : Nat) ^ 63 = 9223372036854775808 := by decide
  have h64 : (2 : Nat) ^ 64 = 18446744073709551616 := by decide
  rcases hs with rfl | rfl
  · have a := or_lo 63 0 ((1075 - i) * 4503599627370496) (by rw [h63]; omega) (by rw [Nat.zero_mul, h64]; omega) (by rw [h64]; omega)
    have b := or_lo 52 (1075 - i) (x - 4503599627370496).toNat (by rw [h52]; omega) (by rw [h52, h64]; omega) (by rw [h64]; omega)
    rw [h52] at b
    rw [show (((0 * 2 ^ 63 : Nat) : Nat) : Int) = 0 by simp, show (0 * 2 ^ 63 + (1075 - i) * 4503599627370496 : Nat) = (1075 - i) * 4503599627370496 by omega] at a
    rw [show (1075 - (i : Int)) * 4503599627370496 = (((1075 - i) * 4503599627370496 : Nat) : Int) by omega, a, b]
    omega
  · have a := or_lo 63 1 ((1075 - i) * 4503599627370496) (by rw [h63]; omega) (by rw [h64, h63]; omega) (by rw [h64]; omega)
    have b := or_lo 52 (2048 + (1075 - i)) (x - 4503599627370496).toNat (by rw [h52]; omega) (by rw [h52, h64]; omega) (by rw [h64]; omega)
    rw [h52] at b
    rw [h63, show (((1 * 9223372036854775808 : Nat) : Nat) : Int) = 9223372036854775808 by omega, show (1 * 9223372036854775808 + (1075 - i) * 4503599627370496 : Nat) = (2048 + (1075 - i)) * 4503599627370496 by omega] at a
    rw [show (1075 - (i : Int)) * 4503599627370496 = (((1075 - i) * 4503599627370496 : Nat) : Int) by omega, a, b]
    omega
theorem bits_pos (sn : Int) (n m : Int) (hm1 : 1 ≤ m) (hm2 : m ≤ 2147483648) (hn : sn = 0 ∧ n = m ∨ sn = 9223372036854775808 ∧ n = -m) (w : World) :
    Calls Tryz.prog 22 #[.int .i64 n] w fun e w' => e = .returned (.int .u64 (jw n)) ∧ w' = w := by
  obtain ⟨m, rfl⟩ : ∃ k : Nat, m = k := ⟨m.toNat, by omega⟩
  have hN := norm52 m (by omega) (by omega)
  have hlog := log_le m (by omega)
  have hjw : (jw n : Int) = sn + (1075 - (52 - m.log2 : Nat)) * 4503599627370496 + ((m * 2 ^ (52 - m.log2) : Nat) - 4503599627370496) := by
    have hab : n.natAbs = m := by omega
    unfold jw
    rw [if_neg (by omega), hab]
    unfold Ieee.Format.word
    rw [F.dbl_sw]
    have hL : 52 - m.log2 ≤ 52 := Nat.sub_le _ _
    generalize m * 2 ^ (52 - m.log2) = x at *
    generalize 52 - m.log2 = L at *
    rcases hn with ⟨h1, h2⟩ | ⟨h1, h2⟩
    · rw [decide_eq_false (by omega)]
      simp
      omega
    · rw [decide_eq_true (by omega)]
      simp
      omega
  rw [hjw]
  have HP := Lib.hid (fun i h => pow_step m i (52 - m.log2) (by omega) hN.2 h)
  have HN := Lib.hid hN
  have hL : 52 - m.log2 ≤ 52 := Nat.sub_le _ _
  generalize 52 - m.log2 = L at *
  clear hjw hN hlog
  rcases hn with ⟨rfl, rfl⟩ | ⟨rfl, rfl⟩
  all_goals
    go_enter Tryz.func22, Tryz.ntmps22
    go_upto_region 7 with fail
    go_loopw [4, 5] (fun v4 v5 wr => ∃ (i : Nat) (x : Int), v4 = .int .u64 x ∧ v5 = .int .u64 (1075 - i) ∧ i ≤ L ∧ Hid (x = (m * 2 ^ i : Nat)) ∧ wr = w) (fun _ v5 _ => (intOf v5).toNat)
    case atStart => exact ⟨0, _, rfl, rfl, Nat.zero_le _, Lib.hid (by simp), rfl⟩
    case round =>
      obtain ⟨i, x, rfl, rfl, hi, HX, rfl⟩ := hrel
      have hx0 : 0 ≤ x := by rw [HX.out]; exact Int.natCast_nonneg _
      by_cases hlt : i < L
      · have hx1 : x < 4503599627370496 := by have := HP.out i hlt; rw [HX.out]; omega
        go_wp2
        go_roundw
        case rel => exact ⟨i + 1, x * 2, rfl, by congr 1; omega, by omega, Lib.hid (by rw [HX.out, Nat.pow_succ, ← Nat.mul_assoc]; omega), trivial⟩
        case measure => simp [intOf]; omega
      · obtain rfl : i = L := by omega
        have hx1 : 4503599627370496 ≤ x ∧ x < 9007199254740992 := by have := HN.out; rw [HX.out]; omega
        clear HN HP
        rename World => W0
        go_upto_region 9 with fail
        go_loopw [4, 5] (fun v4 v5 wr => v4 = .int .u64 x ∧ v5 = .int .u64 (1075 - i) ∧ Hid (wr = W0)) (fun _ v5 _ => (intOf v5).toNat)
        case atStart => exact ⟨rfl, rfl, Lib.hid rfl⟩
        case round =>
          obtain ⟨rfl, rfl, HW⟩ := hrel
          have HW := HW.out
          subst HW
          go_wp2
          go_ret
          have hpw0 := put_word 0 (.inl rfl) i hL x hx1.1 hx1.2
          have hpw1 := put_word 9223372036854775808 (.inr rfl) i hL x hx1.1 hx1.2
          have hxe : x = (m : Int) * 2 ^ i := by rw [HX.out]; simp
          generalize (m : Int) * 2 ^ i = y at *
          subst hxe
          refine ⟨?_, rfl⟩
          first
            | exact congrArg (fun z => Ending.returned (Value.int .u64 z)) (hpw0.trans (by omega))
            | exact congrArg (fun z => Ending.returned (Value.int .u64 z)) (hpw1.trans (by omega))
theorem bits_any (n : Int) (h1 : -2147483648 ≤ n) (h2 : n ≤ 2147483647) (w : World) : Calls Tryz.prog 22 #[.int .i64 n] w fun e w' => e = .returned (.int .u64 (jw n)) ∧ w' = w := by
  rcases show n = 0 ∨ 1 ≤ n ∨ n ≤ -1 by omega with rfl | h | h
  · go_enter Tryz.func22, Tryz.ntmps22
    go_wp2
    go_ret
    exact ⟨rfl, rfl⟩
  · exact bits_pos 0 n n h (by omega) (.inl ⟨rfl, rfl⟩) w
  · exact bits_pos 9223372036854775808 n (-n) (by omega) (by omega) (.inr ⟨rfl, by omega⟩) w
end Go.Proofs.YtmelgankbegjaaaGreatDoor.Js

set_option linter.unusedVariables false
set_option linter.unusedSimpArgs false
set_option maxRecDepth 100000
set_option maxHeartbeats 4000000
namespace Go.Proofs.YtmelgankbegjaaaGreatDoor.Js
open Go.RowKit Go.Proofs.YtmelgankbegjaaaGreatDoor.B

theorem sc {w W : World} {B : Nat} (h : Below B w W) (j : Nat) (u : Value) : Below B w (W.setCell ⟨B, j, none⟩ u) := h.setCell (Nat.le_refl _) u
/-- jsOf's answer: a tree, that lies in memory of its own. -/
theorem of_any (w : World) (A : Option Addr) (n c : Nat) (xs : List Int) (hr : Rd w 1 (.slice A n c) n (u8s xs)) (hx : ∀ z ∈ xs, 0 ≤ z ∧ z ≤ 255) :
    Calls Tryz.prog 6 #[.slice A n c] w fun e w' => ∃ v t, e = .returned v ∧ Wf t ∧ JN (fun x => w.heap.size ≤ x) w' t v ∧ Below w.heap.size w w' := by
  have hR := Lib.hid hr
  have hX := Lib.hid hx
  clear hr hx
  have VV := Lib.hid (fun W h => value_any w (w.heap.size + 1) (by omega) 6 0 (by omega) (by omega) W h)
  have HB0 := Lib.hid (((Below.refl w.heap.size w).alloc (Nat.le_refl _) jz).alloc (by simp) (.cells #[.slice A n c, .int .i64 40] 46))
  have HM0 := Lib.hid (show Mst w ((w.alloc jz).alloc (.cells #[.slice A n c, .int .i64 40] 46)) (w.heap.size + 1) from ⟨A, n, c, 40, xs, by
    have := heap_alloc_new (w.alloc jz) (.cells #[.slice A n c, .int .i64 40] 46)
    simpa using this, hR.out, hX.out, HB0.out⟩)
  have HR0 := Lib.hid (show ((w.alloc jz).alloc (.cells #[.slice A n c, .int .i64 40] 46)).heap[w.heap.size]? = some jz from by
    have h1 := heap_alloc_new w jz
    have hb : Below (w.alloc jz).heap.size (w.alloc jz) ((w.alloc jz).alloc (.cells #[.slice A n c, .int .i64 40] 46)) := (Below.refl _ _).alloc (Nat.le_refl _) _
    exact (hb.block _ (by simp)).trans h1)
  go_enter Tryz.func6, Tryz.ntmps6
  go_upto_region 2 with fail
  have hsz : ((w.alloc jz).alloc (.cells #[.slice A n c, .int .i64 40] 46)).heap.size = w.heap.size + 2 := by simp
  generalize (w.alloc jz).alloc (.cells #[.slice A n c, .int .i64 40] 46) = w1 at *
  go_wp2_with (go_at_call 14; (with_reducible refine (VV.out _ HM0.out).mono ?_); rintro e w2 ⟨v, t, rfl, hw, hj, hm, hg⟩; obtain ⟨A1, c1, A2, c2, rfl, _⟩ := hj.five; have HJ := Lib.hid hj; have hr := blk_grown HR0.out hg (fun e => by injection e with e; omega); have HR2 := Lib.hid hr; have HB2 := Lib.hid (HB0.out.grown hg HB0.out.size (fun k hk => by injection hk with hk; omega)); have HW := Lib.hid hw; obtain ⟨s0, s1, s2, s3, s4⟩ := Rv.cells5 hr; obtain ⟨z0, z1, z2, z3, z4⟩ := Rv.frozen5 hr; clear hw hj hm hg hr)
  have HB5 := Lib.hid (sc (sc (sc (sc (sc HB2.out 0 (.int .i64 t.k)) 1 (.int .i64 t.n)) 2 (.string t.s)) 3 (.slice A1 t.ns.length c1)) 4 (.slice A2 t.is.length c2))
  have gs := fun (W : World) j u => grown_set (Below.refl _ W) w.heap.size j u
  have HJ5 := Lib.hid ((HJ.out.grown (grown_then (grown_then (grown_then (grown_then (gs w2 0 (.int .i64 t.k)) (gs _ 1 (.int .i64 t.n))) (gs _ 2 (.string t.s))) (gs _ 3 (.slice A1 t.ns.length c1))) (gs _ 4 (.slice A2 t.is.length c2))) (fun x hx e => by injection e with e; omega)).weak (q := fun x => w.heap.size ≤ x) (fun x _ hx => by omega))
  obtain ⟨q0, q1, q2, q3, q4⟩ := Rv.cells5 (Rv.sets5 HR2.out (.int .i64 t.k) (.int .i64 t.n) (.string t.s) (.slice A1 t.ns.length c1) (.slice A2 t.is.length c2))
  clear s0 s1 s2 s3 s4 z0 z1 z2 z3 z4 gs
  refine bodyPost_ret (v := .agg #[.int .i64 t.k, .int .i64 t.n, .string t.s, .slice A1 t.ns.length c1, .slice A2 t.is.length c2]) ?_ rfl ⟨_, t, rfl, HW.out, HJ5.out, HB5.out⟩
  simp only [results, show Tryz.f6.results = #[.cell 2 26] by kernel_rfl]
  go_simp
end Go.Proofs.YtmelgankbegjaaaGreatDoor.Js

set_option linter.unusedVariables false
set_option linter.unusedSimpArgs false
set_option maxRecDepth 100000
set_option maxHeartbeats 8000000
namespace Go.Proofs.YtmelgankbegjaaaGreatDoor.Js
open Go.RowKit Go.Proofs.YtmelgankbegjaaaGreatDoor.B

theorem app_empty {P : Program} (w : World) (t ty e : TypeId) (z : Value) (size bytes : Nat) (ht : P.underlying t = some (.slice e)) (hinfo : (P.info? e).map (fun i => (i.zero, i.size, i.bytes)) = some (some z, size, bytes)) (hzs : z.cells.size = size)
    (hb0 : 0 < bytes) (g B : Nat) (hg : w.heap[g]? = some (.cells #[] e (0, 0))) (hB : B ≤ g) (hB2 : B ≤ w.heap.size) (u : Value) (m : Nat) (news : List Value) (hr : Rd w size u m news) (h1 : ∀ u ∈ news, u.oneCell' = true) (hbytes : m * bytes ≤ 140737488355328) :
    ∃ A c w', (Builtin.append_ #[t, t] ty #[.slice (some ⟨g, 0, none⟩) 0 0, u]).run P w = .ok (.slice A m c) w' ∧ w'.ownsRow B e size (.slice A m c) m news ∧ Below w.heap.size w w' := by
  obtain ⟨i, hi, hz, hsize, hby⟩ := info_parts hinfo
  have hlen : m ≤ 140737488355328 := Nat.le_trans (Nat.le_mul_of_pos_right _ hb0) hbytes
  rcases Nat.eq_zero_or_pos m with h0 | h0
  · subst h0
    obtain rfl : news = [] := List.eq_nil_of_length_eq_zero (by simpa using hr.len)
    have hrun : (Builtin.append_ #[t, t] ty #[.slice (some ⟨g, 0, none⟩) 0 0, u]).run P w = .ok (.slice (some ⟨g, 0, none⟩) 0 0) w := by
      obtain ⟨A, c, rfl, _⟩ := hr.shape
      cases A with
      | none => exact run_append_nothing w t t ty e i ht hi (some ⟨g, 0, none⟩) 0 0 (Nat.le_refl _) _ (Go.Src.ofNil w ht c)
      | some a => exact run_append_nothing w t t ty e i ht hi (some ⟨g, 0, none⟩) 0 0 (Nat.le_refl _) _ (Go.Src.ofSlice w ht a 0 c [] (by simp) (fun j u h => by simp at h) (fun u h => by cases h))
    exact ⟨_, _, _, hrun, ⟨by simp, .inr ⟨g, 0, #[], rfl, hB, hg, Nat.le_refl _, by simp [maxLen], by simp, by simp⟩⟩, Below.refl _ _⟩
  · obtain ⟨b, o, c, rfl, h2, h3, h4, h5⟩ := hr.open h0
    have hl : news.length = m * i.size := by rw [hsize]; exact hr.len
    have hrun := run_append_grow (P := P) w t ty e i z ht hi hz ⟨g, 0, none⟩ 0 0 [] (by simp) (fun j v h => by simp at h) ⟨b, o, none⟩ m c news hl (fun j v h => by rw [add_at]; exact h5 j v h) (by omega) (by omega) (by
      rw [Nat.zero_add, nextslicecap_zero h0, hby]; omega)
    simp only [Nat.zero_add, List.toArray, Array.empty_append] at hrun
    have hge := grownCap_ge w m 0 e
    have hcm : grownCap w m 0 e ≤ maxLen := grownCap_le_maxLen w m 0 e (by simp only [maxLen]; omega)
    refine ⟨_, _, _, hrun, ⟨hr.len, .inr ⟨w.heap.size, _, _, rfl, hB2, heap_alloc_new w.drew _, hge, hcm, ?_, ?_⟩⟩, (Below.refl _ _).drew.alloc (by simp) _⟩
    · have e1 := hr.len
      simp only [Array.size_append, List.size_toArray, size_zeroCells, hzs, e1, ← Nat.add_mul]
      congr 1
      omega
    · simp only [Array.toList_append]
      rw [← hr.len]
      exact List.take_left

abbrev nz : Obj := .cells #[.int .i64 0, .int .u64 0, .string ⟨#[]⟩, .slice none 0 0, .slice none 0 0] 34
theorem info32 : (Tryz.prog.info? 34).map (fun i => (i.zero, i.size, i.bytes)) = some (some (.agg #[.int .i64 0, .int .u64 0, .string ⟨#[]⟩, .slice none 0 0, .slice none 0 0]), 5, 80) := by kernel_rfl
theorem rd_below {X W : World} {size n : Nat} {v : Value} {cs : List Value} (h : Rd X size v n cs) (hb : Below X.heap.size X W) : Rd W size v n cs := h.below hb
/-- A node in the making. -/
def Sn (B g : Nat) (kk num : Int) (s : ByteArray) (ns : List ByteArray) (vN vH vI : Value) (ts : List J) (hs : List Value) (W : World) : Prop :=
  W.heap[g]? = some (.cells #[.int .i64 kk, .int .u64 num, .string s, vN, vH] 34 (0, 0)) ∧ W.ownsRow B 9 1 vN ns.length (strs ns) ∧ W.ownsRow B 34 5 vI ts.length (flat hs) ∧ NNs (Fr B g vN vI) W ts hs ∧
    some g ≠ vN.ownBlock ∧ some g ≠ vI.ownBlock ∧ B ≤ g
section
variable {W W' : World} {B g E : Nat} {kk num : Int} {s : ByteArray} {ns : List ByteArray} {vN vH vI v' v : Value} {ts : List J} {hs : List Value} {t : J}
theorem Sn.blk (h : Sn B g kk num s ns vN vH vI ts hs W) : W.heap[g]? = some (.cells #[.int .i64 kk, .int .u64 num, .string s, vN, vH] 34 (0, 0)) := h.1
theorem Sn.rowN (h : Sn B g kk num s ns vN vH vI ts hs W) : W.ownsRow B 9 1 vN ns.length (strs ns) := h.2.1
theorem Sn.rowI (h : Sn B g kk num s ns vN vH vI ts hs W) : W.ownsRow B 34 5 vI ts.length (flat hs) := h.2.2.1
theorem Sn.geB (h : Sn B g kk num s ns vN vH vI ts hs W) : B ≤ g := h.2.2.2.2.2.2
theorem Sn.below (h : Sn B g kk num s ns vN vH vI ts hs W) (hb : Below W.heap.size W W') : Sn B g kk num s ns vN vH vI ts hs W' := by
  obtain ⟨h2, h3, h4, h5, h6⟩ := h
  exact ⟨(hb.block g (Rv.lt_of_blk h2)).trans h2, own_below h3 hb, own_below h4 hb, h5.below hb, h6⟩
theorem Sn.push (h : Sn B g kk num s ns vN vH vI ts hs W) {five : List Value} (hown : W'.ownsRow B 34 5 v' (ts.length + 1) (flat hs ++ five)) (hg : W.grownBy W' vI.ownBlock) (hat : v'.ownBlock = vI.ownBlock ∨ ∃ k, v'.ownBlock = some k ∧ W.heap.size ≤ k)
    (hj : NN (fun x => E ≤ x) W t v) (hf : v.cells.toList = five) (hE : g < E) (hN : ∀ k, vN.ownBlock = some k → k < E) (hI : ∀ k, vI.ownBlock = some k → k < E) (hBE : B ≤ E) : Sn B g kk num s ns vN vH v' (ts ++ [t]) (hs ++ [v]) W' := by
  obtain ⟨h2, h3, h4, h5, h6, h7, h8⟩ := h
  have hlt := Rv.lt_of_blk h2
  have new : ∀ x, Fr B g vN vI x → x < W.heap.size → Fr B g vN v' x := fun x hx hl => ⟨hx.1, hx.2.1, hx.2.2.1, fun e => by
    rcases hat with ha | ⟨k, hk, hk2⟩
    · exact hx.2.2.2 (e.trans ha)
    · rw [hk] at e; injection e with e; omega⟩
  have key : ∀ {p : Nat → Prop} {t : J} {v : Value}, NN p W t v → (∀ x, x < W.heap.size → p x → Fr B g vN vI x) → NN (Fr B g vN v') W' t v := fun {p t v} hj hp =>
    ((hj.weak (q := fun x => Fr B g vN vI x ∧ x < W.heap.size) (fun x hl hx => ⟨hp x hl hx, hl⟩)).grown hg (fun x hx => hx.1.2.2.2)).weak (fun x _ hx => new x hx.1 hx.2)
  have hjs : NNs (Fr B g vN v') W' ts hs := ((h5.weak (q := fun x => Fr B g vN vI x ∧ x < W.heap.size) (fun x hl hx => ⟨hx, hl⟩)).grown hg (fun x hx => hx.1.2.2.2)).weak (fun x _ hx => new x hx.1 hx.2)
  refine ⟨blk_grown h2 hg h7, own_other h3 h4 (by decide) hg, ?_, hjs.push (key hj fun x hl hx => ⟨Nat.le_trans hBE hx, fun e => by have hx : E ≤ x := hx; omega, fun e => by have := hN x e.symm; have hx : E ≤ x := hx; omega, fun e => by have := hI x e.symm; have hx : E ≤ x := hx; omega⟩), h6, ?_, h8⟩
  · have e : flat [v] = five := by rw [← hf]; simp
    rw [List.length_append, flat_app, e]
    exact hown
  · intro e
    rcases hat with ha | ⟨k, hk, hk2⟩
    · exact h7 (e.trans ha)
    · rw [hk] at e; injection e with e; omega
theorem Sn.keepg (h : Sn B g kk num s ns vN vH vI ts hs W) (j : Nat) (u : Value) : (W.setCell ⟨g, j, none⟩ u).ownsRow B 9 1 vN ns.length (strs ns) ∧ (W.setCell ⟨g, j, none⟩ u).ownsRow B 34 5 vI ts.length (flat hs) ∧ NNs (Fr B g vN vI) (W.setCell ⟨g, j, none⟩ u) ts hs := by
  obtain ⟨h2, h3, h4, h5, h6, h7, h8⟩ := h
  have hg := grown_set (Below.refl _ W) g j u
  exact ⟨own_kept h3 hg (fun k hk e => h6 (by rw [← e, hk])), own_kept h4 hg (fun k hk e => h7 (by rw [← e, hk])), h5.grown hg (fun x hx e => by injection e with e; exact hx.2.1 e)⟩
theorem Sn.store4 (h : Sn B g kk num s ns vN vH vI ts hs W) : Sn B g kk num s ns vN vI vI ts hs (W.setCell ⟨g, 4, none⟩ vI) := by
  obtain ⟨k2, k3, k4⟩ := h.keepg 4 vI
  obtain ⟨h2, h3, h4, h5, h6⟩ := h
  exact ⟨Rv.set_cell1 4 vI h2, k2, k3, k4, h6⟩
theorem Sn.setNum {m : Int} (h : Sn B g kk num s ns vN vH vI ts hs W) : Sn B g kk m s ns vN vH vI ts hs (W.setCell ⟨g, 1, none⟩ (.int .u64 m)) := by
  obtain ⟨k2, k3, k4⟩ := h.keepg 1 (.int .u64 m)
  obtain ⟨h2, h3, h4, h5, h6⟩ := h
  exact ⟨Rv.set_cell1 1 (.int .u64 m) h2, k2, k3, k4, h6⟩
/-- As a node that is done. -/
theorem Sn.done {n : Int} {A A2 : Option Addr} {c c2 : Nat} (h : Sn B g kk num s ns (.slice A ns.length c) vH (.slice A2 ts.length c2) ts hs W) (hn : num = nb kk n) : NN (fun x => B ≤ x) W (.mk kk n s ns ts) (.agg #[.int .i64 kk, .int .u64 num, .string s, .slice A ns.length c, .slice A2 ts.length c2]) := by
  obtain ⟨h2, h3, h4, h5, h6, h7, h8⟩ := h
  subst hn
  exact ⟨A, c, A2, c2, hs, rfl, (Rp.own h3).weak (fun x _ hx => hx.1), (Rp.own h4).weak (fun x _ hx => hx.1), h5.weak (fun x _ hx => hx.1)⟩
theorem setn {k : Int} {c9 : Nat} {A9 : Option Addr} (h : W.heap[g]? = some nz) (ho : W.ownsRow B 9 1 (.slice A9 ns.length c9) ns.length (strs ns)) (hB : B ≤ g) :
    Sn B g k num s ns (.slice A9 ns.length c9) (.slice none 0 0) (.slice none 0 0) [] [] (((((W.setCell ⟨g, 0, none⟩ (.int .i64 k)).setCell ⟨g, 1, none⟩ (.int .u64 num)).setCell ⟨g, 2, none⟩ (.string s)).setCell ⟨g, 3, none⟩ (.slice A9 ns.length c9)).setCell ⟨g, 4, none⟩ (.slice none 0 0)) ∧
    Below B W (((((W.setCell ⟨g, 0, none⟩ (.int .i64 k)).setCell ⟨g, 1, none⟩ (.int .u64 num)).setCell ⟨g, 2, none⟩ (.string s)).setCell ⟨g, 3, none⟩ (.slice A9 ns.length c9)).setCell ⟨g, 4, none⟩ (.slice none 0 0)) ∧ True := by
  have hne : some g ≠ (Value.slice A9 ns.length c9).ownBlock := fun e => by
    rcases ho.2 with ⟨e2, _⟩ | ⟨k, cap, cur, e2, _, h3, _⟩
    · rw [e2] at e; simp [Value.ownBlock] at e
    · rw [e2] at e
      simp only [Value.ownBlock] at e
      injection e with e
      subst e
      rw [h] at h3
      injection h3 with h3
      injection h3 with _ h3 _
      exact absurd h3 (by decide)
  have gs := fun (W : World) j u => grown_set (Below.refl _ W) g j u
  have hgg := grown_then (grown_then (grown_then (grown_then (gs W 0 (.int .i64 k)) (gs _ 1 (.int .u64 num))) (gs _ 2 (.string s))) (gs _ 3 (.slice A9 ns.length c9))) (gs _ 4 (.slice none 0 0))
  refine ⟨⟨Rv.sets5 h _ _ _ _ _, own_kept ho hgg (fun k hk e => hne (by rw [← e, hk])), World.ownsRow_nil _ _ _ _, rfl, hne, (by simp [Value.ownBlock]), hB⟩, ?_, trivial⟩
  have sb : ∀ (V : World) (j : Nat) (u : Value), Below B W V → Below B W (V.setCell ⟨g, j, none⟩ u) := fun V j u h => h.setCell hB u
  exact sb _ _ _ (sb _ _ _ (sb _ _ _ (sb _ _ _ (sb _ _ _ (Below.refl _ _)))))
theorem five_nodes {p : Nat → Prop} {W : World} {t : J} {v : Value} (h : NN p W t v) : ∃ a c d e f, v = .agg #[a, c, d, e, f] ∧ ∀ u ∈ [a, c, d, e, f], u.oneCell' = true := by
  obtain ⟨A, c, A2, c2, e, _⟩ := h.five
  exact ⟨_, _, _, _, _, e, by simp [Value.oneCell']⟩
end
/-- What a call leaves alone: what was there, its argument's box, its result's block. -/
def Tq (w : World) (box : Obj) (W : World) : Prop := Below w.heap.size w W ∧ W.heap[w.heap.size]? = some box ∧ W.heap[w.heap.size + 1]? = some nz
theorem Tq.below {w W W' : World} {box : Obj} (h : Tq w box W) (hb : Below W.heap.size W W') : Tq w box W' :=
  ⟨h.1.trans (hb.mono h.1.size), (hb.block _ (Rv.lt_of_blk h.2.1)).trans h.2.1, (hb.block _ (Rv.lt_of_blk h.2.2)).trans h.2.2⟩
theorem Tq.grown {w W W' : World} {box : Obj} {row : Option Nat} (h : Tq w box W) (hg : W.grownBy W' row) (hr : ∀ k, row = some k → w.heap.size + 2 ≤ k) : Tq w box W' :=
  ⟨h.1.grown hg h.1.size (fun k hk => by have := hr k hk; omega), blk_grown h.2.1 hg (fun e => by have := hr _ e.symm; omega), blk_grown h.2.2 hg (fun e => by have := hr _ e.symm; omega)⟩
end Go.Proofs.YtmelgankbegjaaaGreatDoor.Js

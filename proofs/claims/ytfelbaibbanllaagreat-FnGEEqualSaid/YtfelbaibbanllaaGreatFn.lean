/- Floats that are whole numbers: the other sign, the greater one, the half. Plain arithmetic over the model's own words; no program in sight. -/
import Derived.Test.YtfelbaibbanllaaGreatFm
import GoSem.Op.Unary
set_option linter.unusedVariables false
set_option linter.unusedSimpArgs false
namespace Go.Proofs.YtfelbaibbanllaaGreat.F
open Ieee

theorem xor_add (v : Nat) (h : v < 2 ^ 63) : v ^^^ 2 ^ 63 = 2 ^ 63 + v := by
  refine Nat.eq_of_testBit_eq fun i => ?_
  rw [Nat.testBit_xor, Nat.testBit_two_pow]
  rcases Nat.lt_trichotomy i 63 with hi | hi | hi
  · rw [Nat.testBit_two_pow_add_gt hi, decide_eq_false (by omega), Bool.xor_false]
  · subst hi
    rw [Nat.testBit_two_pow_add_eq, Nat.testBit_lt_two_pow h]
    rfl
  · have h1 : v < 2 ^ i := Nat.lt_of_lt_of_le h (Nat.pow_le_pow_right (by decide) (by omega))
    have h2 : 2 ^ 63 + v < 2 ^ i := Nat.lt_of_lt_of_le (show 2 ^ 63 + v < 2 ^ 64 by omega) (Nat.pow_le_pow_right (by decide) (by omega))
    rw [Nat.testBit_lt_two_pow h1, Nat.testBit_lt_two_pow h2, decide_eq_false (by omega)]
    rfl
/-- The other sign, as a word. -/
def ng (w : Nat) : Nat := Op.negFloat .f64 w
theorem ng_eq (w : Nat) (h : w < 18446744073709551616) : ng w = if w < 9223372036854775808 then 9223372036854775808 + w else w - 9223372036854775808 := by
  have e : ng w = w ^^^ 2 ^ 63 := rfl
  rw [e]
  split
  · exact xor_add w (by omega)
  · have h2 : w = 2 ^ 63 + (w - 9223372036854775808) := by omega
    have h3 := xor_add (w - 9223372036854775808) (by omega)
    rw [← h2] at h3
    rw [← h3, Nat.xor_assoc, Nat.xor_self, Nat.xor_zero, h3]
theorem ng_lt (w : Nat) (h : w < 18446744073709551616) : ng w < 18446744073709551616 := by
  rw [ng_eq w h]
  split <;> omega
theorem read_ng (w : Nat) (h : w < 18446744073709551616) : dbl.read (ng w) = (dbl.read w).opposite := by
  have h1 : ng w % 9223372036854775808 = w % 9223372036854775808 := by rw [ng_eq w h]; split <;> omega
  have h2 : (ng w / 9223372036854775808 % 2 == 1) = !(w / 9223372036854775808 % 2 == 1) := by
    rw [ng_eq w h]
    split
    · rw [show (9223372036854775808 + w) / 9223372036854775808 % 2 = 1 by omega, show w / 9223372036854775808 % 2 = 0 by omega]; rfl
    · rw [show (w - 9223372036854775808) / 9223372036854775808 % 2 = 0 by omega, show w / 9223372036854775808 % 2 = 1 by omega]; rfl
  unfold Format.read
  rw [dbl_sw, h1, h2]
  simp only
  split
  · rfl
  · split
    · rfl
    · split <;> rfl
theorem ng_FV {w : Nat} {N : Int} (h : FV w N) (hw : w < 18446744073709551616) : FV (ng w) (-N) := by
  obtain ⟨s, m, t, r, e⟩ := opp_read h
  exact ⟨s, m, t, by rw [read_ng w hw]; exact r, e⟩
theorem ng_FI {w : Nat} {n : Int} (h : FI w n) (hw : w < 18446744073709551616) : FI (ng w) (-n) := by
  have := ng_FV h hw
  rw [← Int.neg_mul] at this
  exact this
/-- Its half, in halves of units: n times 2^1073 units. -/
def FH (w : Nat) (n : Int) : Prop := FV w (n * 2 ^ 1073)
theorem FH.eq {a b : Nat} {x y : Int} (ha : FH a x) (hb : FH b y) : (dbl.order a b == some .eq) = decide (x = y) := by
  rw [order_FV ha hb, compare_mul _ _ _ (Int.pow_pos (by decide))]
  by_cases h : x = y
  · subst h; simp [compare, compareOfLessAndEq]
  · rw [decide_eq_false h]
    simp only [compare, compareOfLessAndEq]
    split <;> simp [h]
theorem two_read : dbl.read 4611686018427387904 = .number false 4503599627370496 ((1023 : Nat) - 1074) := by decide +kernel
theorem few_half (n : Int) (k : Nat) (h : n.natAbs < 9007199254740992) (hk : k ≤ 2045) : Few (n * 2 ^ k).natAbs :=
  ⟨n.natAbs, k, h, hk, by rw [Int.natAbs_mul, two_abs]⟩
/-- Divided by two. -/
theorem half_gen {a : Nat} {s : Bool} {m t : Nat} (r : dbl.read a = .number s m ((t : Nat) - 1074)) (hm : m < 9007199254740992) (M : Nat) (hM : Few M) (h : m * 2 ^ t = 2 * M) : ∃ c, dbl.div a 4611686018427387904 = some c ∧ FV c (sg s M) := by
  unfold Format.div
  rw [r, two_read]
  simp only [Datum.quotient]
  have hf : dbl.fractionBits + 2 = 54 := by rw [dbl_frac]
  have hl4 : (4503599627370496 : Nat).log2 = 52 := by decide +kernel
  rw [hf, hl4, if_neg (by decide)]
  have hlog : m.log2 ≤ 52 := by
    rcases Nat.eq_zero_or_pos m with h0 | h0
    · subst h0; decide
    · have h3 := (Nat.log2_lt (show m ≠ 0 by omega) (k := 53)).2 (by omega)
      omega
  obtain ⟨d, hd⟩ : ∃ d, 54 + 52 - m.log2 = d + 52 := ⟨54 - m.log2, by omega⟩
  rw [hd, shl]
  have e52 : (2 : Nat) ^ (d + 52) = 2 ^ d * 4503599627370496 := by rw [Nat.pow_add]
  rw [e52, ← Nat.mul_assoc, Nat.mul_div_cancel _ (by decide), Nat.mul_mod_left]
  simp only [Option.map_some]
  refine ⟨_, rfl, ?_⟩
  simp only [Bool.xor_false]
  have hz : ((0 : Nat) != 0).toNat = 0 := rfl
  rw [hz, Nat.add_zero]
  refine write_FV s (2 * (m * 2 ^ d)) _ (d + 54) M hM (by omega) ?_
  rw [show ((t : Int) - 1074 - ((1023 : Nat) - 1074) - ((d + 52 : Nat) : Int) - 1 + 1074 + ((d + 54 : Nat) : Int)).toNat = t + 52 by omega]
  rw [Nat.pow_add 2 t 52, Nat.pow_add 2 d 54]
  have e1 : 2 * (m * 2 ^ d) * (2 ^ t * 2 ^ 52) = (m * 2 ^ t) * (2 ^ d * (2 * 2 ^ 52)) := by
    simp only [Nat.mul_comm, Nat.mul_left_comm, Nat.mul_assoc]
  rw [e1, h]
  have e2 : 2 * 2 ^ 52 * 2 = 2 ^ 54 := by decide
  rw [← e2]
  simp only [Nat.mul_comm, Nat.mul_left_comm, Nat.mul_assoc]
theorem pow_nat (t u : Nat) (h : t = u + 1) : (2 : Nat) ^ t = 2 ^ u * 2 := by rw [h, Nat.pow_succ]
theorem pow_int (t u : Nat) (h : t = u + 1) : (2 : Int) ^ t = 2 ^ u * 2 := by rw [h, Int.pow_succ]
theorem half_FI {a : Nat} {n : Int} (h : FI a n) (hn : n.natAbs < 9007199254740992) : ∃ c, dbl.div a 4611686018427387904 = some c ∧ FH c n := by
  rcases read_cases a with ⟨s, t, r⟩ | ⟨s, r⟩ | ⟨s, m, t, r, hm⟩
  · obtain ⟨s', m', t', r', _⟩ := h.read
    rw [r] at r'
    cases r'
  · obtain ⟨s', m', t', r', _⟩ := h.read
    rw [r] at r'
    cases r'
  · have hN : sg s (m * 2 ^ t) = n * 2 ^ 1074 := by
      obtain ⟨s', m', t', r', e'⟩ := h.read
      rw [r] at r'
      injection r' with a1 a2 a3
      have a4 : t = t' := by omega
      rw [a1, a2, a4]
      exact e'
    have hA : m * 2 ^ t = 2 * (n * 2 ^ 1073).natAbs := by
      have h1 := congrArg Int.natAbs hN
      rw [sg_natAbs, Int.natAbs_mul, two_abs] at h1
      rw [h1, Int.natAbs_mul, two_abs, pow_nat 1074 1073 rfl]
      simp only [Nat.mul_comm, Nat.mul_left_comm, Nat.mul_assoc]
    obtain ⟨c, h1, h2⟩ := half_gen r hm _ (few_half n 1073 hn (by decide)) hA
    refine ⟨c, h1, ?_⟩
    have e : sg s (n * 2 ^ 1073).natAbs = n * 2 ^ 1073 := by
      have hp : (0 : Int) < 2 ^ 1073 := Int.pow_pos (by decide)
      have h3 : sg s (m * 2 ^ t) = sg s (n * 2 ^ 1073).natAbs * 2 := by
        rw [hA, Nat.mul_comm 2]
        have := sg_scale s (n * 2 ^ 1073).natAbs 1
        exact this
      have h4 : n * 2 ^ 1074 = n * 2 ^ 1073 * 2 := by rw [pow_int 1074 1073 rfl, Int.mul_assoc]
      rw [h3, h4] at hN
      exact Int.eq_of_mul_eq_mul_right (by decide) hN
    rw [e] at h2
    exact h2
/-- The greater one of a number and of its opposite. -/
theorem max_FI {w : Nat} {n : Int} (h : FI w n) (hw : w < 18446744073709551616) : ∃ c, (c = w ∨ c = ng w) ∧ FI c n.natAbs ∧ (match dbl.order w (ng w) with | none => False | some .lt => c = ng w | some .gt => c = w | some .eq => c = (if (dbl.read w).neg then ng w else w)) := by
  have hn := ng_FI h hw
  rw [h.order hn]
  rcases Int.lt_trichotomy n (-n) with hlt | heq | hgt
  · have e : compare n (-n) = .lt := by simp [compare, compareOfLessAndEq, hlt]
    rw [e]
    refine ⟨ng w, .inr rfl, ?_, rfl⟩
    have : (n.natAbs : Int) = -n := by omega
    rw [this]; exact hn
  · have h0 : n = 0 := by omega
    subst h0
    have e : compare (0 : Int) (-0) = .eq := by decide
    rw [e]
    by_cases hs : (dbl.read w).neg = true
    · exact ⟨ng w, .inr rfl, hn, by simp [hs]⟩
    · exact ⟨w, .inl rfl, h, by simp [hs]⟩
  · have e : compare n (-n) = .gt := by
      have a1 : ¬ n < -n := by omega
      have a2 : n ≠ -n := by omega
      simp only [compare, compareOfLessAndEq, if_neg a1, if_neg a2]
    rw [e]
    refine ⟨w, .inl rfl, ?_, rfl⟩
    have : (n.natAbs : Int) = n := by omega
    rw [this]; exact h
end Go.Proofs.YtfelbaibbanllaaGreat.F

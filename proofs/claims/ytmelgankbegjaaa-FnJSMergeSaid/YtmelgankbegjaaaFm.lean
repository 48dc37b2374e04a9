/- Floats that are whole numbers, found out by cutting and by their size; halves. Plain arithmetic over the model's own words; no program in sight. -/
import Derived.Test.YtmelgankbegjaaaFl
set_option linter.unusedVariables false
set_option linter.unusedSimpArgs false
namespace Go.Proofs.Ytmelgankbegjaaa.F
open Ieee

/-- Cut towards zero, as a word. -/
def tr (x : Nat) : Nat := dbl.write ((dbl.read x).integral .zero)
theorem cut_low (neg : Bool) (n drop : Nat) : Toward.zero.cut neg n drop = n / 2 ^ drop := by
  unfold Toward.cut
  simp only [shl, Nat.one_mul]
  rcases Nat.lt_or_ge (n.log2 + 2) drop with h | h
  · rw [Nat.min_eq_right (by omega)]
    have h1 : n < 2 ^ (n.log2 + 2) := Nat.lt_of_lt_of_le Nat.lt_log2_self (Nat.pow_le_pow_right (by decide) (by omega))
    have h2 : n < 2 ^ drop := Nat.lt_of_lt_of_le h1 (Nat.pow_le_pow_right (by decide) (by omega))
    rw [Nat.div_eq_of_lt h1, Nat.div_eq_of_lt h2]
    simp
  · rw [Nat.min_eq_left h]
    simp
theorem abs_read (w : Nat) (hw : w < 18446744073709551616) : dbl.read (w % 9223372036854775808) = match dbl.read w with
    | .nan _ t => .nan false t
    | .infinity _ => .infinity false
    | .number _ m p => .number false m p := by
  unfold Format.read
  rw [dbl_sw, dbl_binade, dbl_inf, dbl_least]
  have h1 : w % 9223372036854775808 / 9223372036854775808 = 0 := by omega
  have h2 : w % 9223372036854775808 % 9223372036854775808 = w % 9223372036854775808 := by omega
  simp only [h1, h2]
  split <;> (try split) <;> (try split) <;> simp_all
/-- What a word stands for, in full. -/
theorem read_cases (w : Nat) : (∃ s t, dbl.read w = .nan s t) ∨ (∃ s, dbl.read w = .infinity s) ∨ ∃ s m t, dbl.read w = .number s m ((t : Nat) - 1074) ∧ m < 9007199254740992 := by
  unfold Format.read
  rw [dbl_sw, dbl_binade, dbl_inf, dbl_least]
  simp only
  generalize (w / 9223372036854775808 % 2 == 1) = g
  by_cases h1 : w % 9223372036854775808 < 4503599627370496
  · simp only [if_pos h1]
    exact .inr (.inr ⟨_, _, 0, rfl, by omega⟩)
  · simp only [if_neg h1]
    by_cases h2 : w % 9223372036854775808 < 9218868437227405312
    · simp only [if_pos h2]
      refine .inr (.inr ⟨g, 4503599627370496 + w % 9223372036854775808 % 4503599627370496, w % 9223372036854775808 / 4503599627370496 - 1, ?_, ?_⟩)
      · congr 1
        try omega
      · omega
    · simp only [if_neg h2]
      by_cases h3 : w % 9223372036854775808 = 9218868437227405312
      · simp only [if_pos h3]
        exact .inr (.inl ⟨_, rfl⟩)
      · simp only [if_neg h3]
        exact .inl ⟨_, _, rfl⟩

theorem cast_k (n k : Nat) : ((n * 2 ^ k : Nat) : Int) = (n : Int) * 2 ^ k := by rw [Int.natCast_mul, Int.natCast_pow]; rfl
theorem toNat_1074 : ((0 : Int) + 1074 + ((0 : Nat) : Int)).toNat = 1074 := by omega
theorem sg_bd (s : Bool) (k : Nat) (h : k ≤ 1000) : -1000 ≤ sg s k ∧ sg s k ≤ 1000 := by
  unfold sg
  split <;> omega
theorem write_k (s : Bool) (k t : Nat) (h1 : k < 9007199254740992) (h2 : t ≤ 2045) (ht : ((0 : Int) + 1074 + ((0 : Nat) : Int)).toNat = t) (hk0 : (-1074 : Int) ≤ 0 + ((0 : Nat) : Int)) : FV (dbl.write (.number s k 0)) (sg s (k * 2 ^ t)) :=
  write_FV s k 0 0 (k * 2 ^ t) ⟨k, t, h1, h2, rfl⟩ hk0 (by rw [ht, Nat.pow_zero, Nat.mul_one])
theorem w1000 : FI 4652007308841189376 1000 := of_int 1000 (by decide)
theorem order_nan {x y : Nat} {s : Bool} {t : Nat} (h : dbl.read x = .nan s t) : dbl.order x y = none := by
  unfold Format.order
  rw [h]
  cases dbl.read y <;> rfl
theorem compare_eq {a b : Int} (h : compare a b = .eq) : a = b := by
  simp only [compare, compareOfLessAndEq] at h
  split at h
  · cases h
  · split at h
    · assumption
    · cases h
theorem compare_gt {a b : Int} (h : compare a b ≠ .gt) : a ≤ b := by
  simp only [compare, compareOfLessAndEq] at h
  split at h
  · omega
  · split at h
    · omega
    · exact absurd rfl h
/-- A float that cutting leaves as it is, and that is not above 1000 either way, is a whole number. -/
theorem small (x : Nat) (hx : x < 18446744073709551616) (h1 : (dbl.order x (tr x) == some .eq) = true) (h2 : (dbl.order (x % 9223372036854775808) 4652007308841189376 == some .gt) = false) : ∃ n : Int, FI x n ∧ -1000 ≤ n ∧ n ≤ 1000 := by
  have h1 : dbl.order x (tr x) = some .eq := by simpa using h1
  have h2 : dbl.order (x % 9223372036854775808) 4652007308841189376 ≠ some .gt := by simpa using h2
  rcases read_cases x with ⟨s, t, h⟩ | ⟨s, h⟩ | ⟨s, m, t, h, hm⟩
  · rw [order_nan h] at h1
    cases h1
  · exfalso
    apply h2
    have ha := abs_read x hx
    rw [h] at ha
    obtain ⟨u, n, j, hr, _⟩ := w1000.read
    unfold Format.order
    rw [ha, hr]
    rfl
  · have hN : FV x (sg s (m * 2 ^ t)) := ⟨s, m, t, h, rfl⟩
    have hA : FV (x % 9223372036854775808) (sg false (m * 2 ^ t)) := ⟨false, m, t, by rw [abs_read x hx, h], rfl⟩
    rw [order_FV hA w1000] at h2
    have h2 : (m * 2 ^ t : Nat) ≤ 1000 * 2 ^ 1074 := by
      have h3 := compare_gt (fun e => h2 (by rw [e]))
      have e : (1000 : Int) * 2 ^ 1074 = ((1000 * 2 ^ 1074 : Nat) : Int) := (cast_k 1000 1074).symm
      rw [e] at h3
      exact Int.ofNat_le.1 h3
    obtain ⟨k, hk, hk2⟩ : ∃ k : Nat, (dbl.read x).integral .zero = .number s k 0 ∧ k * 2 ^ 1074 ≤ m * 2 ^ t := by
      rw [h]
      refine ⟨_, rfl, ?_⟩
      rw [cut_low, shl]
      by_cases hp : 1074 ≤ t
      · rw [show ((t : Int) - 1074).toNat = t - 1074 by omega, show (-((t : Int) - 1074)).toNat = 0 by omega, Nat.pow_zero, Nat.div_one, Nat.mul_assoc, ← Nat.pow_add 2 (t - 1074) 1074, show t - 1074 + 1074 = t by omega]
        exact Nat.le_refl _
      · rw [show ((t : Int) - 1074).toNat = 0 by omega, show (-((t : Int) - 1074)).toNat = 1074 - t by omega, Nat.pow_zero, Nat.mul_one]
        have e : (2 : Nat) ^ 1074 = 2 ^ (1074 - t) * 2 ^ t := by rw [← Nat.pow_add]; congr 1; omega
        rw [e, ← Nat.mul_assoc]
        exact Nat.mul_le_mul_right _ (Nat.div_mul_le_self _ _)
    have hk3 : k ≤ 1000 := Nat.le_of_mul_le_mul_right (Nat.le_trans hk2 h2) (Nat.two_pow_pos 1074)
    have hk1 : k < 9007199254740992 := Nat.lt_of_le_of_lt hk3 (by decide)
    have hk0 : (-1074 : Int) ≤ 0 + ((0 : Nat) : Int) := by decide
    have hT : FV (tr x) (sg s (k * 2 ^ 1074)) := by
      unfold tr
      rw [hk]
      exact write_k s k 1074 hk1 (by decide) toNat_1074 hk0
    rw [order_FV hN hT] at h1
    have he := compare_eq (Option.some.inj h1)
    refine ⟨sg s k, ?_, ?_⟩
    · unfold FI
      rw [← sg_scale, ← he]
      exact hN
    · exact sg_bd s k hk3
end Go.Proofs.Ytmelgankbegjaaa.F

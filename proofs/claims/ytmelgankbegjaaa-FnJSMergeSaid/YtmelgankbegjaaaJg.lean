/- The bits of a whole number as a float: what the law's own reckoning gives. Conditions: those written at each lemma. -/
import Derived.Test.YtmelgankbegjaaaJf
import Derived.Laws.BitsLemmas
import Derived.Laws.Bits64
set_option linter.unusedVariables false
set_option linter.unusedSimpArgs false
set_option maxRecDepth 100000
set_option maxHeartbeats 4000000
namespace Go.Proofs.Ytmelgankbegjaaa.Js
open Go.RowKit Go.Proofs.Ytmelgankbegjaaa.B

theorem pow_step (m i L : Nat) (h0 : m ≠ 0) (hL : m * 2 ^ L < 9007199254740992) (h : i < L) : m * 2 ^ i < 4503599627370496 := by
  have h1 : m * 2 ^ (i + 1) ≤ m * 2 ^ L := Nat.mul_le_mul_left m (Nat.pow_le_pow_right (by omega) (by omega))
  rw [Nat.pow_succ, ← Nat.mul_assoc] at h1
  omega
theorem u64_64 (n : Int) (h₀ : 0 ≤ n) (h₁ : n < 2 ^ 64) : IntKind.u64.wrap n = n := by rw [IntKind.wrap_u64]; omega
theorem or_lo (i a b : Nat) (hb : b < 2 ^ i) (hs : a * 2 ^ i < 2 ^ 64) (hb2 : b < 2 ^ 64) : bits .or .u64 ((a * 2 ^ i : Nat) : Int) (b : Int) = ((a * 2 ^ i + b : Nat) : Int) := by
  have h := (bits_nat .u64 64 (by decide) u64_64 (a * 2 ^ i) b hs hb2).2
  rw [h, ← Nat.shiftLeft_eq, Nat.shiftLeft_add_eq_or_of_lt hb]
theorem put_word (sn : Int) (hs : sn = 0 ∨ sn = 9223372036854775808) (i : Nat) (hi : i ≤ 52) (x : Int) (hx : 4503599627370496 ≤ x) (hx2 : x < 9007199254740992) :
    bits .or .u64 (bits .or .u64 sn ((1075 - (i : Int)) * 4503599627370496)) (bits .and .u64 x 4503599627370495) = sn + (1075 - (i : Int)) * 4503599627370496 + (x - 4503599627370496) := by
  have hm := bits_mask .u64 64 (by decide) u64_64 52 (by omega) x (by omega) (by omega)
  have e1 : ((2 : Int) ^ 52 - 1) = 4503599627370495 := by decide
  have e2 : ((2 : Int) ^ 52) = 4503599627370496 := by decide
  rw [e1, e2] at hm
  rw [hm, show x % 4503599627370496 = ((x - 4503599627370496).toNat : Int) by omega]
  have h52 : (2 : Nat) ^ 52 = 4503599627370496 := by decide
  have h63 : (2 : Nat) ^ 63 = 9223372036854775808 := by decide
  have h64 : (2 : Nat) ^ 64 = 18446744073709551616 := by decide
  rcases hs with rfl | rfl
  · have a := or_lo 63 0 ((1075 - i) * 4503599627370496) (by rw [h63]; omega) (by rw [Nat.zero_mul, h64]; omega) (by rw [h64]; omega)
    have b := or_lo 52 (1075 - i) (x - 4503599627370496).toNat (by rw [h52]; omega) (by rw [h52, h64]; omega) (by rw [h64]; omega)
    rw [h52] at b
    rw [show (((0 * 2 ^ 63 : Nat) : Nat) : Int) = 0 by simp, show (0 * 2 ^ 63 + (1075 - i) * 4503599627370496 : Nat) = (1075 - i) * 4503599627370496 by omega] at a
    rw [show (1075 - (i : Int)) * 4503599627370496 = (((1075 - i) * 4503599627370496 : Nat) : Int) by omega, a, b]
    omega
  · have a := or_lo 63 1 ((1075 - i) * 4503599627370496) (by rw [h63]; omega) (by rw [h64, h63]; omega) (by rw [h64]; omega)
    have b := or_lo 52 (2048 + (1075 - i)) (x - 4503599627370496).toNat (by rw [h52]; omega) (by rw [h52, h64]; omega) (by rw [h64]; omega)
    rw [h52] at b
    rw [h63, show (((1 * 9223372036854775808 : Nat) : Nat) : Int) = 9223372036854775808 by omega, show (1 * 9223372036854775808 + (1075 - i) * 4503599627370496 : Nat) = (2048 + (1075 - i)) * 4503599627370496 by omega] at a
    rw [show (1075 - (i : Int)) * 4503599627370496 = (((1075 - i) * 4503599627370496 : Nat) : Int) by omega, a, b]
    omega
theorem bits_pos (sn : Int) (n m : Int) (hm1 : 1 ≤ m) (hm2 : m ≤ 2147483648) (hn : sn = 0 ∧ n = m ∨ sn = 9223372036854775808 ∧ n = -m) (w : World) :
    Calls Try.prog 17 #[.int .i64 n] w fun e w' => e = .returned (.int .u64 (jw n)) ∧ w' = w := by
  obtain ⟨m, rfl⟩ : ∃ k : Nat, m = k := ⟨m.toNat, by omega⟩
  have hN := norm52 m (by omega) (by omega)
  have hlog := log_le m (by omega)
  have hjw : (jw n : Int) = sn + (1075 - (52 - m.log2 : Nat)) * 4503599627370496 + ((m * 2 ^ (52 - m.log2) : Nat) - 4503599627370496) := by
    have hab : n.natAbs = m := by omega
    unfold jw
    rw [if_neg (by omega), hab]
    unfold Ieee.Format.word
    rw [F.dbl_sw]
    have hL : 52 - m.log2 ≤ 52 := Nat.sub_le _ _
    generalize m * 2 ^ (52 - m.log2) = x at *
    generalize 52 - m.log2 = L at *
    rcases hn with ⟨h1, h2⟩ | ⟨h1, h2⟩
    · rw [decide_eq_false (by omega)]
      simp
      omega
    · rw [decide_eq_true (by omega)]
      simp
      omega
  rw [hjw]
  have HP := Lib.hid (fun i h => pow_step m i (52 - m.log2) (by omega) hN.2 h)
  have HN := Lib.hid hN
  have hL : 52 - m.log2 ≤ 52 := Nat.sub_le _ _
  generalize 52 - m.log2 = L at *
  clear hjw hN hlog
  rcases hn with ⟨rfl, rfl⟩ | ⟨rfl, rfl⟩
  all_goals
    go_enter Try.func17, Try.ntmps17
    go_upto_region 7 with fail
    go_loopw [4, 5] (fun v4 v5 wr => ∃ (i : Nat) (x : Int), v4 = .int .u64 x ∧ v5 = .int .u64 (1075 - i) ∧ i ≤ L ∧ Hid (x = (m * 2 ^ i : Nat)) ∧ wr = w) (fun _ v5 _ => (intOf v5).toNat)
    case atStart => exact ⟨0, _, rfl, rfl, Nat.zero_le _, Lib.hid (by simp), rfl⟩
    case round =>
      obtain ⟨i, x, rfl, rfl, hi, HX, rfl⟩ := hrel
      have hx0 : 0 ≤ x := by rw [HX.out]; exact Int.natCast_nonneg _
      by_cases hlt : i < L
      · have hx1 : x < 4503599627370496 := by have := HP.out i hlt; rw [HX.out]; omega
        go_wp2
        go_roundw
        case rel => exact ⟨i + 1, x * 2, rfl, by congr 1; omega, by omega, Lib.hid (by rw [HX.out, Nat.pow_succ, ← Nat.mul_assoc]; omega), trivial⟩
        case measure => simp [intOf]; omega
      · obtain rfl : i = L := by omega
        have hx1 : 4503599627370496 ≤ x ∧ x < 9007199254740992 := by have := HN.out; rw [HX.out]; omega
        clear HN HP
        rename World => W0
        go_upto_region 9 with fail
        go_loopw [4, 5] (fun v4 v5 wr => v4 = .int .u64 x ∧ v5 = .int .u64 (1075 - i) ∧ Hid (wr = W0)) (fun _ v5 _ => (intOf v5).toNat)
        case atStart => exact ⟨rfl, rfl, Lib.hid rfl⟩
        case round =>
          obtain ⟨rfl, rfl, HW⟩ := hrel
          have HW := HW.out
          subst HW
          go_wp2
          go_ret
          have hpw0 := put_word 0 (.inl rfl) i hL x hx1.1 hx1.2
          have hpw1 := put_word 9223372036854775808 (.inr rfl) i hL x hx1.1 hx1.2
          have hxe : x = (m : Int) * 2 ^ i := by rw [HX.out]; simp
          generalize (m : Int) * 2 ^ i = y at *
          subst hxe
          refine ⟨?_, rfl⟩
          first
            | exact congrArg (fun z => Ending.returned (Value.int .u64 z)) (hpw0.trans (by omega))
            | exact congrArg (fun z => Ending.returned (Value.int .u64 z)) (hpw1.trans (by omega))
theorem bits_any (n : Int) (h1 : -2147483648 ≤ n) (h2 : n ≤ 2147483647) (w : World) : Calls Try.prog 17 #[.int .i64 n] w fun e w' => e = .returned (.int .u64 (jw n)) ∧ w' = w := by
  rcases show n = 0 ∨ 1 ≤ n ∨ n ≤ -1 by omega with rfl | h | h
  · go_enter Try.func17, Try.ntmps17
    go_wp2
    go_ret
    exact ⟨rfl, rfl⟩
  · exact bits_pos 0 n n h (by omega) (.inl ⟨rfl, rfl⟩) w
  · exact bits_pos 9223372036854775808 n (-n) (by omega) (by omega) (.inr ⟨rfl, by omega⟩) w
end Go.Proofs.Ytmelgankbegjaaa.Js

/- The walks of sets: their bits out of a sorted slice, copies. Conditions: the listed table of math/bits reads as listed; those written at each lemma. -/
import Derived.Test.YtbhlhgfgkiclgaaDoorSfa
import Derived.Laws.BitsAllLaws
set_option linter.unusedVariables false
set_option linter.unusedSimpArgs false
set_option maxRecDepth 100000
set_option maxHeartbeats 2000000
namespace Go.Proofs.YtbhlhgfgkiclgaaDoor.Set
open Go.RowKit Go.Proofs.YtbhlhgfgkiclgaaDoor.B

/-! ### plain -/
theorem srt_uni {xs : List Int} (h : Srt xs) : ∀ (ys : List Int), Srt (uni xs ys) ∧ ∀ u, u ∈ uni xs ys ↔ u ∈ xs ∨ u ∈ ys := by
  intro ys
  have hk : ∀ k, k ≤ ys.length → Srt (uni xs (ys.take k)) ∧ ∀ u, u ∈ uni xs (ys.take k) ↔ u ∈ xs ∨ u ∈ ys.take k := by
    intro k
    induction k with
    | zero => intro _; exact ⟨h, fun u => by simp [uni]⟩
    | succ k ih =>
      intro hk
      obtain ⟨h1, h2⟩ := ih (by omega)
      rw [take_snoc ys k (by omega), uni_snoc]
      refine ⟨srt_ins h1 _, fun u => ?_⟩
      rw [mem_ins h1, h2, List.mem_append, List.mem_singleton, or_assoc]
  have := hk ys.length (Nat.le_refl _)
  rwa [List.take_length] at this
theorem srt_filter {xs : List Int} (h : Srt xs) (f : Int → Bool) : Srt (xs.filter f) := List.Pairwise.filter _ h
theorem bitsL_or2 (m n : Nat) : bitsL (m ||| n) = uni (bitsL m) (bitsL n) := by
  obtain ⟨h1, h2⟩ := srt_uni (srt_bitsL m) (bitsL n)
  refine srt_ext (srt_bitsL _) h1 fun u => ?_
  rw [h2, mem_bitsL, mem_bitsL, mem_bitsL]
  constructor
  · rintro ⟨i, hi, ht, rfl⟩
    rw [Nat.testBit_or, Bool.or_eq_true] at ht
    rcases ht with ht | ht
    · exact .inl ⟨i, hi, ht, rfl⟩
    · exact .inr ⟨i, hi, ht, rfl⟩
  · rintro (⟨i, hi, ht, rfl⟩ | ⟨i, hi, ht, rfl⟩)
    · exact ⟨i, hi, by rw [Nat.testBit_or, ht]; rfl, rfl⟩
    · exact ⟨i, hi, by rw [Nat.testBit_or, ht]; simp, rfl⟩
theorem has_nat (n i : Nat) (hi : i < 64) : hasB (bitsL n) (i : Int) = n.testBit i := by
  rw [Bool.eq_iff_iff, hasB_iff (srt_bitsL n), mem_bitsL]
  constructor
  · rintro ⟨j, _, ht, e⟩
    have : i = j := by omega
    rw [this]; exact ht
  · intro h; exact ⟨i, hi, h, rfl⟩
theorem bitsL_and (m n : Nat) : bitsL (m &&& n) = (bitsL m).filter fun u => hasB (bitsL n) u == true := by
  refine srt_ext (srt_bitsL _) (srt_filter (srt_bitsL m) _) fun u => ?_
  rw [List.mem_filter, mem_bitsL, mem_bitsL]
  constructor
  · rintro ⟨i, hi, ht, rfl⟩
    rw [Nat.testBit_and, Bool.and_eq_true] at ht
    exact ⟨⟨i, hi, ht.1, rfl⟩, by rw [has_nat n i hi, ht.2]; rfl⟩
  · rintro ⟨⟨i, hi, ht, rfl⟩, h⟩
    rw [has_nat n i hi] at h
    exact ⟨i, hi, by rw [Nat.testBit_and, ht, beq_iff_eq.1 h]; rfl, rfl⟩
theorem bitsL_not (m n : Nat) (hn : n < 18446744073709551616) : bitsL (m &&& (18446744073709551615 - n)) = (bitsL m).filter fun u => hasB (bitsL n) u == false := by
  have hb : ∀ i, i < 64 → (18446744073709551615 - n).testBit i = !n.testBit i := fun i hi => by
    have h := Nat.testBit_two_pow_sub_succ (n := 64) (x := n) (by omega) i
    rw [show 2 ^ 64 - (n + 1) = 18446744073709551615 - n by omega] at h
    rw [h, decide_eq_true hi, Bool.true_and]
  refine srt_ext (srt_bitsL _) (srt_filter (srt_bitsL m) _) fun u => ?_
  rw [List.mem_filter, mem_bitsL, mem_bitsL]
  constructor
  · rintro ⟨i, hi, ht, rfl⟩
    rw [Nat.testBit_and, Bool.and_eq_true, hb i hi] at ht
    exact ⟨⟨i, hi, ht.1, rfl⟩, by rw [has_nat n i hi]; simpa using ht.2⟩
  · rintro ⟨⟨i, hi, ht, rfl⟩, h⟩
    rw [has_nat n i hi] at h
    exact ⟨i, hi, by rw [Nat.testBit_and, ht, hb i hi, beq_iff_eq.1 h]; rfl, rfl⟩
theorem bitsL_inj {m n : Nat} (hm : m < 18446744073709551616) (hn : n < 18446744073709551616) (h : bitsL m = bitsL n) : m = n := by
  apply Nat.eq_of_testBit_eq
  intro i
  rcases Nat.lt_or_ge i 64 with hi | hi
  · rw [← has_nat m i hi, ← has_nat n i hi, h]
  · have h1 : m < 2 ^ i := Nat.lt_of_lt_of_le (show m < 2 ^ 64 by omega) (Nat.pow_le_pow_right (by omega) hi)
    have h2 : n < 2 ^ i := Nat.lt_of_lt_of_le (show n < 2 ^ 64 by omega) (Nat.pow_le_pow_right (by omega) hi)
    rw [Nat.testBit_lt_two_pow h1, Nat.testBit_lt_two_pow h2]
/-- The numbers below 64. -/
def low (ys : List Int) : List Int := ys.filter fun u => decide (u < 64)
theorem low_take {ys : List Int} (h : Srt ys) {n k : Nat} (hk : k ≤ ys.length) (hb : bitsL n = ys.take k) (hs : ∀ y, ys[k]? = some y → 64 ≤ y) : low ys = bitsL n := by
  refine srt_ext (srt_filter h _) (srt_bitsL n) fun u => ?_
  unfold low
  rw [List.mem_filter, hb]
  constructor
  · rintro ⟨hu, h64⟩
    obtain ⟨i, hi, rfl⟩ := List.getElem_of_mem hu
    rcases Nat.lt_or_ge i k with h1 | h1
    · exact List.mem_take_iff_getElem.2 ⟨i, by omega, rfl⟩
    · have h2 := hs _ (List.getElem?_eq_getElem (show k < ys.length by omega))
      have h3 := srt_le h k i (by omega) hi h1
      simp at h64
      omega
  · intro hu
    refine ⟨List.mem_of_mem_take hu, ?_⟩
    rw [← hb] at hu
    have := nn_bitsL n u hu
    simp
    omega
def big (ys : List Int) : Bool := decide (64 ≤ ys.getLast?.getD (-9223372036854775808))
theorem big_iff {ys : List Int} (h : Srt ys) : big ys = true ↔ ∃ u ∈ ys, 64 ≤ u := by
  unfold big
  rw [decide_eq_true_iff]
  rcases Nat.eq_zero_or_pos ys.length with h0 | h0
  · obtain rfl : ys = [] := List.eq_nil_of_length_eq_zero h0
    simp
  · have e : ys.getLast?.getD (-9223372036854775808) = ys[ys.length - 1] := by rw [List.getLast?_eq_getElem?, List.getElem?_eq_getElem (by omega)]; rfl
    rw [e]
    constructor
    · intro h1; exact ⟨_, List.getElem_mem _, h1⟩
    · rintro ⟨u, hu, h1⟩
      obtain ⟨i, hi, rfl⟩ := List.getElem_of_mem hu
      have := srt_le h i (ys.length - 1) hi (by omega) (by omega)
      omega

/-! ### walks -/
/-- What largeToSmall hands back. -/
def Smalled (ys : List Int) (w : World) (e : Ending) (w' : World) : Prop := ∃ n : Nat, e = .returned (.tuple #[.int .u64 n, .bool (big ys)]) ∧ n < 18446744073709551616 ∧ low ys = bitsL n ∧ Dr w w'
theorem toSmall_any (B q p : Nat) (t : TypeId) (ys : List Int) (w : World) (hq : w.heap[q]? = some (.cells #[.int .u64 0, .pointer (some ⟨p, 0, none⟩)] t (0, 0))) (hs : Sp w B p ys) (hsr : Srt ys) (hbd : ∀ u ∈ ys, 0 ≤ u ∧ u ≤ 900000) :
    Calls Tryd.prog 61 #[.pointer (some ⟨q, 0, none⟩)] w fun e w' => Smalled ys w e w' := by
  obtain ⟨c0, c1, _, _⟩ := cells_two hq
  have p1 := ptr_eq p 0
  have LB := Lib.hid (fun x => lower_any B p ys x w hs)
  have MI := Lib.hid (min_any B p ys w hs)
  have MX := Lib.hid (max_any B p ys w hs)
  have HS := Lib.hid hsr
  have HD := Lib.hid hbd
  have H0 := Lib.hid (nx_zero (fun u hu => (hbd u hu).1))
  have hmin : (0 : Int) ≤ orMax ys[0]? := by
    rcases h : ys[0]? with _ | y
    · show (0 : Int) ≤ 9223372036854775807; omega
    · exact (hbd y (List.mem_of_getElem? h)).1
  have HM := Lib.hid hmin
  clear hq hs hsr hbd hmin
  go_enter Tryd.func61, Tryd.ntmps61
  go_wp2_with (first
    | (go_at_call 37; (with_reducible refine (LB.out _).mono ?_); rintro e w1 ⟨rfl, rfl⟩))
  rw [H0.out]
  go_loopg [2, 4] ys.length (fun kq v2 v4 wr => ∃ k n : Nat, kq + k = ys.length ∧ v2 = .int .u64 n ∧ n < 18446744073709551616 ∧ v4 = .int .i64 (orMax ys[k]?) ∧ Hid (bitsL n = ys.take k) ∧ w = wr)
  case atStart => exact ⟨0, 0, by omega, rfl, by omega, rfl, Lib.hid (by rw [bitsL_zero]; rfl), rfl⟩
  case round =>
    obtain ⟨k, n, hk, rfl, hn, rfl, HB, rfl⟩ := hrel
    rcases hy : ys[k]? with _ | y
    · have HL : Hid (low ys = bitsL n) := Lib.hid (low_take HS.out (by omega) HB.out (fun y h => by rw [hy] at h; cases h))
      have ho : orMax (none : Option Int) = 9223372036854775807 := rfl
      rw [ho]
      obtain ⟨mn, hmn⟩ : ∃ mn, mn = orMax ys[0]? := ⟨_, rfl⟩
      have hm0 : 0 ≤ mn := by rw [hmn]; exact HM.out
      rw [← hmn] at MI
      have HMN := Lib.hid hmn
      have HBG : Hid (big ys = decide (64 ≤ ys.getLast?.getD (-9223372036854775808))) := Lib.hid rfl
      generalize ys.getLast?.getD (-9223372036854775808) = mx at *
      clear ho hmn hy
      by_cases hmx : 64 ≤ mx
      all_goals
        go_wp2_with (first
          | (go_at_call 64; (with_reducible refine MI.out.mono ?_); rintro e w2 ⟨rfl, rfl⟩)
          | (go_at_call 69; (with_reducible refine MX.out.mono ?_); rintro e w3 ⟨rfl, hd⟩; have HDR := Lib.hid hd; clear hd))
        go_ret2
        refine ⟨n, ?_, hn, HL.out, HDR.out⟩
        rw [HBG.out]
        first | (simp [hmx]; done) | (simp [hmx]; omega)
    · by_cases h64 : y < 64
      · have hkl : k < ys.length := by
          rcases Nat.lt_or_ge k ys.length with h | h
          · exact h
          · rw [List.getElem?_eq_none h] at hy; cases hy
        obtain ⟨gk, rfl⟩ : ∃ g, gk = g + 1 := ⟨gk - 1, by omega⟩
        have hye : ys[k] = y := by rw [List.getElem?_eq_getElem hkl] at hy; exact Option.some.inj hy
        have hyb := HD.out y (List.mem_of_getElem? hy)
        obtain ⟨j, rfl⟩ : ∃ j : Nat, y = j := ⟨y.toNat, by omega⟩
        have HO := Lib.hid (or_bit n j hn (by omega))
        have HT : Hid (bitsL (n ||| 2 ^ j) = ys.take (k + 1)) := Lib.hid (by rw [bitsL_or n j (by omega), HB.out, ← hye, ins_take HS.out k hkl])
        have HNX : Hid (nx ys ((j : Int) + 1) = ys[k + 1]?) := Lib.hid (by have h := nx_succ HS.out k hkl; rw [hye] at h; exact h)
        have ho : orMax (some (j : Int)) = (j : Int) := rfl
        rw [ho]
        have hj : j < 64 := by omega
        clear ho hy hye
        go_wp2_with (first
          | (go_at_call 37; (with_reducible refine (LB.out _).mono ?_); rintro e w1 ⟨rfl, rfl⟩))
        rw [HNX.out, HO.out.1]
        go_roundg gk
        case measure => omega
        case rel => exact ⟨k + 1, n ||| 2 ^ j, by omega, rfl, HO.out.2, rfl, HT, rfl⟩
      · have HL : Hid (low ys = bitsL n) := Lib.hid (low_take HS.out (by omega) HB.out (fun z h => by rw [hy] at h; cases h; omega))
        have hyb := HD.out y (List.mem_of_getElem? hy)
        have ho : orMax (some y) = y := rfl
        rw [ho]
        obtain ⟨mn, hmn⟩ : ∃ mn, mn = orMax ys[0]? := ⟨_, rfl⟩
        have hm0 : 0 ≤ mn := by rw [hmn]; exact HM.out
        rw [← hmn] at MI
        have HMN := Lib.hid hmn
        have HBG : Hid (big ys = decide (64 ≤ ys.getLast?.getD (-9223372036854775808))) := Lib.hid rfl
        generalize ys.getLast?.getD (-9223372036854775808) = mx at *
        clear ho hmn hy
        by_cases hmx : 64 ≤ mx
        all_goals
          go_wp2_with (first
            | (go_at_call 64; (with_reducible refine MI.out.mono ?_); rintro e w2 ⟨rfl, rfl⟩)
            | (go_at_call 69; (with_reducible refine MX.out.mono ?_); rintro e w3 ⟨rfl, hd⟩; have HDR := Lib.hid hd; clear hd))
          go_ret2
          refine ⟨n, ?_, hn, HL.out, HDR.out⟩
          rw [HBG.out]
          first | (simp [hmx]; done) | (simp [hmx]; omega)

end Go.Proofs.YtbhlhgfgkiclgaaDoor.Set

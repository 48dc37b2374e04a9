/- The walks of FnDYDates: a number of days as a year and the days of it that are over, and these as a month and a day. Conditions: the table of the months' days reads as listed; those written at each lemma. -/
import Derived.Test.YtghigcmjldjljaaDoorDays
set_option linter.unusedVariables false
set_option linter.unusedSimpArgs false
set_option maxHeartbeats 4000000
set_option maxRecDepth 100000
namespace Go.Proofs.YtghigcmjldjljaaDoor.Days
open Go.RowKit Go.Proofs.YtghigcmjldjljaaDoor.B

/-- Leap years among the first n. -/
def lps (n : Int) : Int := n / 4 - n / 100 + n / 400
theorem lps_next (i : Int) (h : 1 ≤ i) : lps i = lps (i - 1) + if lpB i then 1 else 0 := by
  unfold lps lpB
  by_cases h4 : (i % 4 = 0 ∧ i % 100 ≠ 0) ∨ i % 400 = 0
  · rw [decide_eq_true h4]; simp only [if_true]; omega
  · rw [decide_eq_false h4]; simp only [Bool.false_eq_true, if_false]; omega
theorem lps_bd (n : Int) (h : 0 ≤ n) (h2 : n ≤ 100000) : 0 ≤ lps n ∧ lps n ≤ 25000 := by unfold lps; omega

theorem before_any (y : Int) (w : World) (h1 : 1 ≤ y) (h2 : y ≤ 100000) :
    Calls Tryd.prog 12 #[.int .i64 y] w fun e w' => e = .returned (.int .i64 (365 * y + lps (y - 1))) ∧ w = w' := by
  go_enter Tryd.func12, Tryd.ntmps12
  go_wp2
  go_loop [3, 4] (fun n i => ∃ k : Int, 1 ≤ k ∧ k ≤ y ∧ i = .int .i64 k ∧ n = .int .i64 (365 * y + lps (k - 1))) (fun _ i => (y - intOf i).toNat)
  case atStart => exact ⟨1, by omega, h1, rfl, by rw [show lps (1 - 1) = 0 by rfl]; simp⟩
  case round =>
    obtain ⟨k, k1, k2, rfl, rfl⟩ := hrel
    have hb := lps_bd (k - 1) (by omega) (by omega)
    by_cases hlt : k < y
    · have HN := Lib.hid (lps_next k k1)
      have S := fun W => sleap_any k W (by omega) (by omega)
      generalize lpB k = b at HN S
      generalize hq : lps (k - 1) = q at HN hb ⊢
      clear hq
      cases b
      · go_wp2_with (first | (go_at_call 8; refine (S _).mono ?_; rintro e w' ⟨rfl, rfl⟩))
        go_round
        case rel => exact ⟨k + 1, by omega, by omega, rfl, by rw [show k + 1 - 1 = k by omega, HN.out]; simp⟩
        case measure => simp [intOf]; omega
      · go_wp2_with (first | (go_at_call 8; refine (S _).mono ?_; rintro e w' ⟨rfl, rfl⟩))
        go_round
        case rel => exact ⟨k + 1, by omega, by omega, rfl, by rw [show k + 1 - 1 = k by omega, HN.out]; simp; omega⟩
        case measure => simp [intOf]; omega
    · obtain rfl : k = y := by omega
      go_wp2
      go_ret
      exact ⟨rfl, rfl⟩

theorem toYear (n r : Int) (h0 : 0 ≤ n) (h1 : n ≤ 20000) (r0 : 0 ≤ r) (r1 : r ≤ 364) :
    let d := 365 * n + lps n + r
    let d1 := d % 146097
    let d2 := d1 % 36524
    let d3 := d2 % 1461
    1 + 400 * (d / 146097) + 100 * (d1 / 36524) + 4 * (d2 / 1461) + d3 / 365 = n + 1 ∧ d3 % 365 = r := by
  intro d d1 d2 d3
  obtain ⟨a, b, c, e, hn, b0, b3, c0, c4, e0, e3⟩ : ∃ a b c e : Int, n = 400 * a + 100 * b + 4 * c + e ∧ 0 ≤ b ∧ b ≤ 3 ∧ 0 ≤ c ∧ c ≤ 24 ∧ 0 ≤ e ∧ e ≤ 3 :=
    ⟨n / 400, n % 400 / 100, n % 100 / 4, n % 4, by omega, by omega, by omega, by omega, by omega, by omega, by omega⟩
  have hl : lps n = 97 * a + 24 * b + c := by unfold lps; omega
  have hd : d = 146097 * a + (36524 * b + (1461 * c + (365 * e + r))) := by show 365 * n + lps n + r = _; omega
  have q0 : d / 146097 = a := by omega
  have m0 : d1 = 36524 * b + (1461 * c + (365 * e + r)) := by show d % 146097 = _; omega
  have q1 : d1 / 36524 = b := by omega
  have m1 : d2 = 1461 * c + (365 * e + r) := by show d1 % 36524 = _; omega
  have q2 : d2 / 1461 = c := by omega
  have m2 : d3 = 365 * e + r := by show d2 % 1461 = _; omega
  rw [q0, q1, q2]
  omega

theorem daysToYear_any (y r : Int) (w : World) (h1 : 1 ≤ y) (h2 : y ≤ 10000) (r0 : 0 ≤ r) (r1 : r ≤ 364) :
    Calls Tryd.prog 33 #[.int .i64 (365 * y + lps (y - 1) + r)] w fun e w' => e = .returned (.tuple #[.int .i64 y, .int .i64 r]) ∧ w = w' := by
  have hb := lps_bd (y - 1) (by omega) (by omega)
  have H := toYear (y - 1) r (by omega) (by omega) r0 r1
  simp only [show y - 1 + 1 = y by omega] at H
  obtain ⟨d, hd⟩ : ∃ d, 365 * (y - 1) + lps (y - 1) + r = d := ⟨_, rfl⟩
  rw [hd] at H
  have hd2 : 365 * y + lps (y - 1) + r = d + 365 := by omega
  rw [hd2]
  have d0 : 0 ≤ d := by omega
  have d1 : d ≤ 4000000 := by omega
  have HH := Lib.hid H
  clear H hd hd2 hb
  go_enter Tryd.func33, Tryd.ntmps33
  go_wp2
  go_ret2
  refine ⟨?_, rfl⟩
  have e1 := HH.out.1
  have e2 := HH.out.2
  show Ending.returned (.tuple #[.int .i64 (1 + 400 * (d / 146097) + 100 * (d % 146097 / 36524) + 4 * (d % 146097 % 36524 / 1461) + d % 146097 % 36524 % 1461 / 365), .int .i64 (d % 146097 % 36524 % 1461 % 365)]) = _
  rw [e1, e2]

theorem DaysToYear_any (y r : Int) (w : World) (h1 : 1 ≤ y) (h2 : y ≤ 10000) (r0 : 0 ≤ r) (r1 : r ≤ 364) :
    Calls Tryd.prog 24 #[.int .i64 (365 * y + lps (y - 1) + r)] w fun e w' => e = .returned (.tuple #[.int .i64 y, .int .i64 r]) ∧ w = w' := by
  have L := fun W => daysToYear_any y r W h1 h2 r0 r1
  generalize 365 * y + lps (y - 1) + r = d at L ⊢
  go_enter Tryd.func24, Tryd.ntmps24
  go_wp2_with (first | (go_at_call 33; refine (L _).mono ?_; rintro e w' ⟨rfl, rfl⟩))
  go_ret2
  exact ⟨rfl, rfl⟩
theorem dyYear_any (y r : Int) (w : World) (h1 : 1 ≤ y) (h2 : y ≤ 10000) (r0 : 0 ≤ r) (r1 : r ≤ 364) :
    Calls Tryd.prog 11 #[.int .i64 (365 * y + lps (y - 1) + r)] w fun e w' => e = .returned (.tuple #[.int .i64 y, .int .i64 r]) ∧ w = w' := by
  have L := fun W => DaysToYear_any y r W h1 h2 r0 r1
  generalize 365 * y + lps (y - 1) + r = d at L ⊢
  go_enter Tryd.func11, Tryd.ntmps11
  go_wp2_with (first | (go_at_call 24; refine (L _).mono ?_; rintro e w' ⟨rfl, rfl⟩))
  go_ret2
  exact ⟨rfl, rfl⟩

/-- The days ahead of a month. -/
def cum (b : Bool) (m : Int) : Int := (if m = 1 then 0 else if m = 2 then 31 else if m = 3 then 59 else if m = 4 then 90 else if m = 5 then 120 else if m = 6 then 151 else if m = 7 then 181 else if m = 8 then 212 else if m = 9 then 243 else if m = 10 then 273 else if m = 11 then 304 else 334) + if b ∧ 3 ≤ m then 1 else 0
theorem cum_next (b : Bool) (m : Int) (h1 : 1 ≤ m) (h2 : m ≤ 11) : cum b (m + 1) = cum b m + dl b m :=
  months (p := fun m => m ≤ 11 → cum b (m + 1) = cum b m + dl b m) (by cases b <;> decide) (by cases b <;> decide) (by cases b <;> decide) (by cases b <;> decide) (by cases b <;> decide) (by cases b <;> decide) (by cases b <;> decide) (by cases b <;> decide) (by cases b <;> decide) (by cases b <;> decide) (by cases b <;> decide) (by cases b <;> decide) m h1 (by omega) h2
theorem cum_bd (b : Bool) (m : Int) (h1 : 1 ≤ m) (h2 : m ≤ 12) : 0 ≤ cum b m ∧ cum b m + dl b m ≤ (if b then 366 else 365) ∧ cum b m ≤ 335 :=
  months (p := fun m => 0 ≤ cum b m ∧ cum b m + dl b m ≤ (if b then 366 else 365) ∧ cum b m ≤ 335) (by cases b <;> decide) (by cases b <;> decide) (by cases b <;> decide) (by cases b <;> decide) (by cases b <;> decide) (by cases b <;> decide) (by cases b <;> decide) (by cases b <;> decide) (by cases b <;> decide) (by cases b <;> decide) (by cases b <;> decide) (by cases b <;> decide) m h1 h2

theorem ix0 (w : World) : (Instr.index 77 (.agg #[.int .i64 31, .int .i64 28, .int .i64 31, .int .i64 30, .int .i64 31, .int .i64 30, .int .i64 31, .int .i64 31, .int .i64 30, .int .i64 31, .int .i64 30, .int .i64 31]) (.int .i64 0)).run Tryd.prog w = .ok (.int .i64 31) w := by kernel_rfl
theorem ix1 (w : World) : (Instr.index 77 (.agg #[.int .i64 31, .int .i64 28, .int .i64 31, .int .i64 30, .int .i64 31, .int .i64 30, .int .i64 31, .int .i64 31, .int .i64 30, .int .i64 31, .int .i64 30, .int .i64 31]) (.int .i64 1)).run Tryd.prog w = .ok (.int .i64 28) w := by kernel_rfl
theorem ix2 (w : World) : (Instr.index 77 (.agg #[.int .i64 31, .int .i64 28, .int .i64 31, .int .i64 30, .int .i64 31, .int .i64 30, .int .i64 31, .int .i64 31, .int .i64 30, .int .i64 31, .int .i64 30, .int .i64 31]) (.int .i64 2)).run Tryd.prog w = .ok (.int .i64 31) w := by kernel_rfl
theorem ix3 (w : World) : (Instr.index 77 (.agg #[.int .i64 31, .int .i64 28, .int .i64 31, .int .i64 30, .int .i64 31, .int .i64 30, .int .i64 31, .int .i64 31, .int .i64 30, .int .i64 31, .int .i64 30, .int .i64 31]) (.int .i64 3)).run Tryd.prog w = .ok (.int .i64 30) w := by kernel_rfl
theorem ix4 (w : World) : (Instr.index 77 (.agg #[.int .i64 31, .int .i64 28, .int .i64 31, .int .i64 30, .int .i64 31, .int .i64 30, .int .i64 31, .int .i64 31, .int .i64 30, .int .i64 31, .int .i64 30, .int .i64 31]) (.int .i64 4)).run Tryd.prog w = .ok (.int .i64 31) w := by kernel_rfl
theorem ix5 (w : World) : (Instr.index 77 (.agg #[.int .i64 31, .int .i64 28, .int .i64 31, .int .i64 30, .int .i64 31, .int .i64 30, .int .i64 31, .int .i64 31, .int .i64 30, .int .i64 31, .int .i64 30, .int .i64 31]) (.int .i64 5)).run Tryd.prog w = .ok (.int .i64 30) w := by kernel_rfl
theorem ix6 (w : World) : (Instr.index 77 (.agg #[.int .i64 31, .int .i64 28, .int .i64 31, .int .i64 30, .int .i64 31, .int .i64 30, .int .i64 31, .int .i64 31, .int .i64 30, .int .i64 31, .int .i64 30, .int .i64 31]) (.int .i64 6)).run Tryd.prog w = .ok (.int .i64 31) w := by kernel_rfl
theorem ix7 (w : World) : (Instr.index 77 (.agg #[.int .i64 31, .int .i64 28, .int .i64 31, .int .i64 30, .int .i64 31, .int .i64 30, .int .i64 31, .int .i64 31, .int .i64 30, .int .i64 31, .int .i64 30, .int .i64 31]) (.int .i64 7)).run Tryd.prog w = .ok (.int .i64 31) w := by kernel_rfl
theorem ix8 (w : World) : (Instr.index 77 (.agg #[.int .i64 31, .int .i64 28, .int .i64 31, .int .i64 30, .int .i64 31, .int .i64 30, .int .i64 31, .int .i64 31, .int .i64 30, .int .i64 31, .int .i64 30, .int .i64 31]) (.int .i64 8)).run Tryd.prog w = .ok (.int .i64 30) w := by kernel_rfl
theorem ix9 (w : World) : (Instr.index 77 (.agg #[.int .i64 31, .int .i64 28, .int .i64 31, .int .i64 30, .int .i64 31, .int .i64 30, .int .i64 31, .int .i64 31, .int .i64 30, .int .i64 31, .int .i64 30, .int .i64 31]) (.int .i64 9)).run Tryd.prog w = .ok (.int .i64 31) w := by kernel_rfl
theorem ix10 (w : World) : (Instr.index 77 (.agg #[.int .i64 31, .int .i64 28, .int .i64 31, .int .i64 30, .int .i64 31, .int .i64 30, .int .i64 31, .int .i64 31, .int .i64 30, .int .i64 31, .int .i64 30, .int .i64 31]) (.int .i64 10)).run Tryd.prog w = .ok (.int .i64 30) w := by kernel_rfl
theorem ix11 (w : World) : (Instr.index 77 (.agg #[.int .i64 31, .int .i64 28, .int .i64 31, .int .i64 30, .int .i64 31, .int .i64 30, .int .i64 31, .int .i64 31, .int .i64 30, .int .i64 31, .int .i64 30, .int .i64 31]) (.int .i64 11)).run Tryd.prog w = .ok (.int .i64 31) w := by kernel_rfl
theorem daysToMonth_any (y : Int) (w : World) (h1 : 1 ≤ y) (h2 : y ≤ 100000) (hm : Mon w) (d : Int) (d0 : 0 ≤ d) (m : Int) (m1 : 1 ≤ m) (m2 : m ≤ 12) (hd : d < dl (lpB y) m) :
    Calls Tryd.prog 34 #[.int .i64 y, .int .i64 (cum (lpB y) m + d)] w fun e w' => e = .returned (.tuple #[.int .i64 m, .int .i64 d]) ∧ w = w' := by
  have L := fun W => leap_any y W h1 h2
  obtain ⟨c0, c1, c2, c3, c4, c5, c6, c7, c8, c9, c10, c11⟩ := hm
  generalize lpB y = b at L hd ⊢
  revert hd
  refine months (p := fun m => d < dl b m → Calls Tryd.prog 34 #[.int .i64 y, .int .i64 (cum b m + d)] w fun e w' => e = .returned (.tuple #[.int .i64 m, .int .i64 d]) ∧ w = w') ?_ ?_ ?_ ?_ ?_ ?_ ?_ ?_ ?_ ?_ ?_ ?_ m m1 m2
  all_goals
    intro hd
    have i0 := ix0
    have i1 := ix1
    have i2 := ix2
    have i3 := ix3
    have i4 := ix4
    have i5 := ix5
    have i6 := ix6
    have i7 := ix7
    have i8 := ix8
    have i9 := ix9
    have i10 := ix10
    have i11 := ix11
    cases b
    all_goals
      simp [dl, cum] at hd ⊢
      go_enter Tryd.func34, Tryd.ntmps34
      go_wp2
      refine wp_loop_rounds 13 ?_
      iterate 13 (try (rw [rounds_succ]; go_wp2_with (first | (go_at_call 32; refine (L _).mono ?_; rintro e w' ⟨rfl, rfl⟩))))
      go_ret2
      exact ⟨by first | rfl | (simp; done) | (simp; omega), rfl⟩

end Go.Proofs.YtghigcmjldjljaaDoor.Days

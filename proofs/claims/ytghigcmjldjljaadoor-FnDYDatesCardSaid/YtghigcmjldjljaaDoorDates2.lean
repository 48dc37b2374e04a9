/- The walk of FnDYDates itself. Conditions: the table of the months' days reads as listed. -/
import Derived.Test.YtghigcmjldjljaaDoorDates
set_option linter.unusedVariables false
set_option linter.unusedSimpArgs false
set_option maxHeartbeats 4000000
set_option maxRecDepth 100000
namespace Go.Proofs.YtghigcmjldjljaaDoor.Days
open Go.RowKit Go.Proofs.YtghigcmjldjljaaDoor.B

theorem DaysToMonth_any (y : Int) (w : World) (h1 : 1 ≤ y) (h2 : y ≤ 100000) (hm : Mon w) (d : Int) (d0 : 0 ≤ d) (m : Int) (m1 : 1 ≤ m) (m2 : m ≤ 12) (hd : d < dl (lpB y) m) :
    Calls Tryd.prog 25 #[.int .i64 y, .int .i64 (cum (lpB y) m + d)] w fun e w' => e = .returned (.tuple #[.int .i64 m, .int .i64 d]) ∧ w = w' := by
  have L := daysToMonth_any y w h1 h2 hm d d0 m m1 m2 hd
  generalize cum (lpB y) m + d = r at L ⊢
  clear hm hd
  go_enter Tryd.func25, Tryd.ntmps25
  go_wp2_with (first | (go_at_call 34; refine L.mono ?_; rintro e w' ⟨rfl, rfl⟩))
  go_ret2
  exact ⟨rfl, rfl⟩
theorem dyMonth_any (y : Int) (w : World) (h1 : 1 ≤ y) (h2 : y ≤ 100000) (hm : Mon w) (d : Int) (d0 : 0 ≤ d) (m : Int) (m1 : 1 ≤ m) (m2 : m ≤ 12) (hd : d < dl (lpB y) m) :
    Calls Tryd.prog 13 #[.int .i64 y, .int .i64 (cum (lpB y) m + d)] w fun e w' => e = .returned (.tuple #[.int .i64 m, .int .i64 d]) ∧ w = w' := by
  have L := DaysToMonth_any y w h1 h2 hm d d0 m m1 m2 hd
  generalize cum (lpB y) m + d = r at L ⊢
  clear hm hd
  go_enter Tryd.func13, Tryd.ntmps13
  go_wp2_with (first | (go_at_call 25; refine L.mono ?_; rintro e w' ⟨rfl, rfl⟩))
  go_ret2
  exact ⟨rfl, rfl⟩

theorem cum_first (b : Bool) : cum b 1 = 0 := by cases b <;> rfl

theorem datesLaw_any (year month day : Int) (w : World) (w0 : (Lit.int .u16 year).wf = true) (w1 : (Lit.int .u8 month).wf = true) (w2 : (Lit.int .u8 day).wf = true) (hm : Mon w) :
    Calls Tryd.prog 4 #[.int .u16 year, .int .u8 month, .int .u8 day] w fun e w' => e = .returned (.bool true) ∧ Below w.heap.size w w' := by
  obtain ⟨a0, a1⟩ := bounds_u16 w0
  obtain ⟨b0, b1⟩ := bounds_u8 w1
  obtain ⟨c0, c1⟩ := bounds_u8 w2
  clear w0 w1 w2
  obtain ⟨y, hy⟩ : ∃ y, 1 + year % 9998 = y := ⟨_, rfl⟩
  obtain ⟨m, hmm⟩ : ∃ m, 1 + month % 12 = m := ⟨_, rfl⟩
  have y1 : 1 ≤ y := by omega
  have y2 : y ≤ 10000 := by omega
  have m1 : 1 ≤ m := by omega
  have m2 : m ≤ 12 := by omega
  have S := fun W => slast_any y W y1 (by omega)
  have SM := fun W => S W m m1 m2
  have P := fun W => before_any y W y1 (by omega)
  have HY := fun r W r0 r1 => dyYear_any y r W y1 y2 r0 r1
  have HM := fun W hW d d0 m m1 m2 hd => dyMonth_any y W y1 (by omega) hW d d0 m m1 m2 hd
  have hbd := dl_bd (lpB y) m
  have hcb := cum_bd (lpB y) m m1 m2
  have hcs := fun i => cum_next (lpB y) i
  have hci := fun i => cum_bd (lpB y) i
  have hdi := fun i => dl_bd (lpB y) i
  have hlb := lps_bd (y - 1) (by omega) (by omega)
  generalize lpB y = b at *
  generalize lps (y - 1) = q at *
  obtain ⟨D, hD⟩ : ∃ D, dl b m = D := ⟨_, rfl⟩
  rw [hD] at SM
  rw [hD] at hbd hcb
  have d0 : 0 ≤ day % D := Int.emod_nonneg _ (by omega)
  have d1 : day % D < D := Int.emod_lt_of_pos _ (by omega)
  have hr365 : cum b m + day % D ≤ 365 := by
    have := hcb.2.1
    split at this <;> omega
  have HMon := Lib.hid hm
  have HI := Lib.hid (And.intro hcs (And.intro hci hdi))
  have HDM := Lib.hid hD
  clear hm hcs hci hdi hD
  obtain ⟨hb1, hb2⟩ := hbd
  go_enter Tryd.func4, Tryd.ntmps4
  go_wp2_with (first | (go_at_call 10; (with_reducible refine (SM _).mono ?_); rintro e w1 ⟨rfl, hb1⟩))
  go_loopw [10, 11] (fun r i wr => ∃ k : Int, 1 ≤ k ∧ k ≤ m ∧ i = .int .i64 k ∧ ∃ x, r = .int .i64 x ∧ Hid (x = cum b k + day % D) ∧ 0 ≤ x ∧ x ≤ 800 ∧ Below w.heap.size w wr) (fun _ i _ => (m - intOf i).toNat)
  case atStart => exact ⟨1, by omega, m1, rfl, _, rfl, Lib.hid (by rw [cum_first]; omega), by omega, by omega, hb1⟩
  case round =>
    obtain ⟨k, k1, k2, rfl, x, rfl, HX, x0, x1, hbel⟩ := hrel
    by_cases hlt : k < m
    · have SK := fun W => S W k k1 (by omega)
      have hn := HI.out.1 k k1 (by omega)
      have hk := HI.out.2.1 k k1 (by omega)
      have hdk := HI.out.2.2 k
      have hk2 := HI.out.2.1 (k + 1) (by omega) (by omega)
      have hx := HX.out
      obtain ⟨v, hv⟩ : ∃ v, dl b k = v := ⟨_, rfl⟩
      rw [hv] at SK hn hk hdk
      have hxn : x + v ≤ 800 := by have := hk2.2.2; omega
      have HXn : Hid (x + v = cum b (k + 1) + day % D) := Lib.hid (by omega)
      obtain ⟨v0, v1⟩ := hdk
      clear hn hk hk2 hx hv HX
      go_wp2_with (first | (go_at_call 10; (with_reducible refine (SK _).mono ?_); rintro e w2 ⟨rfl, hb2⟩))
      go_roundw
      case rel => exact ⟨k + 1, by omega, by omega, rfl, _, rfl, HXn, by omega, hxn, hbel.trans (hb2.mono hbel.size)⟩
      case measure => simp [intOf]; omega
    · obtain rfl : k = m := by omega
      have hMr := HMon.out.below hbel
      by_cases h365 : x = 365
      · subst h365
        have hP := P wr
        have hY := HY 0 wr (by omega) (by omega)
        have hM := HM wr hMr 0 (by omega) 1 (by omega) (by omega) (by have := (HI.out.2.2 1).1; omega)
        rw [cum_first] at hM
        clear HX hMr
        simp only [Int.add_zero] at hY hM
        go_wp2_with (first
          | (go_at_call 12; (with_reducible refine hP.mono ?_); rintro e w' ⟨rfl, rfl⟩)
          | (go_at_call 11; (with_reducible refine hY.mono ?_); rintro e w' ⟨rfl, rfl⟩)
          | (go_at_call 13; (with_reducible refine hM.mono ?_); rintro e w' ⟨rfl, rfl⟩))
        go_ret
        exact ⟨rfl, hbel⟩
      · have hne : (x == 365) = false := by simpa using h365
        have hx := HX.out
        have hP := P wr
        have hY := HY x wr x0 (by omega)
        have hM := HM wr hMr (day % D) d0 k m1 m2 (by rw [HDM.out]; exact d1)
        rw [← hx] at hM
        clear HX hMr hx h365
        go_wp2_with (first
          | (go_at_call 12; (with_reducible refine hP.mono ?_); rintro e w' ⟨rfl, rfl⟩)
          | (go_at_call 11; (with_reducible refine hY.mono ?_); rintro e w' ⟨rfl, rfl⟩)
          | (go_at_call 13; (with_reducible refine hM.mono ?_); rintro e w' ⟨rfl, rfl⟩))
        go_ret
        exact ⟨rfl, hbel⟩

end Go.Proofs.YtghigcmjldjljaaDoor.Days

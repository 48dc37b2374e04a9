/- The walks of FnDYLeap and FnDYDates: leap years, days of months, a number of days as year, month and day. Conditions: the table of the months' days reads as listed; those written at each lemma. -/
import Derived.Test.YtghigcmjldjljaaDoorProg
import Derived.Test.YtghigcmjldjljaaDoorBase
import Derived.LoopN
set_option linter.unusedVariables false
set_option linter.unusedSimpArgs false
set_option maxHeartbeats 4000000
namespace Go.Proofs.YtghigcmjldjljaaDoor.Days
open Go.RowKit Go.Proofs.YtghigcmjldjljaaDoor.B

def lpB (y : Int) : Bool := decide ((y % 4 = 0 ∧ y % 100 ≠ 0) ∨ y % 400 = 0)
def dl (b : Bool) (m : Int) : Int := if m = 2 then (if b then 29 else 28) else if m = 4 ∨ m = 6 ∨ m = 9 ∨ m = 11 then 30 else 31
theorem dl_bd (b : Bool) (m : Int) : 28 ≤ dl b m ∧ dl b m ≤ 31 := by
  unfold dl
  split
  · cases b <;> simp
  · split <;> omega

/-- The table of the months' days. -/
def Mon (w : World) : Prop := w.cell? ⟨1, 0, none⟩ = some (.int .i64 31) ∧ w.cell? ⟨1, 1, none⟩ = some (.int .i64 28) ∧ w.cell? ⟨1, 2, none⟩ = some (.int .i64 31) ∧ w.cell? ⟨1, 3, none⟩ = some (.int .i64 30) ∧
  w.cell? ⟨1, 4, none⟩ = some (.int .i64 31) ∧ w.cell? ⟨1, 5, none⟩ = some (.int .i64 30) ∧ w.cell? ⟨1, 6, none⟩ = some (.int .i64 31) ∧ w.cell? ⟨1, 7, none⟩ = some (.int .i64 31) ∧
  w.cell? ⟨1, 8, none⟩ = some (.int .i64 30) ∧ w.cell? ⟨1, 9, none⟩ = some (.int .i64 31) ∧ w.cell? ⟨1, 10, none⟩ = some (.int .i64 30) ∧ w.cell? ⟨1, 11, none⟩ = some (.int .i64 31)
theorem Mon.below {w w1 : World} (h : Mon w) (hb : Below w.heap.size w w1) : Mon w1 := by
  obtain ⟨h0, h1, h2, h3, h4, h5, h6, h7, h8, h9, h10, h11⟩ := h
  exact ⟨cell_below hb h0, cell_below hb h1, cell_below hb h2, cell_below hb h3, cell_below hb h4, cell_below hb h5, cell_below hb h6, cell_below hb h7, cell_below hb h8, cell_below hb h9, cell_below hb h10, cell_below hb h11⟩

theorem leap_any (y : Int) (w : World) (h1 : 1 ≤ y) (h2 : y ≤ 100000) :
    Calls Tryd.prog 32 #[.int .i64 y] w fun e w' => e = .returned (.bool (lpB y)) ∧ w = w' := by
  have e0 : (y != 0) = true ∨ y = 0 := by rcases bq y 0 with ⟨_, _, h⟩ | ⟨_, h, _⟩; exact .inr h; exact .inl h
  have z1 : y = 0 → False := by omega
  obtain ⟨b, hb⟩ : ∃ b, lpB y = b := ⟨_, rfl⟩
  rw [hb]
  rcases bq (y % 4) 0 with ⟨p4, q4, r4⟩ | ⟨p4, q4, r4⟩ <;> rcases bq (y % 100) 0 with ⟨p1, q1, r1⟩ | ⟨p1, q1, r1⟩ <;> rcases bq (y % 400) 0 with ⟨p5, q5, r5⟩ | ⟨p5, q5, r5⟩
  all_goals
    try (exfalso; omega; done)
  all_goals
    first
      | (have hv2 : b = true := by rw [← hb]; exact decide_eq_true (by omega)
         rw [hv2])
      | (have hv2 : b = false := by rw [← hb]; exact decide_eq_false (by omega)
         rw [hv2])
    have e1 : (y != 0) = true := by rcases e0 with h | h; exact h; exact absurd h (by omega)
    clear r4 r1 r5 hv2 hb e0 z1
    go_enter Tryd.func32, Tryd.ntmps32
    go_wp2
    go_ret
    exact ⟨rfl, rfl⟩
theorem sleap_any (y : Int) (w : World) (h1 : 0 ≤ y) (h2 : y ≤ 100000) :
    Calls Tryd.prog 8 #[.int .i64 y] w fun e w' => e = .returned (.bool (lpB y)) ∧ w = w' := by
  have e0 : (y != 0) = true ∨ y = 0 := by rcases bq y 0 with ⟨_, _, h⟩ | ⟨_, h, _⟩; exact .inr h; exact .inl h
  have z1 : y = 0 → True := by intro _; trivial
  obtain ⟨b, hb⟩ : ∃ b, lpB y = b := ⟨_, rfl⟩
  rw [hb]
  rcases bq (y % 4) 0 with ⟨p4, q4, r4⟩ | ⟨p4, q4, r4⟩ <;> rcases bq (y % 100) 0 with ⟨p1, q1, r1⟩ | ⟨p1, q1, r1⟩ <;> rcases bq (y % 400) 0 with ⟨p5, q5, r5⟩ | ⟨p5, q5, r5⟩
  all_goals
    try (exfalso; omega; done)
  all_goals
    first
      | (have hv2 : b = true := by rw [← hb]; exact decide_eq_true (by omega)
         rw [hv2])
      | (have hv2 : b = false := by rw [← hb]; exact decide_eq_false (by omega)
         rw [hv2])
    skip
    clear r4 r1 r5 hv2 hb e0 z1
    go_enter Tryd.func8, Tryd.ntmps8
    go_wp2
    go_ret
    exact ⟨rfl, rfl⟩
theorem Leap_any (y : Int) (w : World) (h1 : 1 ≤ y) (h2 : y ≤ 100000) :
    Calls Tryd.prog 23 #[.int .i64 y] w fun e w' => e = .returned (.bool (lpB y)) ∧ w = w' := by
  go_enter Tryd.func23, Tryd.ntmps23
  go_wp2_with (first | (go_at_call 32; refine (leap_any y _ h1 h2).mono ?_; rintro e w' ⟨rfl, rfl⟩))
  go_ret
  exact ⟨rfl, rfl⟩
theorem dyLeap_any (y : Int) (w : World) (h1 : 1 ≤ y) (h2 : y ≤ 100000) :
    Calls Tryd.prog 9 #[.int .i64 y] w fun e w' => e = .returned (.bool (lpB y)) ∧ w = w' := by
  go_enter Tryd.func9, Tryd.ntmps9
  go_wp2_with (first | (go_at_call 23; refine (Leap_any y _ h1 h2).mono ?_; rintro e w' ⟨rfl, rfl⟩))
  go_ret
  exact ⟨rfl, rfl⟩

theorem months {p : Int → Prop} (h1 : p 1) (h2 : p 2) (h3 : p 3) (h4 : p 4) (h5 : p 5) (h6 : p 6) (h7 : p 7) (h8 : p 8) (h9 : p 9) (h10 : p 10) (h11 : p 11) (h12 : p 12) (m : Int) (a : 1 ≤ m) (b : m ≤ 12) : p m := by
  have : m = 1 ∨ m = 2 ∨ m = 3 ∨ m = 4 ∨ m = 5 ∨ m = 6 ∨ m = 7 ∨ m = 8 ∨ m = 9 ∨ m = 10 ∨ m = 11 ∨ m = 12 := by omega
  rcases this with rfl | rfl | rfl | rfl | rfl | rfl | rfl | rfl | rfl | rfl | rfl | rfl <;> assumption

theorem lastDay_any (y : Int) (w : World) (h1 : 1 ≤ y) (h2 : y ≤ 100000) (hm : Mon w) (m : Int) (m1 : 1 ≤ m) (m2 : m ≤ 12) :
    Calls Tryd.prog 31 #[.int .i64 y, .int .i64 m] w fun e w' => e = .returned (.int .i64 (dl (lpB y) m)) ∧ w = w' := by
  obtain ⟨c0, c1, c2, c3, c4, c5, c6, c7, c8, c9, c10, c11⟩ := hm
  have L := fun W => leap_any y W h1 h2
  generalize lpB y = b at L ⊢
  refine months (p := fun m => Calls Tryd.prog 31 #[.int .i64 y, .int .i64 m] w fun e w' => e = .returned (.int .i64 (dl b m)) ∧ w = w') ?_ ?_ ?_ ?_ ?_ ?_ ?_ ?_ ?_ ?_ ?_ ?_ m m1 m2
  all_goals
    cases b
    all_goals
      go_enter Tryd.func31, Tryd.ntmps31
      go_wp2_with (first | (go_at_call 32; refine (L _).mono ?_; rintro e w' ⟨rfl, rfl⟩))
      go_ret
      exact ⟨rfl, rfl⟩


theorem LastDayOf_any (y : Int) (w : World) (h1 : 1 ≤ y) (h2 : y ≤ 100000) (hm : Mon w) (m : Int) (m1 : 1 ≤ m) (m2 : m ≤ 12) :
    Calls Tryd.prog 22 #[.int .i64 y, .int .i64 m] w fun e w' => e = .returned (.int .i64 (dl (lpB y) m)) ∧ w = w' := by
  have L := lastDay_any y w h1 h2 hm m m1 m2
  clear hm
  generalize dl (lpB y) m = v at L ⊢
  go_enter Tryd.func22, Tryd.ntmps22
  go_wp2_with (first | (go_at_call 31; refine L.mono ?_; rintro e w' ⟨rfl, rfl⟩))
  go_ret
  exact ⟨rfl, rfl⟩
theorem dyLast_any (y : Int) (w : World) (h1 : 1 ≤ y) (h2 : y ≤ 100000) (hm : Mon w) (m : Int) (m1 : 1 ≤ m) (m2 : m ≤ 12) :
    Calls Tryd.prog 7 #[.int .i64 y, .int .i64 m] w fun e w' => e = .returned (.int .i64 (dl (lpB y) m)) ∧ w = w' := by
  have L := LastDayOf_any y w h1 h2 hm m m1 m2
  clear hm
  generalize dl (lpB y) m = v at L ⊢
  go_enter Tryd.func7, Tryd.ntmps7
  go_wp2_with (first | (go_at_call 22; refine L.mono ?_; rintro e w' ⟨rfl, rfl⟩))
  go_ret
  exact ⟨rfl, rfl⟩
theorem slast_any (y : Int) (w : World) (h1 : 1 ≤ y) (h2 : y ≤ 100000) (m : Int) (m1 : 1 ≤ m) (m2 : m ≤ 12) :
    Calls Tryd.prog 10 #[.int .i64 y, .int .i64 m] w fun e w' => e = .returned (.int .i64 (dl (lpB y) m)) ∧ Below w.heap.size w w' := by
  have L := fun W => sleap_any y W (by omega) h2
  generalize lpB y = b at L ⊢
  refine months (p := fun m => Calls Tryd.prog 10 #[.int .i64 y, .int .i64 m] w fun e w' => e = .returned (.int .i64 (dl b m)) ∧ Below w.heap.size w w') ?_ ?_ ?_ ?_ ?_ ?_ ?_ ?_ ?_ ?_ ?_ ?_ m m1 m2
  all_goals
    cases b
    all_goals
      go_enter Tryd.func10, Tryd.ntmps10
      go_wp2_with (first | (go_at_call 8; refine (L _).mono ?_; rintro e w' ⟨rfl, rfl⟩))
      go_ret
      exact ⟨rfl, by first | (with_reducible exact Below.refl _ _) | exact (Below.refl _ _).alloc (Nat.le_refl _) _⟩

def dlf (b : Bool) : Int := if b then 366 else 365
theorem leapLaw_any (year month : Int) (w : World) (w0 : (Lit.int .u16 year).wf = true) (w1 : (Lit.int .u8 month).wf = true) (hm : Mon w) :
    Calls Tryd.prog 3 #[.int .u16 year, .int .u8 month] w fun e w' => e = .returned (.bool true) ∧ Below w.heap.size w w' := by
  obtain ⟨a0, a1⟩ := bounds_u16 w0
  obtain ⟨b0, b1⟩ := bounds_u8 w1
  clear w0 w1
  have y1 : 1 ≤ 1 + year % 9999 := by omega
  have y2 : 1 + year % 9999 ≤ 100000 := by omega
  have m1 : 1 ≤ 1 + month % 12 := by omega
  have m2 : 1 + month % 12 ≤ 12 := by omega
  have L := fun W hW => dyLast_any (1 + year % 9999) W y1 y2 hW
  have S := fun W => slast_any (1 + year % 9999) W y1 y2
  have P := fun W => dyLeap_any (1 + year % 9999) W y1 y2
  have Q := fun W => sleap_any (1 + year % 9999) W (by omega) y2
  have HM := Lib.hid hm
  obtain ⟨v, hv⟩ : ∃ v, dl (lpB (1 + year % 9999)) (1 + month % 12) = v := ⟨_, rfl⟩
  have Lm := L w hm _ m1 m2
  have Sm := fun W => S W _ m1 m2
  rw [hv] at Lm Sm
  generalize lpB (1 + year % 9999) = b at L S P Q
  clear hm hv
  cases b
  · have D1 : dl false 1 = 31 := rfl
    have D2 : dl false 2 = 28 := rfl
    have D3 : dl false 3 = 31 := rfl
    have D4 : dl false 4 = 30 := rfl
    have D5 : dl false 5 = 31 := rfl
    have D6 : dl false 6 = 30 := rfl
    have D7 : dl false 7 = 31 := rfl
    have D8 : dl false 8 = 31 := rfl
    have D9 : dl false 9 = 30 := rfl
    have D10 : dl false 10 = 31 := rfl
    have D11 : dl false 11 = 30 := rfl
    have D12 : dl false 12 = 31 := rfl
    go_enter Tryd.func3, Tryd.ntmps3
    go_wp2
    refine wp_loop_rounds 13 ?_
    iterate 13 (rw [rounds_succ]; go_wp2_with (first
      | (go_at_call 7; (with_reducible refine Lm.mono ?_); rintro e w' ⟨rfl, rfl⟩)
      | (go_at_call 7; (with_reducible refine (L _ HM.out _ (by omega) (by omega)).mono ?_); rintro e w' ⟨rfl, rfl⟩)
      | (go_at_call 10; (with_reducible refine (Sm _).mono ?_); rintro e w3 ⟨rfl, hb⟩)
      | (go_at_call 8; (with_reducible refine (Q _).mono ?_); rintro e w' ⟨rfl, rfl⟩)
      | (go_at_call 9; (with_reducible refine (P _).mono ?_); rintro e w' ⟨rfl, rfl⟩)))
    go_ret
    exact ⟨rfl, hb⟩
  · have D1 : dl true 1 = 31 := rfl
    have D2 : dl true 2 = 29 := rfl
    have D3 : dl true 3 = 31 := rfl
    have D4 : dl true 4 = 30 := rfl
    have D5 : dl true 5 = 31 := rfl
    have D6 : dl true 6 = 30 := rfl
    have D7 : dl true 7 = 31 := rfl
    have D8 : dl true 8 = 31 := rfl
    have D9 : dl true 9 = 30 := rfl
    have D10 : dl true 10 = 31 := rfl
    have D11 : dl true 11 = 30 := rfl
    have D12 : dl true 12 = 31 := rfl
    go_enter Tryd.func3, Tryd.ntmps3
    go_wp2
    refine wp_loop_rounds 13 ?_
    iterate 13 (rw [rounds_succ]; go_wp2_with (first
      | (go_at_call 7; (with_reducible refine Lm.mono ?_); rintro e w' ⟨rfl, rfl⟩)
      | (go_at_call 7; (with_reducible refine (L _ HM.out _ (by omega) (by omega)).mono ?_); rintro e w' ⟨rfl, rfl⟩)
      | (go_at_call 10; (with_reducible refine (Sm _).mono ?_); rintro e w3 ⟨rfl, hb⟩)
      | (go_at_call 8; (with_reducible refine (Q _).mono ?_); rintro e w' ⟨rfl, rfl⟩)
      | (go_at_call 9; (with_reducible refine (P _).mono ?_); rintro e w' ⟨rfl, rfl⟩)))
    go_ret
    exact ⟨rfl, hb⟩

end Go.Proofs.YtghigcmjldjljaaDoor.Days

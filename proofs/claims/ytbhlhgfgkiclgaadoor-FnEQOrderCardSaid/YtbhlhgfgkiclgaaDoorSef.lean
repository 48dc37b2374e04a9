/- The walk of FnISNext: a set has the numbers that are in it, and the next one from any number on. Conditions: the listed table of math/bits reads as listed. -/
import Derived.Test.YtbhlhgfgkiclgaaDoorSee
set_option linter.unusedVariables false
set_option linter.unusedSimpArgs false
set_option maxRecDepth 100000
set_option maxHeartbeats 2000000
namespace Go.Proofs.YtbhlhgfgkiclgaaDoor.Set
open Go.RowKit Go.Proofs.YtbhlhgfgkiclgaaDoor.B

/-- A number as a set's. -/
def m201 (y : Int) : Int := y.tmod 201 % 201
theorem m201_bd (y : Int) : 0 ≤ m201 y ∧ m201 y ≤ 200 := by unfold m201; omega
def isL (l : List Int) : List Int := (l.map m201).foldl ins []
theorem isL_snoc (l : List Int) (y : Int) : isL (l ++ [y]) = ins (isL l) (m201 y) := by unfold isL; rw [List.map_append, List.foldl_append]; rfl
theorem isL_ok : ∀ (l : List Int), Srt (isL l) ∧ ∀ u ∈ isL l, 0 ≤ u ∧ u ≤ 200 := by
  intro l
  have hk : ∀ k, k ≤ l.length → Srt (isL (l.take k)) ∧ ∀ u ∈ isL (l.take k), 0 ≤ u ∧ u ≤ 200 := by
    intro k
    induction k with
    | zero => intro _; exact ⟨List.Pairwise.nil, by simp [isL]⟩
    | succ k ih =>
      intro hk
      obtain ⟨h1, h2⟩ := ih (by omega)
      rw [take_snoc l k (by omega), isL_snoc]
      refine ⟨srt_ins h1 _, fun u hu => ?_⟩
      rcases (mem_ins h1 _ u).1 hu with h | h
      · exact h2 u h
      · rw [h]; exact m201_bd _
  have := hk l.length (Nat.le_refl _)
  rwa [List.take_length] at this
theorem isL_len (l : List Int) : (isL l).length ≤ 201 := srt_len (isL_ok l).1 200 (isL_ok l).2
theorem tmod_bd (y : Int) : -200 ≤ y.tmod 201 ∧ y.tmod 201 ≤ 200 := by
  have h1 := Int.lt_tmod_of_pos y (show (0 : Int) < 201 by omega)
  have h2 := Int.tmod_lt_of_pos y (show (0 : Int) < 201 by omega)
  omega

theorem isSet_any (va : Value) (l : List Int) (w : World) (hr : Rd w 1 va l.length (nums l)) (hl : l.length ≤ 2147483647) :
    Calls Tryd.prog 7 #[va] w fun e w' => ∃ v, e = .returned v ∧ w'.ownsRow w.heap.size 3 1 v (isL (l.take 40)).length (nums (isL (l.take 40))) ∧ Below w.heap.size w w' := by
  obtain ⟨A, c, rfl, hlc, hcm⟩ := hr.shape
  have HR := Lib.hid hr
  clear hr
  go_enter Tryd.func7, Tryd.ntmps7
  go_wp2
  go_loopw [3, 4] (fun v3 v4 wr => ∃ k : Nat, v4 = .int .i64 k ∧ k ≤ l.length ∧ k ≤ 40 ∧ Hid (wr.ownsRow w.heap.size 3 1 v3 (isL (l.take k)).length (nums (isL (l.take k)))) ∧ Below w.heap.size w wr) (fun _ v4 _ => (l.length - (intOf v4)).toNat)
  case atStart => exact ⟨0, rfl, Nat.zero_le _, Nat.zero_le _, Lib.hid (World.ownsRow_nil _ _ _ _), Below.refl _ _⟩
  case round =>
    obtain ⟨k, rfl, hk, hk40, HO, hbel⟩ := hrel
    have hbs := hbel.size
    by_cases hlt : k < l.length
    · by_cases h40 : k < 40
      · obtain ⟨b, o, rfl, hb, hc⟩ := rd_num HR.out k hlt
        have hcw : wr.cell? ⟨b, o + k, none⟩ = some (.int .i64 l[k]) := (hbel.cell (p := ⟨b, o + k, none⟩) hb).trans hc
        have hlen := isL_len (l.take k)
        have HP := Lib.hid (putR_ins (m201 l[k]) _ (isL_ok (l.take k)).1)
        have HS := Lib.hid (by have h := isL_snoc (l.take k) l[k]; rw [← take_snoc l k hlt] at h; exact h)
        have PU := isPut_any u3 (isL (l.take k)) (m201 l[k]) wr (Rd.of_own HO.out) (by omega)
        rw [HP.out] at PU
        obtain ⟨t1, t2⟩ := tmod_bd l[k]
        unfold m201 at PU
        have PU := Lib.hid PU
        clear hc
        generalize l[k] = y at *
        go_wp2_with (first
          | (go_at_call 6; (with_reducible refine PU.out.mono ?_); rintro e w1 ⟨v1, rfl, hown, hb1⟩; have HO1 := Lib.hid (hown.mono hbs); have hbel1 := hbel.trans (hb1.mono hbs); clear hown hb1))
        go_roundw
        case rel => exact ⟨k + 1, by go_num, by omega, by omega, Lib.hid (by rw [HS.out]; exact HO1.out), hbel1⟩
        case measure => simp [intOf]; omega
      · obtain rfl : k = 40 := by omega
        go_wp2
        go_ret
        exact ⟨_, rfl, HO.out, hbel⟩
    · have e : l.take k = l.take 40 := by rw [List.take_of_length_le (by omega), List.take_of_length_le (by omega)]
      rw [e] at HO
      go_wp2
      go_ret
      exact ⟨_, rfl, HO.out, hbel⟩

theorem not_small {n : Nat} {u : Int} (h : u ∈ bitsL n) (hu : 64 ≤ u) : False := by
  have := nn_bitsL n u h
  omega

theorem isNext_any (va : Value) (l : List Int) (x : Int) (w : World) (hT : Tab w) (hr : Rd w 1 va l.length (nums l)) (hs : Srt l) (hbd : ∀ u ∈ l, 0 ≤ u ∧ u ≤ 200) (hx : 0 ≤ x ∧ x ≤ 1000) :
    Calls Tryd.prog 8 #[va, .int .i64 x] w fun e w' => e = .returned (.tuple #[.int .i64 (orMax (nx l x)), .bool (nx l x).isSome]) ∧ Below w.heap.size w w' := by
  have hlen : l.length ≤ 201 := srt_len hs 200 hbd
  have NW := new_any va l w hT hr (by omega) (fun u hu => by have := hbd u hu; omega)
  rw [insAll_srt hs] at NW
  have NW := Lib.hid NW
  have NX := Lib.hid (fun s L W (hW : Below w.heap.size w W) (hv : Fv W w.heap.size s L l) => show Calls Tryd.prog 21 #[.agg #[s, L], .int .i64 x] W fun e w' => e = .returned (.tuple #[.int .i64 (orMax (nx l x)), .bool (nx l x).isSome]) ∧ Below W.heap.size W w' from by
    obtain ⟨_, h2, h3⟩ := hv
    rcases h3 with ⟨n, hn, rfl, rfl, rfl⟩ | ⟨p, rfl, rfl, hp⟩
    · exact next_bits n x hn hx.1 (by omega) W (tab_below hT hW)
    · exact next_large w.heap.size p l x W hp h2)
  clear hr hs hbd hT
  generalize (nx l x).isSome = b at *
  generalize orMax (nx l x) = z at *
  go_enter Tryd.func8, Tryd.ntmps8
  go_wp2_with (first
    | (go_at_call 20; (with_reducible refine NW.out.mono ?_); rintro e w1 ⟨s, L, rfl, hv, hb1⟩; have HV := Lib.hid hv; clear hv)
    | (go_at_call 21; (with_reducible refine (NX.out _ _ _ hb1 HV.out).mono ?_); rintro e w2 ⟨rfl, hb2⟩; have hb02 := hb1.trans (hb2.mono hb1.size); clear hb2))
  go_ret2
  exact ⟨rfl, hb02⟩

theorem isContains_any (va : Value) (l : List Int) (x : Int) (w : World) (hT : Tab w) (hr : Rd w 1 va l.length (nums l)) (hs : Srt l) (hbd : ∀ u ∈ l, 0 ≤ u ∧ u ≤ 200) (h200 : 200 ∈ l) :
    Calls Tryd.prog 9 #[va, .int .i64 x] w fun e w' => e = .returned (.bool (decide (x ∈ l))) ∧ Below w.heap.size w w' := by
  have hlen : l.length ≤ 201 := srt_len hs 200 hbd
  have NW := new_any va l w hT hr (by omega) (fun u hu => by have := hbd u hu; omega)
  rw [insAll_srt hs] at NW
  have NW := Lib.hid NW
  have hb : hasB l x = decide (x ∈ l) := by
    rw [Bool.eq_iff_iff, hasB_iff hs, decide_eq_true_iff]
  have NX := Lib.hid (fun s L W (hv : Fv W w.heap.size s L l) => show Calls Tryd.prog 22 #[.agg #[s, L], .int .i64 x] W fun e w' => e = .returned (.bool (decide (x ∈ l))) ∧ Below W.heap.size W w' from by
    obtain ⟨_, h2, h3⟩ := hv
    rcases h3 with ⟨n, hn, rfl, rfl, rfl⟩ | ⟨p, rfl, rfl, hp⟩
    · exact (not_small h200 (by omega)).elim
    · rw [← hb]; exact contains_large w.heap.size p l x W hp)
  clear hr hs hbd hT h200 hb
  generalize decide (x ∈ l) = z at *
  go_enter Tryd.func9, Tryd.ntmps9
  go_wp2_with (first
    | (go_at_call 20; (with_reducible refine NW.out.mono ?_); rintro e w1 ⟨s, L, rfl, hv, hb1⟩; have HV := Lib.hid hv; clear hv)
    | (go_at_call 22; (with_reducible refine (NX.out _ _ _ HV.out).mono ?_); rintro e w2 ⟨rfl, hb2⟩; have hb02 := hb1.trans (hb2.mono hb1.size); clear hb2))
  go_ret
  exact ⟨rfl, hb02⟩

end Go.Proofs.YtbhlhgfgkiclgaaDoor.Set

/- The walks of sets of numbers below 64: one word each. Conditions: those written at each lemma. -/
import Derived.Test.YtbhlhgfgkiclgaaDoorSfn
set_option linter.unusedVariables false
set_option linter.unusedSimpArgs false
set_option maxRecDepth 100000
set_option maxHeartbeats 4000000
namespace Go.Proofs.YtbhlhgfgkiclgaaDoor.Set
open Go.RowKit Go.Proofs.YtbhlhgfgkiclgaaDoor.B

/-- A set of one word. -/
abbrev Sm (n : Nat) : Value := .agg #[.int .u64 n, .pointer none]
theorem fv_small {w : World} (n : Nat) (hn : n < 18446744073709551616) : Fv w 0 (.int .u64 n) (.pointer none) (bitsL n) :=
  ⟨srt_bitsL n, fun u hu => by have := nn_bitsL n u hu; omega, .inl ⟨n, hn, rfl, rfl, rfl⟩⟩

theorem copyS_any (n : Nat) (w : World) : Calls Tryd.prog 56 #[Sm n] w fun e w' => e = .returned (Sm n) ∧ Below w.heap.size w w' := by
  go_enter Tryd.func56, Tryd.ntmps56
  go_wp2
  refine bodyPost_ret (v := .agg #[.int .u64 n, .pointer none]) ?_ rfl ⟨rfl, ?_⟩
  · simp only [results, show Tryd.f56.results = #[.cell 2 42] by kernel_rfl]
    go_simp
  · repeat (first | with_reducible exact Below.refl _ _ | with_reducible apply Below.drew | with_reducible refine Below.alloc ?_ (by simp <;> omega) _ | with_reducible refine Below.setCell ?_ (by simp <;> omega) _)

theorem uniIn_any (q : Nat) (t : TypeId) (m n : Nat) (hm : m < 18446744073709551616) (hn : n < 18446744073709551616) (w : World) (hq : w.heap[q]? = some (.cells #[.int .u64 m, .pointer none] t (0, 0))) :
    Calls Tryd.prog 57 #[.pointer (some ⟨q, 0, none⟩), Sm n] w fun e w' => e = .returned (.tuple #[]) ∧ w'.heap[q]? = some (.cells #[.int .u64 ((m ||| n : Nat) : Int), .pointer none] t (0, 0)) ∧ Below q w w' := by
  have hql := lt_of_block hq
  obtain ⟨c0, c1, f0, f1⟩ := cells_two hq
  have HQ := Lib.hid hq
  have hb0 : Below w.heap.size w (w.alloc (.cells #[.int .u64 n, .pointer none] 42)) := (Below.refl _ _).alloc (Nat.le_refl _) _
  have HN := Lib.hid (or_nat m n hm hn)
  have d0 : (w.alloc (.cells #[.int .u64 n, .pointer none] 42)).cell? ⟨q, 0, none⟩ = some (.int .u64 m) := (hb0.cell (p := ⟨q, 0, none⟩) hql).trans c0
  have g0 : (w.alloc (.cells #[.int .u64 n, .pointer none] 42)).frozen? ⟨q, 0, none⟩ = false := (hb0.frozen (p := ⟨q, 0, none⟩) hql).trans f0
  clear hq
  go_enter Tryd.func57, Tryd.ntmps57
  go_wp2
  go_region
  all_goals
    go_wp2
    first | go_end0 | refine bodyPost_ret (results_none rfl _ _ _) rfl ?_
    rw [HN.out.1]
    refine ⟨rfl, ?_, ?_⟩
    · show ((w.setCell ⟨q, 0, none⟩ _).alloc _).heap[q]? = _
      rw [alloc_old (le_set hql)]
      exact set_two0 HQ.out
    · exact Below.drew (Below.alloc ((Below.refl _ _).setCell (p := ⟨q, 0, none⟩) (Nat.le_refl _) _) (le_set (Nat.le_of_lt hql)) _)

theorem unionS_any (m n : Nat) (hm : m < 18446744073709551616) (hn : n < 18446744073709551616) (w : World) : Calls Tryd.prog 43 #[Sm m, Sm n] w fun e w' => e = .returned (Sm (m ||| n)) ∧ Below w.heap.size w w' := by
  have CP := Lib.hid (fun W => copyS_any m W)
  have FI := Lib.hid (fun q W h => uniIn_any q 42 m n hm hn W h)
  go_enter Tryd.func43, Tryd.ntmps43
  go_wp2_with (first
    | (go_at_call 56; go_loud (with_reducible refine (CP.out _).mono ?_); rintro e w4 ⟨rfl, hb⟩; go_loud (have hb4 : Below w.heap.size w w4 := Below.trans (by repeat (first | with_reducible exact Below.refl _ _ | with_reducible refine Below.alloc ?_ (by simp <;> omega) _)) (hb.mono (show w.heap.size ≤ _ by simp <;> omega)); have hz4 : w.heap.size + 1 + 1 + 1 ≤ w4.heap.size := Nat.le_trans (by simp) hb.size; have HB := Lib.hid hb4; have hbx : (w4.alloc (.cells #[.int .u64 m, .pointer none] 42)).heap[w.heap.size + 1]? = some (.cells #[.int .u64 n, .pointer none] 42 (0, 0)) := (alloc_old (by omega)).trans ((hb.block _ (by simp)).trans ((alloc_old (by simp)).trans (heap_alloc_new' (by simp)))); obtain ⟨d0, d1, _, _⟩ := cells_two hbx; have hbk : w4.heap[w.heap.size + 1 + 1]? = some (.cells #[.int .u64 0, .pointer none] 42 (0, 0)) := (hb.block _ (by simp)).trans (heap_alloc_new' (by simp)); have HBK := Lib.hid hbk; clear hb hb4 hbk hbx))
    | (go_at_call 57; go_loud (with_reducible refine (FI.out _ _ (heap_alloc_new _ _)).mono ?_); rintro e w5 ⟨rfl, hq, hb⟩; go_loud (obtain ⟨c0, c1, _, _⟩ := cells_two hq; have hb5 := (HB.out.alloc (by omega) (.cells #[.int .u64 m, .pointer none] 42)).trans (hb.mono (show w.heap.size ≤ _ by omega)); have HB5 := Lib.hid hb5; have HBK5 := Lib.hid ((hb.block (w.heap.size + 1 + 1) (by omega)).trans ((alloc_old (show w.heap.size + 1 + 1 < w4.heap.size by omega)).trans HBK.out)); obtain ⟨g0, g1, k0, k1⟩ := cells_two HBK5.out; clear hq hb hb5)))
  refine bodyPost_ret (v := .agg #[.int .u64 ((m ||| n : Nat) : Int), .pointer none]) ?_ rfl ⟨rfl, ?_⟩
  · simp only [results, show Tryd.f43.results = #[.cell 4 42] by kernel_rfl]
    go_simp
  · exact (HB5.out.setCell (p := ⟨w.heap.size + 1 + 1, 0, none⟩) (by simp <;> omega) _).setCell (p := ⟨w.heap.size + 1 + 1, 1, none⟩) (by simp <;> omega) _

theorem cunionS_any (m n : Nat) (hm : m < 18446744073709551616) (hn : n < 18446744073709551616) (w : World) : Calls Tryd.prog 29 #[Sm m, Sm n] w fun e w' => e = .returned (Sm (m ||| n)) ∧ Below w.heap.size w w' := by
  obtain ⟨hq, hb0, hsz⟩ := three_boxes 51 w #[.int .u64 m, .pointer none] #[.int .u64 n, .pointer none] #[.int .u64 0, .pointer none]
  have HB0 := Lib.hid hb0
  have CP := Lib.hid (fun W => unionS_any m n hm hn W)
  have HQ := Lib.hid hq
  have HZ := Lib.hid hsz
  clear hq hb0 hsz
  go_enter Tryd.func29, Tryd.ntmps29
  go_wp2_with (first
    | (go_at_call 43; go_loud (with_reducible refine (CP.out _).mono ?_); rintro e w4 ⟨rfl, hb⟩; go_loud (have hbk := (hb.block (w.heap.size + 1 + 1) (by rw [HZ.out]; omega)).trans HQ.out; obtain ⟨g0, g1, k0, k1⟩ := cells_two hbk; have HB := Lib.hid (HB0.out.trans (hb.mono (show w.heap.size ≤ _ by rw [HZ.out]; omega))); clear hb hbk)))
  refine bodyPost_ret (v := .agg #[.int .u64 ((m ||| n : Nat) : Int), .pointer none]) ?_ rfl ⟨rfl, ?_⟩
  · simp only [results, show Tryd.f29.results = #[.cell 4 51] by kernel_rfl]
    go_simp
  · exact (HB.out.setCell (p := ⟨w.heap.size + 1 + 1, 0, none⟩) (by simp <;> omega) _).setCell (p := ⟨w.heap.size + 1 + 1, 1, none⟩) (by simp <;> omega) _

theorem cintsS_any (m n : Nat) (hm : m < 18446744073709551616) (hn : n < 18446744073709551616) (w : World) (hT : Tab w) : Calls Tryd.prog 34 #[Sm m, Sm n] w fun e w' => e = .returned (.bool ((bitsL m).any (hasB (bitsL n)))) ∧ Below w.heap.size w w' :=
  cints_any 0 0 _ _ _ _ (bitsL m) (bitsL n) w hT (fv_small m hm) (fv_small n hn)

theorem addS_any (q : Nat) (t : TypeId) (n k : Nat) (w : World) (hk : k < 64) (hn : n < 18446744073709551616) (hq : w.heap[q]? = some (.cells #[.int .u64 n, .pointer none] t (0, 0))) :
    Calls Tryd.prog 36 #[.pointer (some ⟨q, 0, none⟩), .int .i64 (k : Int)] w fun e w' => e = .returned (.tuple #[]) ∧ w'.heap[q]? = some (.cells #[.int .u64 ((n ||| 2 ^ k : Nat) : Int), .pointer none] t (0, 0)) ∧ Below q w w' := by
  have hql := lt_of_block hq
  obtain ⟨c0, c1, f0, f1⟩ := cells_two hq
  have HW := Lib.hid (or_bit n k hn hk)
  have HQ := Lib.hid hq
  clear hq
  go_enter Tryd.func36, Tryd.ntmps36
  go_wp2
  first | go_end0 | refine bodyPost_ret (results_none rfl _ _ _) rfl ?_
  rw [HW.out.1]
  exact ⟨rfl, set_two0 HQ.out, (Below.refl _ _).setCell (p := ⟨q, 0, none⟩) (Nat.le_refl _) _⟩

theorem caddS_any (q n k : Nat) (w : World) (hk : k < 64) (hn : n < 18446744073709551616) (hq : w.heap[q]? = some (.cells #[.int .u64 n, .pointer none] 51 (0, 0))) :
    Calls Tryd.prog 40 #[.pointer (some ⟨q, 0, none⟩), .int .u16 ((k : Int) + 1)] w fun e w' => e = .returned (.tuple #[]) ∧ w'.heap[q]? = some (.cells #[.int .u64 ((n ||| 2 ^ k : Nat) : Int), .pointer none] 51 (0, 0)) ∧ Below q w w' := by
  have SV := Lib.hid (fun W => show Calls Tryd.prog 49 #[.int .u16 ((k : Int) + 1)] W fun e w' => e = .returned (.int .i64 (k : Int)) ∧ W = w' from by
    have h := setVal_any ((k : Int) + 1) (by omega) (by omega) W
    rwa [show (k : Int) + 1 - 1 = k by omega] at h)
  have AD := Lib.hid (fun W (hW : Dr w W) => addS_any q 51 n k W hk hn (by rw [heap_dr hW]; exact hq))
  have HBB := Lib.hid (fun W w' (hW : Dr w W) (h : Below q W w') => (show Below q w w' from (hW.below _).trans h))
  clear hq
  go_enter Tryd.func40, Tryd.ntmps40
  go_region_with (first
    | (go_at_call 49; go_loud (with_reducible refine (SV.out _).mono ?_); rintro e w1 ⟨rfl, rfl⟩)
    | (go_at_call 36; go_loud (with_reducible refine (AD.out _ (by first | exact (Dr.refl _).drew | exact (Dr.refl _).drewN _ | exact (Dr.refl _).drew.drew)).mono ?_); rintro e w2 ⟨rfl, h1, h2⟩; have H1 := Lib.hid h1; have H2 := Lib.hid (HBB.out _ _ (by first | exact (Dr.refl _).drew | exact (Dr.refl _).drewN _ | exact (Dr.refl _).drew.drew) h2); clear h1 h2))
  all_goals
    go_wp2
    first | go_end0 | refine bodyPost_ret (results_none rfl _ _ _) rfl ?_
    exact ⟨rfl, H1.out, H2.out⟩
end Go.Proofs.YtbhlhgfgkiclgaaDoor.Set

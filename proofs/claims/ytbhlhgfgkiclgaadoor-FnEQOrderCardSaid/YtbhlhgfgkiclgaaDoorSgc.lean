/- The walks of column sets of one word: made of a list. The list in order. Conditions: those written at each lemma. -/
import Derived.Test.YtbhlhgfgkiclgaaDoorSgb
import Derived.Test.YtbhlhgfgkiclgaaDoorSft
set_option linter.unusedVariables false
set_option linter.unusedSimpArgs false
set_option maxRecDepth 100000
set_option maxHeartbeats 4000000
namespace Go.Proofs.YtbhlhgfgkiclgaaDoor.Set
open Go.RowKit Go.Proofs.YtbhlhgfgkiclgaaDoor.B

theorem colsS_any (va : Value) (xs : List Int) (w : World) (hr : Rd w 1 va (up xs).length (nums (up xs))) (hs : Srt xs) (hbd : ∀ u ∈ xs, 0 ≤ u ∧ u < 64) :
    Calls Tryd.prog 24 #[va] w fun e w' => ∃ n : Nat, e = .returned (Sm n) ∧ n < 18446744073709551616 ∧ bitsL n = xs ∧ Below w.heap.size w w' := by
  obtain ⟨A, c, rfl, hlc, hcm⟩ := hr.shape
  have HR := Lib.hid hr
  have HD := Lib.hid hbd
  have UG := Lib.hid (fun k h h2 => up_get xs k h h2)
  have UL := Lib.hid (up_len xs)
  have hlen : xs.length ≤ 64 := srt_len hs 63 (fun u hu => by have := hbd u hu; omega)
  have HI := Lib.hid (insAll_srt hs)
  obtain ⟨N, hN⟩ : ∃ N, N = (up xs).length := ⟨_, rfl⟩
  have HNN := Lib.hid hN
  rw [← hN] at HR
  have hNl : N ≤ 64 := by rw [hN, up_len]; exact hlen
  rw [← hN]
  clear hr hbd hs hN
  go_enter Tryd.func24, Tryd.ntmps24
  go_wp2
  go_loopw [8] (fun v8 wr => ∃ k n : Nat, v8 = .int .i64 k ∧ k ≤ N ∧ n < 18446744073709551616 ∧ Hid (bitsL n = insAll (xs.take k)) ∧ Hid (wr.heap[w.heap.size + 1]? = some (.cells #[.int .u64 n, .pointer none] 51 (0, 0))) ∧ Hid (Below (w.heap.size + 1) (w.alloc (.cells #[.int .u64 0, .pointer none] 51)) wr)) (fun v8 _ => (N - (intOf v8)).toNat)
  case atStart => exact ⟨0, 0, rfl, Nat.zero_le _, by omega, Lib.hid (by rw [bitsL_zero]; rfl), Lib.hid (new_at (by simp)), Lib.hid ((Below.refl _ _).alloc (by simp) _)⟩
  case round =>
    obtain ⟨k, n, rfl, hk, hn, HX, HQ, HB⟩ := hrel
    have hbel : Below w.heap.size w wr := ((Below.refl _ _).alloc (Nat.le_refl _) _).trans (HB.out.mono (by omega))
    by_cases hlt : k < N
    · have hk1 : k < (up xs).length := by rw [← HNN.out]; exact hlt
      have hk2 : k < xs.length := by rw [← UL.out]; exact hk1
      obtain ⟨b, o, rfl, hb, hc⟩ := rd_num HR.out k hk1
      have hd := HD.out _ (List.getElem_mem hk2)
      rw [UG.out k hk1 hk2] at hc
      have hcw : wr.cell? ⟨b, o + k, none⟩ = some (.int .i64 (xs[k] + 1)) := (hbel.cell (p := ⟨b, o + k, none⟩) hb).trans hc
      have hxs := insAll_snoc (xs.take k) xs[k]
      rw [← take_snoc xs k hk2, ← HX.out] at hxs
      generalize xs[k] = y at *
      obtain ⟨j, rfl⟩ : ∃ j : Nat, y = j := ⟨y.toNat, by omega⟩
      have hj : j < 64 := by omega
      have HS : Hid (bitsL (n ||| 2 ^ j) = insAll (xs.take (k + 1))) := Lib.hid (by rw [hxs, bitsL_or n j hj])
      have hn2 := (or_bit n j hn hj).2
      have AD := Lib.hid (caddS_any (w.heap.size + 1) n j wr hj hn HQ.out)
      have hw : IntKind.u16.wrap ((j : Int) + 1) = (j : Int) + 1 := by rw [IntKind.wrap_u16]; omega
      clear hc hd hxs
      go_wp2_with (first
        | (go_at_call 40; (with_reducible refine AD.out.mono ?_); rintro e w1 ⟨rfl, hq1, hb1⟩; have HQ1 := Lib.hid hq1; have HB1 := Lib.hid (HB.out.trans hb1); clear hq1 hb1))
      go_roundw
      case rel => exact ⟨k + 1, n ||| 2 ^ j, by go_num, by omega, hn2, HS, HQ1, HB1⟩
      case measure => simp [intOf]; omega
    · have hkl : xs.length ≤ k := by have h1 := HNN.out; have h2 := UL.out; omega
      have HX2 : Hid (bitsL n = xs) := Lib.hid (by rw [HX.out, List.take_of_length_le hkl, HI.out])
      obtain ⟨c0, c1, f0, f1⟩ := cells_two HQ.out
      have h2 : wr.heap[w.heap.size]? = some (.cells #[.int .u64 0, .pointer none] 51 (0, 0)) := by rw [HB.out.block _ (by omega)]; exact heap_alloc_new _ _
      obtain ⟨d0, d1, g0, g1⟩ := cells_two h2
      have HBE := Lib.hid hbel
      clear h2 hbel
      go_wp2
      refine bodyPost_ret (v := .agg #[.int .u64 n, .pointer none]) ?_ rfl ⟨n, rfl, hn, HX2.out, ?_⟩
      · simp only [results, show Tryd.f24.results = #[.cell 2 51] by kernel_rfl]
        go_simp
      · exact (HBE.out.setCell (p := ⟨w.heap.size, 0, none⟩) (Nat.le_refl _) _).setCell (p := ⟨w.heap.size, 1, none⟩) (Nat.le_refl _) _

/-- The list in order. -/
theorem isOf_any (va : Value) (l : List Int) (w : World) (hr : Rd w 1 va l.length (nums l)) (hs : Srt l) (hl : l.length ≤ 100000) :
    Calls Tryd.prog 28 #[va] w fun e w' => ∃ v, e = .returned v ∧ Rd w' 1 v l.length (nums l) ∧ Below w.heap.size w w' := by
  obtain ⟨A, c, rfl, hlc, hcm⟩ := hr.shape
  have HR := Lib.hid hr
  have HS := Lib.hid hs
  clear hr hs
  go_enter Tryd.func28, Tryd.ntmps28
  go_wp2
  go_loopw [3, 4] (fun v3 v4 wr => ∃ k : Nat, v4 = .int .i64 k ∧ k ≤ l.length ∧ Hid (Rd wr 1 v3 (l.take k).length (nums (l.take k))) ∧ Below w.heap.size w wr) (fun _ v4 _ => (l.length - (intOf v4)).toNat)
  case atStart => exact ⟨0, rfl, Nat.zero_le _, Lib.hid (Rd.nil _ _), Below.refl _ _⟩
  case round =>
    obtain ⟨k, rfl, hk, HO, hbel⟩ := hrel
    have hbs := hbel.size
    by_cases hlt : k < l.length
    · obtain ⟨b, o, rfl, hb, hc⟩ := rd_num HR.out k hlt
      have hcw : wr.cell? ⟨b, o + k, none⟩ = some (.int .i64 l[k]) := (hbel.cell (p := ⟨b, o + k, none⟩) hb).trans hc
      have PU := isPut_any u3 (l.take k) l[k] wr HO.out (by rw [List.length_take]; omega)
      rw [putR_ins l[k] _ (srt_take HS.out k), ins_take HS.out k hlt] at PU
      have PU := Lib.hid PU
      clear hc
      generalize l[k] = y at *
      go_wp2_with (first
        | (go_at_call 6; (with_reducible refine PU.out.mono ?_); rintro e w1 ⟨v1, rfl, hown, hb1⟩; have HO1 := Lib.hid (Rd.of_own hown); have hbel1 := hbel.trans (hb1.mono hbs); clear hown hb1))
      go_roundw
      case rel => exact ⟨k + 1, by go_num, by omega, HO1, hbel1⟩
      case measure => simp [intOf]; omega
    · obtain rfl : k = l.length := by omega
      rw [List.take_length] at HO
      go_wp2
      go_ret
      exact ⟨_, rfl, HO.out, hbel⟩
end Go.Proofs.YtbhlhgfgkiclgaaDoor.Set

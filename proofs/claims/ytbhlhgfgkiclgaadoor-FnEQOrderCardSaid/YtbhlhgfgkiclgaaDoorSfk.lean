/- The walks of column sets: made of a list; asked for the next. Conditions: the listed table of math/bits reads as listed; those written at each lemma. -/
import Derived.Test.YtbhlhgfgkiclgaaDoorSfj
set_option linter.unusedVariables false
set_option linter.unusedSimpArgs false
set_option maxRecDepth 100000
set_option maxHeartbeats 4000000
namespace Go.Proofs.YtbhlhgfgkiclgaaDoor.Set
open Go.RowKit Go.Proofs.YtbhlhgfgkiclgaaDoor.B

theorem cadd_any (B q : Nat) (xs : List Int) (x : Int) (w : World) (hT : Tab w) (hx0 : 1 ≤ x) (hx1 : x ≤ 60000) (hB : B ≤ w.heap.size) (h0 : 0 < w.heap.size) (hs : Fq w B q 51 xs) :
    Calls Tryd.prog 40 #[.pointer (some ⟨q, 0, none⟩), .int .u16 x] w fun e w' => e = .returned (.tuple #[]) ∧ Fq w' B q 51 (ins xs (x - 1)) ∧ Below B w w' := by
  have SV := Lib.hid (fun W => setVal_any x hx0 hx1 W)
  have AD := Lib.hid (fun W (hW : Dr w W) => add_any B q 51 (by decide) xs (x - 1) W (tab_below hT (hW.below _)) (by omega) (by omega) (by rw [size_dr hW]; exact hB) (hs.below (hW.below _)))
  have HBB := Lib.hid (fun W w' (hW : Dr w W) (h : Below B W w') => (show Below B w w' from (hW.below _).trans h))
  clear hT hs
  go_enter Tryd.func40, Tryd.ntmps40
  go_region_with (first
    | (go_at_call 49; go_loud (with_reducible refine (SV.out _).mono ?_); rintro e w1 ⟨rfl, rfl⟩)
    | (go_at_call 36; go_loud (with_reducible refine (AD.out _ (by first | exact (Dr.refl _).drew | exact (Dr.refl _).drewN _ | exact (Dr.refl _).drew.drew)).mono ?_); rintro e w2 ⟨rfl, h1, h2⟩; have H1 := Lib.hid h1; have H2 := Lib.hid (HBB.out _ _ (by first | exact (Dr.refl _).drew | exact (Dr.refl _).drewN _ | exact (Dr.refl _).drew.drew) h2); clear h1 h2))
  all_goals
    go_wp2
    first | go_end0 | refine bodyPost_ret (results_none rfl _ _ _) rfl ?_
    exact ⟨rfl, H1.out, H2.out⟩

theorem columns_any (va : Value) (l : List Int) (w : World) (hT : Tab w) (hr : Rd w 1 va l.length (nums l)) (hl : l.length ≤ 100000) (hbd : ∀ u ∈ l, 1 ≤ u ∧ u ≤ 60000) :
    Calls Tryd.prog 24 #[va] w fun e w' => Copied w (insAll (l.map (· - 1))) e w' := by
  obtain ⟨A, c, rfl, hlc, hcm⟩ := hr.shape
  have HR := Lib.hid hr
  have HT := Lib.hid hT
  have HD := Lib.hid hbd
  clear hr hT hbd
  go_enter Tryd.func24, Tryd.ntmps24
  go_wp2
  go_loopw [8] (fun v8 wr => ∃ k : Nat, v8 = .int .i64 k ∧ k ≤ l.length ∧ Hid (Fq wr (w.heap.size + 1) (w.heap.size + 1) 51 (insAll ((l.take k).map (· - 1)))) ∧ Hid (Below (w.heap.size + 1) (w.alloc (.cells #[.int .u64 0, .pointer none] 51)) wr)) (fun v8 _ => (l.length - (intOf v8)).toNat)
  case atStart => exact ⟨0, rfl, Nat.zero_le _, Lib.hid ⟨Nat.le_refl _, _, _, by rw [← World.size_alloc w (.cells #[.int .u64 0, .pointer none] 51)]; exact heap_alloc_new _ _, List.Pairwise.nil, by simp [insAll], .inl ⟨0, by omega, rfl, rfl, bitsL_zero.symm⟩⟩, Lib.hid ((Below.refl _ _).alloc (by simp) _)⟩
  case round =>
    obtain ⟨k, rfl, hk, HF, HB⟩ := hrel
    have hbel : Below w.heap.size w wr := ((Below.refl _ _).alloc (Nat.le_refl _) _).trans (HB.out.mono (by omega))
    have hbs : w.heap.size + 1 ≤ wr.heap.size := by have := HB.out.size; simp at this; exact this
    by_cases hlt : k < l.length
    · obtain ⟨b, o, rfl, hb, hc⟩ := rd_num HR.out k hlt
      have hcw : wr.cell? ⟨b, o + k, none⟩ = some (.int .i64 l[k]) := (hbel.cell (p := ⟨b, o + k, none⟩) hb).trans hc
      have hd := HD.out _ (List.getElem_mem hlt)
      have HS := Lib.hid (by have h := insAll_snoc ((l.take k).map (· - 1)) (l[k] - 1); rw [show (l.take k).map (· - 1) ++ [l[k] - 1] = (l.take (k + 1)).map (· - 1) from by rw [take_snoc l k hlt, List.map_append]; rfl] at h; exact h)
      have AD := Lib.hid (cadd_any (w.heap.size + 1) (w.heap.size + 1) (insAll ((l.take k).map (· - 1))) l[k] wr (tab_below HT.out hbel) hd.1 hd.2 hbs (by omega) HF.out)
      have hw : IntKind.u16.wrap l[k] = l[k] := by rw [IntKind.wrap_u16]; omega
      clear hc hd
      generalize l[k] = y at *
      go_wp2_with (first
        | (go_at_call 40; (with_reducible refine AD.out.mono ?_); rintro e w1 ⟨rfl, hf1, hb1⟩; have HF1 := Lib.hid hf1; have HB1 := Lib.hid (HB.out.trans hb1); clear hf1 hb1))
      go_roundw
      case rel => exact ⟨k + 1, by go_num, by omega, Lib.hid (by rw [HS.out]; exact HF1.out), HB1⟩
      case measure => simp [intOf]; omega
    · obtain rfl : k = l.length := by omega
      rw [List.take_length] at HF
      obtain ⟨_, s, L, hq, hv⟩ := HF.out
      obtain ⟨n, P, rfl, rfl⟩ := hv.shape
      obtain ⟨c0, c1, f0, f1⟩ := cells_two hq
      have h2 : wr.heap[w.heap.size]? = some (.cells #[.int .u64 0, .pointer none] 51 (0, 0)) := by rw [HB.out.block _ (by omega)]; exact heap_alloc_new _ _
      obtain ⟨d0, d1, g0, g1⟩ := cells_two h2
      have HV := Lib.hid hv
      have H2 := Lib.hid h2
      have HBE := Lib.hid hbel
      clear hq h2 hbel hv
      go_wp2
      refine bodyPost_ret (v := .agg #[.int .u64 n, .pointer P]) ?_ rfl ⟨n, P, rfl, ?_, ?_⟩
      · simp only [results, show Tryd.f24.results = #[.cell 2 51] by kernel_rfl]
        go_simp
      · exact ((HV.out.set (by omega) _).set (by omega) _).mono (by omega)
      · exact (HBE.out.setCell (p := ⟨w.heap.size, 0, none⟩) (Nat.le_refl _) _).setCell (p := ⟨w.heap.size, 1, none⟩) (Nat.le_refl _) _

theorem fnext_any (B : Nat) (s L : Value) (xs : List Int) (x : Int) (w : World) (hT : Tab w) (hv : Fv w B s L xs) (h0 : 0 ≤ x) (h1 : x ≤ 1000) : Calls Tryd.prog 21 #[.agg #[s, L], .int .i64 x] w fun e w' => e = .returned (.tuple #[.int .i64 (orMax (nx xs x)), .bool (nx xs x).isSome]) ∧ Below w.heap.size w w' := by
  obtain ⟨_, h2, h3⟩ := hv
  rcases h3 with ⟨n, hn, rfl, rfl, rfl⟩ | ⟨p, rfl, rfl, hp⟩
  · exact next_bits n x hn h0 (by omega) w hT
  · exact next_large B p xs x w hp h2
/-- The number of the next column. -/
def nxc (xs : List Int) (x : Int) : Int := IntKind.u16.wrap (orMax (nx xs (x - 1)) + 1)
theorem retAny (z : Int) (w : World) : Calls Tryd.prog 50 #[.int .i64 z] w fun e w' => e = .returned (.int .u16 (IntKind.u16.wrap (wrap64 (z + 1)))) ∧ w = w' := by
  go_enter Tryd.func50, Tryd.ntmps50
  go_wp2
  go_ret
  exact ⟨rfl, rfl⟩
theorem cnext_any (B : Nat) (s L : Value) (xs : List Int) (x : Int) (w : World) (hT : Tab w) (hv : Fv w B s L xs) (h0 : 1 ≤ x) (h1 : x ≤ 1000) :
    Calls Tryd.prog 35 #[.agg #[s, L], .int .u16 x] w fun e w' => e = .returned (.tuple #[.int .u16 (IntKind.u16.wrap (wrap64 (orMax (nx xs (x - 1)) + 1))), .bool (nx xs (x - 1)).isSome]) ∧ Below w.heap.size w w' := by
  obtain ⟨n1, P1, rfl, rfl⟩ := hv.shape
  have hb0 : Below w.heap.size w (w.alloc (.cells #[.int .u64 n1, .pointer P1] 51)) := (Below.refl _ _).alloc (Nat.le_refl _) _
  have SV := Lib.hid (fun W => setVal_any x h0 (by omega) W)
  have NX := Lib.hid (fun W (hW : Below w.heap.size w W) => fnext_any B _ _ xs (x - 1) W (tab_below hT hW) (hv.below hW) (by omega) (by omega))
  have HB0 := Lib.hid hb0
  clear hT hv hb0
  generalize (nx xs (x - 1)).isSome = b at *
  generalize orMax (nx xs (x - 1)) = z at *
  have RV := Lib.hid (fun W => retAny z W)
  go_enter Tryd.func35, Tryd.ntmps35
  go_wp2
  go_region_with (first
    | (go_at_call 49; go_loud (with_reducible refine (SV.out _).mono ?_); rintro e w1 ⟨rfl, rfl⟩)
    | (go_at_call 21; go_loud (with_reducible refine (NX.out _ (HB0.out.trans ((by first | exact (Dr.refl _).drew | exact (Dr.refl _).drewN _ | exact (Dr.refl _).drew.drew : Dr _ _).below _))).mono ?_); rintro e w2 ⟨rfl, h1⟩; have H1 := Lib.hid (HB0.out.trans (((by first | exact (Dr.refl _).drew | exact (Dr.refl _).drewN _ | exact (Dr.refl _).drew.drew : Dr _ _).below _).trans (h1.mono (by simp <;> omega)))); clear h1))
  all_goals
    go_wp2_with (first
      | (go_at_call 50; go_loud (with_reducible refine (RV.out _).mono ?_); rintro e w1 ⟨rfl, rfl⟩))
    go_ret2
    exact ⟨rfl, H1.out⟩
end Go.Proofs.YtbhlhgfgkiclgaaDoor.Set

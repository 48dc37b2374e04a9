/- The walks of sets: joined, met, taken from one another, in new sets. Conditions: the listed table of math/bits reads as listed; those written at each lemma. -/
import Derived.Test.YtbhlhgfgkiclgaaDoorSfe
set_option linter.unusedVariables false
set_option linter.unusedSimpArgs false
set_option maxRecDepth 100000
set_option maxHeartbeats 4000000
namespace Go.Proofs.YtbhlhgfgkiclgaaDoor.Set
open Go.RowKit Go.Proofs.YtbhlhgfgkiclgaaDoor.B

theorem Fv.far {w : World} {B : Nat} {s L : Value} {xs : List Int} (h : Fv w B s L xs) : Far w.heap.size L := by
  obtain ⟨_, _, h3⟩ := h
  intro p hp
  rcases h3 with ⟨n, _, _, h4, _⟩ | ⟨p1, _, h5, h6⟩
  · rw [h4] at hp; cases hp
  · rw [h5] at hp
    cases hp
    exact lt_of_block h6.2.2.choose_spec.1
theorem Fv.set2 {w : World} {B q j : Nat} {t : TypeId} {cs : Array Value} {s L : Value} {xs : List Int} (h : Fv w B s L xs) (hq : w.heap[q]? = some (.cells cs t (0, 0))) (ht : t ≠ 3) (ht2 : t ≠ 75) (u : Value) : Fv (w.setCell ⟨q, j, none⟩ u) B s L xs := by
  obtain ⟨h1, h2, h3⟩ := h
  refine ⟨h1, h2, ?_⟩
  rcases h3 with h3 | ⟨p1, h4, h5, h6⟩
  · exact .inl h3
  · exact .inr ⟨p1, h4, h5, h6.set2 hq ht (p_ne_q h6 hq ht2) u⟩
theorem heap_alloc_new' {X : World} {O : Obj} {k : Nat} (h : k = X.heap.size) : (X.alloc O).heap[k]? = some O := new_at h
theorem Fq.of {w : World} {B q : Nat} {t : TypeId} {s L : Value} {xs : List Int} (h : B ≤ q) (h1 : w.heap[q]? = some (.cells #[s, L] t (0, 0))) (h2 : Fv w B s L xs) : Fq w B q t xs := ⟨h, s, L, h1, h2⟩

theorem inter_any (B B1 : Nat) (s L s2 L2 : Value) (xs ys : List Int) (w : World) (hT : Tab w) (hv : Fv w B s L xs) (hv2 : Fv w B1 s2 L2 ys) :
    Calls Tryd.prog 44 #[.agg #[s, L], .agg #[s2, L2]] w fun e w' => Copied w (xs.filter fun u => hasB ys u == true) e w' := by
  obtain ⟨n1, P1, rfl, rfl⟩ := hv.shape
  obtain ⟨n2, P2, rfl, rfl⟩ := hv2.shape
  have CP := Lib.hid (fun W (hW : Below w.heap.size w W) => fcopy_any B _ _ xs W (hv.below hW))
  have FI := Lib.hid (fun W B2 q (hW : Below w.heap.size w W) (hB2 : w.heap.size ≤ B2) (h0 : 0 < B2) (hz : B2 ≤ W.heap.size) (hq : Fq W B2 q 42 xs) => fInter_any B2 B1 q 42 (by decide) xs ys _ _ W (tab_below hT hW) hz hq (hv2.below hW) (fun p hp => Nat.lt_of_lt_of_le (hv2.far p hp) hB2))
  clear hT hv hv2
  go_enter Tryd.func44, Tryd.ntmps44
  go_wp2_with (first
    | (go_at_call 56; go_loud (with_reducible refine (CP.out _ (by repeat (first | with_reducible exact Below.refl _ _ | with_reducible apply Below.drew | with_reducible refine Below.alloc ?_ (by simp <;> omega) _ | with_reducible refine Below.setCell ?_ (by simp <;> omega) _))).mono ?_); rintro e w4 ⟨n, P, rfl, hf, hb⟩; go_loud (have hb4 : Below w.heap.size w w4 := Below.trans (by repeat (first | with_reducible exact Below.refl _ _ | with_reducible refine Below.alloc ?_ (by simp <;> omega) _)) (hb.mono (show w.heap.size ≤ _ by simp <;> omega)); have hz4 : w.heap.size + 1 + 1 + 1 ≤ w4.heap.size := Nat.le_trans (by simp) hb.size; have HF := Lib.hid (hf.mono (show w.heap.size + 1 + 1 + 1 ≤ _ by simp)); have HB := Lib.hid hb4; have hbx : (w4.alloc (.cells #[.int .u64 n, .pointer P] 42)).heap[w.heap.size + 1]? = some (.cells #[.int .u64 n2, .pointer P2] 42 (0, 0)) := (alloc_old (by omega)).trans ((hb.block _ (by simp)).trans ((alloc_old (by simp)).trans (heap_alloc_new' (by simp)))); obtain ⟨d0, d1, _, _⟩ := cells_two hbx; have hbk : w4.heap[w.heap.size + 1 + 1]? = some (.cells #[.int .u64 0, .pointer none] 42 (0, 0)) := (hb.block _ (by simp)).trans (heap_alloc_new' (by simp)); have HBK := Lib.hid hbk; clear hf hb hb4 hbk hbx))
    | (go_at_call 58; go_loud (with_reducible refine (FI.out _ (w.heap.size + 1 + 1 + 1) _ (HB.out.alloc (by omega) _) (by omega) (by omega) (by simp <;> omega) (Fq.of (by omega) (heap_alloc_new _ _) (HF.out.below ((Below.refl _ _).alloc (Nat.le_refl _) _)))).mono ?_); rintro e w5 ⟨rfl, ⟨hge, s', L', hq, hv⟩, hb⟩; go_loud (obtain ⟨n', P', rfl, rfl⟩ := hv.shape; obtain ⟨c0, c1, _, _⟩ := cells_two hq; have hb5 := (HB.out.alloc (by omega) (.cells #[.int .u64 n, .pointer P] 42)).trans (hb.mono (show w.heap.size ≤ _ by omega)); have HB5 := Lib.hid hb5; have HBK5 := Lib.hid ((hb.block (w.heap.size + 1 + 1) (by omega)).trans ((alloc_old (show w.heap.size + 1 + 1 < w4.heap.size by omega)).trans HBK.out)); have HV := Lib.hid hv; obtain ⟨g0, g1, k0, k1⟩ := cells_two HBK5.out; have hz5 := hb.size; clear hq hv hb hb5)))
  refine bodyPost_ret (v := .agg #[.int .u64 n', .pointer P']) ?_ rfl ⟨n', P', rfl, ?_, ?_⟩
  · simp only [results, show Tryd.f44.results = #[.cell 4 42] by kernel_rfl]
    go_simp
  · exact ((HV.out.set2 HBK5.out (by decide) (by decide) _).set2 (set_two0 HBK5.out) (by decide) (by decide) _).mono (by omega)
  · exact (HB5.out.setCell (p := ⟨w.heap.size + 1 + 1, 0, none⟩) (by simp <;> omega) _).setCell (p := ⟨w.heap.size + 1 + 1, 1, none⟩) (by simp <;> omega) _

theorem diff_any (B B1 : Nat) (s L s2 L2 : Value) (xs ys : List Int) (w : World) (hT : Tab w) (hv : Fv w B s L xs) (hv2 : Fv w B1 s2 L2 ys) :
    Calls Tryd.prog 45 #[.agg #[s, L], .agg #[s2, L2]] w fun e w' => Copied w (xs.filter fun u => hasB ys u == false) e w' := by
  obtain ⟨n1, P1, rfl, rfl⟩ := hv.shape
  obtain ⟨n2, P2, rfl, rfl⟩ := hv2.shape
  have CP := Lib.hid (fun W (hW : Below w.heap.size w W) => fcopy_any B _ _ xs W (hv.below hW))
  have FI := Lib.hid (fun W B2 q (hW : Below w.heap.size w W) (hB2 : w.heap.size ≤ B2) (h0 : 0 < B2) (hz : B2 ≤ W.heap.size) (hq : Fq W B2 q 42 xs) => fDiff_any B2 B1 q 42 (by decide) xs ys _ _ W (tab_below hT hW) hz hq (hv2.below hW) (fun p hp => Nat.lt_of_lt_of_le (hv2.far p hp) hB2))
  clear hT hv hv2
  go_enter Tryd.func45, Tryd.ntmps45
  go_wp2_with (first
    | (go_at_call 56; go_loud (with_reducible refine (CP.out _ (by repeat (first | with_reducible exact Below.refl _ _ | with_reducible apply Below.drew | with_reducible refine Below.alloc ?_ (by simp <;> omega) _ | with_reducible refine Below.setCell ?_ (by simp <;> omega) _))).mono ?_); rintro e w4 ⟨n, P, rfl, hf, hb⟩; go_loud (have hb4 : Below w.heap.size w w4 := Below.trans (by repeat (first | with_reducible exact Below.refl _ _ | with_reducible refine Below.alloc ?_ (by simp <;> omega) _)) (hb.mono (show w.heap.size ≤ _ by simp <;> omega)); have hz4 : w.heap.size + 1 + 1 + 1 ≤ w4.heap.size := Nat.le_trans (by simp) hb.size; have HF := Lib.hid (hf.mono (show w.heap.size + 1 + 1 + 1 ≤ _ by simp)); have HB := Lib.hid hb4; have hbx : (w4.alloc (.cells #[.int .u64 n, .pointer P] 42)).heap[w.heap.size + 1]? = some (.cells #[.int .u64 n2, .pointer P2] 42 (0, 0)) := (alloc_old (by omega)).trans ((hb.block _ (by simp)).trans ((alloc_old (by simp)).trans (heap_alloc_new' (by simp)))); obtain ⟨d0, d1, _, _⟩ := cells_two hbx; have hbk : w4.heap[w.heap.size + 1 + 1]? = some (.cells #[.int .u64 0, .pointer none] 42 (0, 0)) := (hb.block _ (by simp)).trans (heap_alloc_new' (by simp)); have HBK := Lib.hid hbk; clear hf hb hb4 hbk hbx))
    | (go_at_call 59; go_loud (with_reducible refine (FI.out _ (w.heap.size + 1 + 1 + 1) _ (HB.out.alloc (by omega) _) (by omega) (by omega) (by simp <;> omega) (Fq.of (by omega) (heap_alloc_new _ _) (HF.out.below ((Below.refl _ _).alloc (Nat.le_refl _) _)))).mono ?_); rintro e w5 ⟨rfl, ⟨hge, s', L', hq, hv⟩, hb⟩; go_loud (obtain ⟨n', P', rfl, rfl⟩ := hv.shape; obtain ⟨c0, c1, _, _⟩ := cells_two hq; have hb5 := (HB.out.alloc (by omega) (.cells #[.int .u64 n, .pointer P] 42)).trans (hb.mono (show w.heap.size ≤ _ by omega)); have HB5 := Lib.hid hb5; have HBK5 := Lib.hid ((hb.block (w.heap.size + 1 + 1) (by omega)).trans ((alloc_old (show w.heap.size + 1 + 1 < w4.heap.size by omega)).trans HBK.out)); have HV := Lib.hid hv; obtain ⟨g0, g1, k0, k1⟩ := cells_two HBK5.out; have hz5 := hb.size; clear hq hv hb hb5)))
  refine bodyPost_ret (v := .agg #[.int .u64 n', .pointer P']) ?_ rfl ⟨n', P', rfl, ?_, ?_⟩
  · simp only [results, show Tryd.f45.results = #[.cell 4 42] by kernel_rfl]
    go_simp
  · exact ((HV.out.set2 HBK5.out (by decide) (by decide) _).set2 (set_two0 HBK5.out) (by decide) (by decide) _).mono (by omega)
  · exact (HB5.out.setCell (p := ⟨w.heap.size + 1 + 1, 0, none⟩) (by simp <;> omega) _).setCell (p := ⟨w.heap.size + 1 + 1, 1, none⟩) (by simp <;> omega) _

theorem union_any (B B1 : Nat) (s L s2 L2 : Value) (xs ys : List Int) (w : World) (hT : Tab w) (hl : xs.length + ys.length < 1000000) (hv : Fv w B s L xs) (hv2 : Fv w B1 s2 L2 ys) :
    Calls Tryd.prog 43 #[.agg #[s, L], .agg #[s2, L2]] w fun e w' => Copied w (uni xs ys) e w' := by
  obtain ⟨n1, P1, rfl, rfl⟩ := hv.shape
  obtain ⟨n2, P2, rfl, rfl⟩ := hv2.shape
  have CP := Lib.hid (fun W (hW : Below w.heap.size w W) => fcopy_any B _ _ xs W (hv.below hW))
  have FI := Lib.hid (fun W B2 q (hW : Below w.heap.size w W) (hB2 : w.heap.size ≤ B2) (h0 : 0 < B2) (hz : B2 ≤ W.heap.size) (hq : Fq W B2 q 42 xs) => fUnion_any B2 B1 q 42 (by decide) (by decide) xs ys _ _ W (tab_below hT hW) h0 hz hq (hv2.below hW) (fun p hp => Nat.lt_of_lt_of_le (hv2.far p hp) hB2) hl)
  clear hT hv hv2
  go_enter Tryd.func43, Tryd.ntmps43
  go_wp2_with (first
    | (go_at_call 56; go_loud (with_reducible refine (CP.out _ (by repeat (first | with_reducible exact Below.refl _ _ | with_reducible apply Below.drew | with_reducible refine Below.alloc ?_ (by simp <;> omega) _ | with_reducible refine Below.setCell ?_ (by simp <;> omega) _))).mono ?_); rintro e w4 ⟨n, P, rfl, hf, hb⟩; go_loud (have hb4 : Below w.heap.size w w4 := Below.trans (by repeat (first | with_reducible exact Below.refl _ _ | with_reducible refine Below.alloc ?_ (by simp <;> omega) _)) (hb.mono (show w.heap.size ≤ _ by simp <;> omega)); have hz4 : w.heap.size + 1 + 1 + 1 ≤ w4.heap.size := Nat.le_trans (by simp) hb.size; have HF := Lib.hid (hf.mono (show w.heap.size + 1 + 1 + 1 ≤ _ by simp)); have HB := Lib.hid hb4; have hbx : (w4.alloc (.cells #[.int .u64 n, .pointer P] 42)).heap[w.heap.size + 1]? = some (.cells #[.int .u64 n2, .pointer P2] 42 (0, 0)) := (alloc_old (by omega)).trans ((hb.block _ (by simp)).trans ((alloc_old (by simp)).trans (heap_alloc_new' (by simp)))); obtain ⟨d0, d1, _, _⟩ := cells_two hbx; have hbk : w4.heap[w.heap.size + 1 + 1]? = some (.cells #[.int .u64 0, .pointer none] 42 (0, 0)) := (hb.block _ (by simp)).trans (heap_alloc_new' (by simp)); have HBK := Lib.hid hbk; clear hf hb hb4 hbk hbx))
    | (go_at_call 57; go_loud (with_reducible refine (FI.out _ (w.heap.size + 1 + 1 + 1) _ (HB.out.alloc (by omega) _) (by omega) (by omega) (by simp <;> omega) (Fq.of (by omega) (heap_alloc_new _ _) (HF.out.below ((Below.refl _ _).alloc (Nat.le_refl _) _)))).mono ?_); rintro e w5 ⟨rfl, ⟨hge, s', L', hq, hv⟩, hb⟩; go_loud (obtain ⟨n', P', rfl, rfl⟩ := hv.shape; obtain ⟨c0, c1, _, _⟩ := cells_two hq; have hb5 := (HB.out.alloc (by omega) (.cells #[.int .u64 n, .pointer P] 42)).trans (hb.mono (show w.heap.size ≤ _ by omega)); have HB5 := Lib.hid hb5; have HBK5 := Lib.hid ((hb.block (w.heap.size + 1 + 1) (by omega)).trans ((alloc_old (show w.heap.size + 1 + 1 < w4.heap.size by omega)).trans HBK.out)); have HV := Lib.hid hv; obtain ⟨g0, g1, k0, k1⟩ := cells_two HBK5.out; have hz5 := hb.size; clear hq hv hb hb5)))
  refine bodyPost_ret (v := .agg #[.int .u64 n', .pointer P']) ?_ rfl ⟨n', P', rfl, ?_, ?_⟩
  · simp only [results, show Tryd.f43.results = #[.cell 4 42] by kernel_rfl]
    go_simp
  · exact ((HV.out.set2 HBK5.out (by decide) (by decide) _).set2 (set_two0 HBK5.out) (by decide) (by decide) _).mono (by omega)
  · exact (HB5.out.setCell (p := ⟨w.heap.size + 1 + 1, 0, none⟩) (by simp <;> omega) _).setCell (p := ⟨w.heap.size + 1 + 1, 1, none⟩) (by simp <;> omega) _

end Go.Proofs.YtbhlhgfgkiclgaaDoor.Set

/- The walks of column sets. Conditions: the listed table of math/bits reads as listed; those written at each lemma. -/
import Derived.Test.YtbhlhgfgkiclgaaDoorSfi
set_option linter.unusedVariables false
set_option linter.unusedSimpArgs false
set_option maxRecDepth 100000
set_option maxHeartbeats 4000000
namespace Go.Proofs.YtbhlhgfgkiclgaaDoor.Set
open Go.RowKit Go.Proofs.YtbhlhgfgkiclgaaDoor.B

theorem setVal_any (x : Int) (h0 : 1 ≤ x) (h1 : x ≤ 60000) (w : World) : Calls Tryd.prog 49 #[.int .u16 x] w fun e w' => e = .returned (.int .i64 (x - 1)) ∧ w = w' := by
  have hw : IntKind.u16.wrap (x - 1) = x - 1 := by rw [IntKind.wrap_u16]; omega
  go_enter Tryd.func49, Tryd.ntmps49
  go_wp2
  go_ret
  refine ⟨ret_int ?_, rfl⟩
  first | rfl | (simp [hw]; done) | (rw [hw]) | (rw [hw, IntKind.wrap_i64]; omega)
theorem retVal_any (x : Int) (h0 : 0 ≤ x) (h1 : x ≤ 60000) (w : World) : Calls Tryd.prog 50 #[.int .i64 x] w fun e w' => e = .returned (.int .u16 (x + 1)) ∧ w = w' := by
  have hw : IntKind.u16.wrap (x + 1) = x + 1 := by rw [IntKind.wrap_u16]; omega
  have hw2 : IntKind.i64.wrap (x + 1) = x + 1 := by rw [IntKind.wrap_i64]; omega
  go_enter Tryd.func50, Tryd.ntmps50
  go_wp2
  go_ret
  refine ⟨ret_int ?_, rfl⟩
  first | rfl | (simp [hw, hw2]; done) | (rw [hw2, hw])
theorem three_boxes (t : TypeId) (w : World) (u1 u2 u3 : Array Value) : ((((w.alloc (.cells u1 t)).alloc (.cells u2 t)).alloc (.cells u3 t)).heap[w.heap.size + 1 + 1]? = some (.cells u3 t (0, 0))) ∧ Below w.heap.size w (((w.alloc (.cells u1 t)).alloc (.cells u2 t)).alloc (.cells u3 t)) ∧ (((w.alloc (.cells u1 t)).alloc (.cells u2 t)).alloc (.cells u3 t)).heap.size = w.heap.size + 1 + 1 + 1 :=
  ⟨new_at (by simp), (((Below.refl _ _).alloc (Nat.le_refl _) _).alloc (by simp) _).alloc (by simp <;> omega) _, by simp⟩
theorem two_boxes51 (t : TypeId) (w : World) (u1 u2 : Array Value) : Below w.heap.size w ((w.alloc (.cells u1 t)).alloc (.cells u2 t)) :=
  ((Below.refl _ _).alloc (Nat.le_refl _) _).alloc (by simp) _

theorem cunion_any (B B1 : Nat) (s L s2 L2 : Value) (xs ys : List Int) (w : World) (hT : Tab w) (hl : xs.length + ys.length < 1000000) (hv : Fv w B s L xs) (hv2 : Fv w B1 s2 L2 ys) :
    Calls Tryd.prog 29 #[.agg #[s, L], .agg #[s2, L2]] w fun e w' => Copied w (uni xs ys) e w' := by
  obtain ⟨n1, P1, rfl, rfl⟩ := hv.shape
  obtain ⟨n2, P2, rfl, rfl⟩ := hv2.shape
  obtain ⟨hq, hb0, hsz⟩ := three_boxes 51 w #[.int .u64 n1, .pointer P1] #[.int .u64 n2, .pointer P2] #[.int .u64 0, .pointer none]
  have HB0 := Lib.hid hb0
  have CP := Lib.hid (union_any B B1 _ _ _ _ xs ys _ (tab_below hT hb0) hl (hv.below hb0) (hv2.below hb0))
  have HQ := Lib.hid hq
  have HZ := Lib.hid hsz
  clear hT hv hv2 hq hb0 hsz
  go_enter Tryd.func29, Tryd.ntmps29
  go_wp2_with (first
    | (go_at_call 43; go_loud (with_reducible refine CP.out.mono ?_); rintro e w4 ⟨n, P, rfl, hf, hb⟩; go_loud (have HF := Lib.hid (hf.mono (show w.heap.size ≤ _ by rw [HZ.out]; omega)); have hbk := (hb.block (w.heap.size + 1 + 1) (by rw [HZ.out]; omega)).trans HQ.out; obtain ⟨g0, g1, k0, k1⟩ := cells_two hbk; have HBK := Lib.hid hbk; have HB := Lib.hid (HB0.out.trans (hb.mono (show w.heap.size ≤ _ by rw [HZ.out]; omega))); clear hf hb hbk)))
  refine bodyPost_ret (v := .agg #[.int .u64 n, .pointer P]) ?_ rfl ⟨n, P, rfl, ?_, ?_⟩
  · simp only [results, show Tryd.f29.results = #[.cell 4 51] by kernel_rfl]
    go_simp
  · exact (HF.out.set2 HBK.out (by decide) (by decide) _).set2 (set_two0 HBK.out) (by decide) (by decide) _
  · exact (HB.out.setCell (p := ⟨w.heap.size + 1 + 1, 0, none⟩) (by simp <;> omega) _).setCell (p := ⟨w.heap.size + 1 + 1, 1, none⟩) (by simp <;> omega) _

theorem cinter_any (B B1 : Nat) (s L s2 L2 : Value) (xs ys : List Int) (w : World) (hT : Tab w) (hv : Fv w B s L xs) (hv2 : Fv w B1 s2 L2 ys) :
    Calls Tryd.prog 30 #[.agg #[s, L], .agg #[s2, L2]] w fun e w' => Copied w (xs.filter fun u => hasB ys u == true) e w' := by
  obtain ⟨n1, P1, rfl, rfl⟩ := hv.shape
  obtain ⟨n2, P2, rfl, rfl⟩ := hv2.shape
  obtain ⟨hq, hb0, hsz⟩ := three_boxes 51 w #[.int .u64 n1, .pointer P1] #[.int .u64 n2, .pointer P2] #[.int .u64 0, .pointer none]
  have HB0 := Lib.hid hb0
  have CP := Lib.hid (inter_any B B1 _ _ _ _ xs ys _ (tab_below hT hb0) (hv.below hb0) (hv2.below hb0))
  have HQ := Lib.hid hq
  have HZ := Lib.hid hsz
  clear hT hv hv2 hq hb0 hsz
  go_enter Tryd.func30, Tryd.ntmps30
  go_wp2_with (first
    | (go_at_call 44; go_loud (with_reducible refine CP.out.mono ?_); rintro e w4 ⟨n, P, rfl, hf, hb⟩; go_loud (have HF := Lib.hid (hf.mono (show w.heap.size ≤ _ by rw [HZ.out]; omega)); have hbk := (hb.block (w.heap.size + 1 + 1) (by rw [HZ.out]; omega)).trans HQ.out; obtain ⟨g0, g1, k0, k1⟩ := cells_two hbk; have HBK := Lib.hid hbk; have HB := Lib.hid (HB0.out.trans (hb.mono (show w.heap.size ≤ _ by rw [HZ.out]; omega))); clear hf hb hbk)))
  refine bodyPost_ret (v := .agg #[.int .u64 n, .pointer P]) ?_ rfl ⟨n, P, rfl, ?_, ?_⟩
  · simp only [results, show Tryd.f30.results = #[.cell 4 51] by kernel_rfl]
    go_simp
  · exact (HF.out.set2 HBK.out (by decide) (by decide) _).set2 (set_two0 HBK.out) (by decide) (by decide) _
  · exact (HB.out.setCell (p := ⟨w.heap.size + 1 + 1, 0, none⟩) (by simp <;> omega) _).setCell (p := ⟨w.heap.size + 1 + 1, 1, none⟩) (by simp <;> omega) _

theorem cdiff_any (B B1 : Nat) (s L s2 L2 : Value) (xs ys : List Int) (w : World) (hT : Tab w) (hv : Fv w B s L xs) (hv2 : Fv w B1 s2 L2 ys) :
    Calls Tryd.prog 31 #[.agg #[s, L], .agg #[s2, L2]] w fun e w' => Copied w (xs.filter fun u => hasB ys u == false) e w' := by
  obtain ⟨n1, P1, rfl, rfl⟩ := hv.shape
  obtain ⟨n2, P2, rfl, rfl⟩ := hv2.shape
  obtain ⟨hq, hb0, hsz⟩ := three_boxes 51 w #[.int .u64 n1, .pointer P1] #[.int .u64 n2, .pointer P2] #[.int .u64 0, .pointer none]
  have HB0 := Lib.hid hb0
  have CP := Lib.hid (diff_any B B1 _ _ _ _ xs ys _ (tab_below hT hb0) (hv.below hb0) (hv2.below hb0))
  have HQ := Lib.hid hq
  have HZ := Lib.hid hsz
  clear hT hv hv2 hq hb0 hsz
  go_enter Tryd.func31, Tryd.ntmps31
  go_wp2_with (first
    | (go_at_call 45; go_loud (with_reducible refine CP.out.mono ?_); rintro e w4 ⟨n, P, rfl, hf, hb⟩; go_loud (have HF := Lib.hid (hf.mono (show w.heap.size ≤ _ by rw [HZ.out]; omega)); have hbk := (hb.block (w.heap.size + 1 + 1) (by rw [HZ.out]; omega)).trans HQ.out; obtain ⟨g0, g1, k0, k1⟩ := cells_two hbk; have HBK := Lib.hid hbk; have HB := Lib.hid (HB0.out.trans (hb.mono (show w.heap.size ≤ _ by rw [HZ.out]; omega))); clear hf hb hbk)))
  refine bodyPost_ret (v := .agg #[.int .u64 n, .pointer P]) ?_ rfl ⟨n, P, rfl, ?_, ?_⟩
  · simp only [results, show Tryd.f31.results = #[.cell 4 51] by kernel_rfl]
    go_simp
  · exact (HF.out.set2 HBK.out (by decide) (by decide) _).set2 (set_two0 HBK.out) (by decide) (by decide) _
  · exact (HB.out.setCell (p := ⟨w.heap.size + 1 + 1, 0, none⟩) (by simp <;> omega) _).setCell (p := ⟨w.heap.size + 1 + 1, 1, none⟩) (by simp <;> omega) _

theorem ceq_any (B B1 : Nat) (s L s2 L2 : Value) (xs ys : List Int) (w : World) (hv : Fv w B s L xs) (hv2 : Fv w B1 s2 L2 ys) :
    Calls Tryd.prog 32 #[.agg #[s, L], .agg #[s2, L2]] w fun e w' => e = .returned (.bool (decide (xs = ys))) ∧ Below w.heap.size w w' := by
  obtain ⟨n1, P1, rfl, rfl⟩ := hv.shape
  obtain ⟨n2, P2, rfl, rfl⟩ := hv2.shape
  have hb0 := two_boxes51 51 w #[.int .u64 n1, .pointer P1] #[.int .u64 n2, .pointer P2]
  have HB0 := Lib.hid hb0
  have CP := Lib.hid (equalsV_any B B1 _ _ _ _ xs ys _ (hv.below hb0) (hv2.below hb0))
  clear hv hv2 hb0
  go_enter Tryd.func32, Tryd.ntmps32
  go_wp2_with (first
    | (go_at_call 46; go_loud (with_reducible refine CP.out.mono ?_); rintro e w4 ⟨rfl, hb⟩; go_loud (have HB := Lib.hid (HB0.out.trans (hb.mono (show w.heap.size ≤ _ by simp <;> omega))); clear hb)))
  go_ret
  exact ⟨rfl, HB.out⟩

theorem csub_any (B B1 : Nat) (s L s2 L2 : Value) (xs ys : List Int) (w : World) (hv : Fv w B s L xs) (hv2 : Fv w B1 s2 L2 ys) :
    Calls Tryd.prog 33 #[.agg #[s, L], .agg #[s2, L2]] w fun e w' => e = .returned (.bool (xs.all (hasB ys))) ∧ Below w.heap.size w w' := by
  obtain ⟨n1, P1, rfl, rfl⟩ := hv.shape
  obtain ⟨n2, P2, rfl, rfl⟩ := hv2.shape
  have hb0 := two_boxes51 51 w #[.int .u64 n1, .pointer P1] #[.int .u64 n2, .pointer P2]
  have HB0 := Lib.hid hb0
  have CP := Lib.hid (subsetV_any B B1 _ _ _ _ xs ys _ (hv.below hb0) (hv2.below hb0))
  clear hv hv2 hb0
  go_enter Tryd.func33, Tryd.ntmps33
  go_wp2_with (first
    | (go_at_call 47; go_loud (with_reducible refine CP.out.mono ?_); rintro e w4 ⟨rfl, hb⟩; go_loud (have HB := Lib.hid (HB0.out.trans (hb.mono (show w.heap.size ≤ _ by simp <;> omega))); clear hb)))
  go_ret
  exact ⟨rfl, HB.out⟩

theorem cints_any (B B1 : Nat) (s L s2 L2 : Value) (xs ys : List Int) (w : World) (hT : Tab w) (hv : Fv w B s L xs) (hv2 : Fv w B1 s2 L2 ys) :
    Calls Tryd.prog 34 #[.agg #[s, L], .agg #[s2, L2]] w fun e w' => e = .returned (.bool (xs.any (hasB ys))) ∧ Below w.heap.size w w' := by
  obtain ⟨n1, P1, rfl, rfl⟩ := hv.shape
  obtain ⟨n2, P2, rfl, rfl⟩ := hv2.shape
  have hb0 := two_boxes51 51 w #[.int .u64 n1, .pointer P1] #[.int .u64 n2, .pointer P2]
  have HB0 := Lib.hid hb0
  have CP := Lib.hid (intersV_any B B1 _ _ _ _ xs ys _ (tab_below hT hb0) (hv.below hb0) (hv2.below hb0))
  clear hv hv2 hb0
  go_enter Tryd.func34, Tryd.ntmps34
  go_wp2_with (first
    | (go_at_call 48; go_loud (with_reducible refine CP.out.mono ?_); rintro e w4 ⟨rfl, hb⟩; go_loud (have HB := Lib.hid (HB0.out.trans (hb.mono (show w.heap.size ≤ _ by simp <;> omega))); clear hb)))
  go_ret
  exact ⟨rfl, HB.out⟩

end Go.Proofs.YtbhlhgfgkiclgaaDoor.Set

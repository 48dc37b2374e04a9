/- Lines of points: their beginning, their end, whether they are closed. Conditions: those written at each lemma. -/
import Derived.Test.YtfelbaibbanllaaGea
set_option linter.unusedVariables false
set_option linter.unusedSimpArgs false
set_option maxRecDepth 100000
set_option maxHeartbeats 4000000
namespace Go.Proofs.Ytfelbaibbanllaa.Ge
open Go.RowKit Go.Proofs.Ytfelbaibbanllaa.B
attribute [local go_sem] run_store_float

abbrev lineV (A : Option Addr) (n c : Nat) : Value := .agg #[.int .u32 0, .slice A n c]
/-- A line of these points, in memory of the call's own. -/
def Line (l : List (Nat × Nat)) (w : World) (e : Ending) (w' : World) : Prop := ∃ A c, e = .returned (lineV A l.length c) ∧ w'.ownsRow w.heap.size 61 3 (.slice A l.length c) l.length (qc l) ∧ Below w.heap.size w w'
theorem points_any (A : Option Addr) (c : Nat) (l : List (Nat × Nat)) (w : World) (hr : Rd w 2 (.slice A l.length c) l.length (pc l)) (hl : l.length ≤ 100000) :
    Calls Try.prog 62 #[.slice A l.length c, .int .u32 0] w fun e w' => ∃ A c, e = .returned (.slice A l.length c) ∧ w'.ownsRow w.heap.size 61 3 (.slice A l.length c) l.length (qc l) ∧ Below w.heap.size w w' := by
  have hX := (Below.refl w.heap.size w).alloc (Nat.le_refl _) (.cells #[.int .u32 0] 36)
  have T := Lib.hid (turned_any A c l w.heap.size (w.alloc (.cells #[.int .u32 0] 36)) (hr.below hX) (cell1 (heap_alloc_new w (.cells #[.int .u32 0] 36))).1 (by simp) hl)
  have HX := Lib.hid hX
  have mk := mkf
  clear hr hX
  go_enter Try.func62, Try.ntmps62
  go_wp2_with (go_at_call 86; go_loud ((with_reducible refine T.out.mono ?_); rintro e w2 ⟨A2, c2, rfl, ho, hb⟩; have HO := Lib.hid (ho.mono HX.out.size); have HB := Lib.hid (HX.out.trans (hb.mono HX.out.size)); clear ho hb))
  go_ret
  exact ⟨A2, c2, rfl, HO.out, HB.out⟩
theorem line_any (A : Option Addr) (c : Nat) (l : List (Nat × Nat)) (w : World) (hr : Rd w 2 (.slice A l.length c) l.length (pc l)) (hl : l.length ≤ 100000) :
    Calls Try.prog 35 #[.slice A l.length c] w fun e w' => Line l w e w' := by
  have hX := (Below.refl w.heap.size w).alloc (Nat.le_refl _) (.cells #[.int .u32 0, .slice none 0 0] 57)
  have T := Lib.hid (points_any A c l (w.alloc (.cells #[.int .u32 0, .slice none 0 0] 57)) (hr.below hX) hl)
  have HX := Lib.hid hX
  have HN := Lib.hid (heap_alloc_new w (.cells #[.int .u32 0, .slice none 0 0] 57))
  have hs : w.heap.size < (w.alloc (.cells #[.int .u32 0, .slice none 0 0] 57)).heap.size := by simp
  clear hr hX
  go_enter Try.func35, Try.ntmps35
  go_wp2_with (go_at_call 62; (with_reducible refine T.out.mono ?_); rintro e w2 ⟨A2, c2, rfl, ho, hb⟩; obtain ⟨d0, d1, d2, d3⟩ := cells_two ((hb.block _ hs).trans HN.out); have HB := Lib.hid hb; have HO := Lib.hid ho; clear ho hb)
  refine bodyPost_ret (v := lineV A2 l.length c2) ?_ rfl ⟨A2, c2, rfl, ((own_set (own_set HO.out _ _ hs) _ _ hs).mono HX.out.size), ((HX.out.trans (HB.out.mono HX.out.size)).setCell (Nat.le_refl _) _).setCell (Nat.le_refl _) _⟩
  simp only [results, show Try.f35.results = #[.cell 2 57] by kernel_rfl]
  go_simp

/-- The beginning of a line. -/
theorem start_any (A : Option Addr) (c : Nat) (p : Nat × Nat) (l : List (Nat × Nat)) (w : World) (hr : Rd w 3 (.slice A (p :: l).length c) (p :: l).length (qc (p :: l))) :
    Calls Try.prog 63 #[lineV A (p :: l).length c] w fun e w' => e = .returned (gpV p) ∧ Below w.heap.size w w' := by
  obtain ⟨b, o, rfl, hb, c0, c1, c2⟩ := qc_at hr 0 (by simp)
  have hn : 0 < (p :: l).length := by simp
  have hle := hr.le
  generalize (p :: l).length = n at *
  obtain ⟨x, y⟩ := p
  simp only [List.getElem_cons_zero, Nat.zero_mul, Nat.add_zero] at c0 c1 c2
  clear hr
  go_enter Try.func63, Try.ntmps63
  go_wp2
  refine bodyPost_ret (v := gpV (x, y)) ?_ rfl ⟨rfl, ?_⟩
  · simp only [results, show Try.f63.results = #[.cell 2 61] by kernel_rfl]
    go_simp
  · go_grown

/-- The end of a line. -/
theorem end_any (A : Option Addr) (c m : Nat) (l : List (Nat × Nat)) (w : World) (hr : Rd w 3 (.slice A (m + 1) c) (m + 1) (qc l)) (hl : l.length = m + 1) :
    Calls Try.prog 64 #[lineV A (m + 1) c] w fun e w' => e = .returned (gpV (l[m]'(by omega))) ∧ Below w.heap.size w w' := by
  obtain ⟨b, o, rfl, hb, c0, c1, c2⟩ := qc_at hr m (by omega)
  have hle := hr.le
  generalize l[m]'(by omega) = p at *
  obtain ⟨x, y⟩ := p
  simp only at c0 c1 c2
  clear hr hl
  go_enter Try.func64, Try.ntmps64
  go_wp2
  refine bodyPost_ret (v := gpV (x, y)) ?_ rfl ⟨rfl, ?_⟩
  · simp only [results, show Try.f64.results = #[.cell 2 61] by kernel_rfl]
    go_simp
  · go_grown
theorem startOf_any (A : Option Addr) (n c : Nat) (p : Nat × Nat) (w : World) (h : ∀ W, Below w.heap.size w W → Calls Try.prog 63 #[lineV A n c] W fun e w' => e = .returned (gpV p) ∧ Below W.heap.size W w') :
    Calls Try.prog 37 #[lineV A n c] w fun e w' => e = .returned (gpV p) ∧ Below w.heap.size w w' := by
  have h := Lib.hid h
  have hX := Lib.hid (((Below.refl w.heap.size w).alloc (Nat.le_refl _) (.cells #[.int .u32 0, .slice A n c] 57)).alloc (by simp) (.cells #[.int .u32 0, .float .f64 0, .float .f64 0] 61))
  have hN := Lib.hid (heap_alloc_new (w.alloc (.cells #[.int .u32 0, .slice A n c] 57)) (.cells #[.int .u32 0, .float .f64 0, .float .f64 0] 61))
  have hs1 : (w.alloc (.cells #[.int .u32 0, .slice A n c] 57)).heap.size = w.heap.size + 1 := by simp
  obtain ⟨x, y⟩ := p
  go_enter Try.func37, Try.ntmps37
  go_wp2_with (go_at_call 63; (with_reducible refine (h.out _ hX.out).mono ?_); rintro e w2 ⟨rfl, hb2⟩; obtain ⟨d0, d1, d2, d3, d4, d5⟩ := cells_three ((hb2.block _ (by simp)).trans hN.out); have HB2 := Lib.hid (hX.out.trans (hb2.mono hX.out.size)); clear hb2; rw [hs1] at d0 d1 d2 d3 d4 d5)
  refine bodyPost_ret (v := gpV (x, y)) ?_ rfl ⟨rfl, ?_⟩
  · simp only [results, show Try.f37.results = #[.cell 2 61] by kernel_rfl]
    go_simp
  · exact ((HB2.out.setCell (by simp) _).setCell (by simp) _).setCell (by simp) _
theorem endOf_any (A : Option Addr) (n c : Nat) (p : Nat × Nat) (w : World) (h : ∀ W, Below w.heap.size w W → Calls Try.prog 64 #[lineV A n c] W fun e w' => e = .returned (gpV p) ∧ Below W.heap.size W w') :
    Calls Try.prog 38 #[lineV A n c] w fun e w' => e = .returned (gpV p) ∧ Below w.heap.size w w' := by
  have h := Lib.hid h
  have hX := Lib.hid (((Below.refl w.heap.size w).alloc (Nat.le_refl _) (.cells #[.int .u32 0, .slice A n c] 57)).alloc (by simp) (.cells #[.int .u32 0, .float .f64 0, .float .f64 0] 61))
  have hN := Lib.hid (heap_alloc_new (w.alloc (.cells #[.int .u32 0, .slice A n c] 57)) (.cells #[.int .u32 0, .float .f64 0, .float .f64 0] 61))
  have hs1 : (w.alloc (.cells #[.int .u32 0, .slice A n c] 57)).heap.size = w.heap.size + 1 := by simp
  obtain ⟨x, y⟩ := p
  go_enter Try.func38, Try.ntmps38
  go_wp2_with (go_at_call 64; (with_reducible refine (h.out _ hX.out).mono ?_); rintro e w2 ⟨rfl, hb2⟩; obtain ⟨d0, d1, d2, d3, d4, d5⟩ := cells_three ((hb2.block _ (by simp)).trans hN.out); have HB2 := Lib.hid (hX.out.trans (hb2.mono hX.out.size)); clear hb2; rw [hs1] at d0 d1 d2 d3 d4 d5)
  refine bodyPost_ret (v := gpV (x, y)) ?_ rfl ⟨rfl, ?_⟩
  · simp only [results, show Try.f38.results = #[.cell 2 61] by kernel_rfl]
    go_simp
  · exact ((HB2.out.setCell (by simp) _).setCell (by simp) _).setCell (by simp) _
theorem ptOf_any (p : Nat × Nat) (w : World) : Calls Try.prog 36 #[gpV p] w fun e w' => e = .returned (ptV p) ∧ Below w.heap.size w w' := by
  obtain ⟨x, y⟩ := p
  go_enter Try.func36, Try.ntmps36
  go_wp2
  refine bodyPost_ret (v := ptV (x, y)) ?_ rfl ⟨rfl, ?_⟩
  · simp only [results, show Try.f36.results = #[.cell 2 28] by kernel_rfl]
    go_simp
  · go_grown
theorem geStart_any (A : Option Addr) (c : Nat) (p : Nat × Nat) (l : List (Nat × Nat)) (w : World) (hr : Rd w 2 (.slice A (p :: l).length c) (p :: l).length (pc (p :: l))) (hl : (p :: l).length ≤ 100000) :
    Calls Try.prog 14 #[.slice A (p :: l).length c] w fun e w' => e = .returned (ptV p) ∧ Below w.heap.size w w' := by
  have hX := Lib.hid ((Below.refl w.heap.size w).alloc (Nat.le_refl _) (.cells #[.float .f64 0, .float .f64 0] 28))
  have hN := Lib.hid (heap_alloc_new w (.cells #[.float .f64 0, .float .f64 0] 28))
  have L := Lib.hid (line_any A c (p :: l) _ (hr.below hX.out) hl)
  have hs1 : w.heap.size < (w.alloc (.cells #[.float .f64 0, .float .f64 0] 28)).heap.size := by simp
  have h0 : ((p :: l).length : Int) ≠ 0 := by simp; omega
  have S := Lib.hid (fun W A2 c2 (h : Rd W 3 (.slice A2 (p :: l).length c2) (p :: l).length (qc (p :: l))) => startOf_any A2 _ c2 p W fun W2 hW => start_any A2 c2 p l W2 (h.below hW))
  have PT := Lib.hid (fun W => ptOf_any p W)
  obtain ⟨N, hN1⟩ : ∃ N, N = (p :: l).length := ⟨_, rfl⟩
  have hne : ((N : Int) == 0) = false := by rw [hN1]; simp; omega
  rw [← hN1]
  rw [← hN1] at L S
  unfold Line at L
  rw [← hN1] at L
  obtain ⟨x, y⟩ := p
  clear hr hl h0 hN1
  go_enter Try.func14, Try.ntmps14
  go_wp2_with (first
    | (go_at_call 35; go_loud (with_reducible refine L.out.mono ?_); rintro e w2 ⟨A2, c2, rfl, ho, hb⟩; have HO := Lib.hid (Rd.of_own ho); have HB := Lib.hid hb; clear ho hb)
    | (go_at_call 37; go_loud (with_reducible refine (S.out _ _ _ HO.out).mono ?_); rintro e w3 ⟨rfl, hb⟩; have HB3 := Lib.hid (HB.out.trans (hb.mono HB.out.size)); clear hb)
    | (go_at_call 36; go_loud (with_reducible refine (PT.out _).mono ?_); rintro e w4 ⟨rfl, hb⟩; have HB4 := Lib.hid (HB3.out.trans (hb.mono HB3.out.size)); obtain ⟨d0, d1, d2, d3⟩ := cells_two ((HB4.out.block _ hs1).trans hN.out); clear hb))
  refine bodyPost_ret (v := ptV (x, y)) ?_ rfl ⟨rfl, ?_⟩
  · simp only [results, show Try.f14.results = #[.cell 2 28] by kernel_rfl]
    go_simp
  · exact ((hX.out.trans (HB4.out.mono hX.out.size)).setCell (Nat.le_refl _) _).setCell (Nat.le_refl _) _
end Go.Proofs.Ytfelbaibbanllaa.Ge

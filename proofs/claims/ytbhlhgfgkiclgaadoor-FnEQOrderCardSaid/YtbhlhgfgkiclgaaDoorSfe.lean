/- The walk of one set joined to another one, in place. Conditions: the listed table of math/bits reads as listed; those written at each lemma. -/
import Derived.Test.YtbhlhgfgkiclgaaDoorSfd
set_option linter.unusedVariables false
set_option linter.unusedSimpArgs false
set_option maxRecDepth 100000
set_option maxHeartbeats 4000000
namespace Go.Proofs.YtbhlhgfgkiclgaaDoor.Set
open Go.RowKit Go.Proofs.YtbhlhgfgkiclgaaDoor.B

theorem Sp.set2 {w : World} {B p q j : Nat} {t : TypeId} {cs : Array Value} {xs : List Int} (h : Sp w B p xs) (hq : w.heap[q]? = some (.cells cs t (0, 0))) (ht : t ≠ 3) (hpq : p ≠ q) (u : Value) : Sp (w.setCell ⟨q, j, none⟩ u) B p xs := by
  obtain ⟨h1, h2, v, h3, h4⟩ := h
  refine ⟨h1, h2, v, by rw [Below.heap_setCell _ _ _ _ (show p ≠ (⟨q, j, none⟩ : Addr).block from hpq)]; exact h3, ownsRow_setCell_other h4 (fun e => ?_) u⟩
  rcases h4.2 with ⟨rfl, _⟩ | ⟨g, cap, cur, rfl, _, hg, _⟩
  · simp [Value.ownBlock] at e
  · simp [Value.ownBlock] at e
    subst e
    rw [hg] at hq
    injection hq with hq
    injection hq with _ hq _
    exact ht hq.symm
theorem tab_at {w w1 : World} {B : Nat} (h : Tab w) (hb : Below B w w1) (h0 : 0 < B) : Tab w1 := fun j hj => (hb.cell (p := ⟨0, j, none⟩) h0).trans (h j hj)
theorem set_keep {w : World} {q k j : Nat} {u : Value} (h : k ≠ q) : (w.setCell ⟨q, j, none⟩ u).heap[k]? = w.heap[k]? := Below.heap_setCell _ _ _ _ h

theorem fUnion_any (B B1 q : Nat) (t : TypeId) (ht : t ≠ 75) (ht3 : t ≠ 3) (xs ys : List Int) (s2 L2 : Value) (w : World) (hT : Tab w) (h0 : 0 < B) (hB : B ≤ w.heap.size) (hs : Fq w B q t xs) (hv : Fv w B1 s2 L2 ys) (hf : Far B L2) (hl : xs.length + ys.length < 1000000) :
    Calls Tryd.prog 57 #[.pointer (some ⟨q, 0, none⟩), .agg #[s2, L2]] w fun e w' => e = .returned (.tuple #[]) ∧ Fq w' B q t (uni xs ys) ∧ Below B w w' := by
  obtain ⟨hBq, s, L, hq, hsr, hbd, hxs⟩ := hs
  have hql := lt_of_block hq
  obtain ⟨c0, c1, f0, f1⟩ := cells_two hq
  have HSI := Lib.hid (srt_uni hsr ys).1
  have HBI := Lib.hid (bd_uni hsr hbd hv.2.1)
  have HQ := Lib.hid hq
  have hb0 : Below w.heap.size w (w.alloc (.cells #[s2, L2] 42)) := (Below.refl _ _).alloc (Nat.le_refl _) _
  have hw2 : w.heap.size < (w.alloc (.cells #[s2, L2] 42)).heap.size := by simp
  rcases hxs with ⟨m, hm, rfl, rfl, rfl⟩ | ⟨p, rfl, rfl, hp⟩
  · have hv0 := hv
    obtain ⟨hsr2, hbd2, hv2⟩ := hv
    rcases hv2 with ⟨n, hn, rfl, rfl, rfl⟩ | ⟨p1, rfl, rfl, hp1⟩
    · have HN := Lib.hid (or_nat m n hm hn)
      have HO := Lib.hid (bitsL_or2 m n)
      have d0 : (w.alloc (.cells #[.int .u64 n, .pointer none] 42)).cell? ⟨q, 0, none⟩ = some (.int .u64 m) := (hb0.cell (p := ⟨q, 0, none⟩) hql).trans c0
      have g0 : (w.alloc (.cells #[.int .u64 n, .pointer none] 42)).frozen? ⟨q, 0, none⟩ = false := (hb0.frozen (p := ⟨q, 0, none⟩) hql).trans f0
      clear hT hq hsr hbd hsr2 hbd2 hv0
      go_enter Tryd.func57, Tryd.ntmps57
      go_wp2
      go_region
      all_goals
        go_wp2
        first | go_end0 | refine bodyPost_ret (results_none rfl _ _ _) rfl ?_
        rw [HN.out.1]
        refine ⟨rfl, ⟨hBq, _, _, ?_, HSI.out, HBI.out, .inl ⟨_, HN.out.2, rfl, rfl, HO.out.symm⟩⟩, ?_⟩
        · show ((w.setCell ⟨q, 0, none⟩ _).alloc _).heap[q]? = _
          rw [alloc_old (le_set hql)]
          exact set_two0 HQ.out
        · exact Below.drew (Below.alloc ((Below.refl _ _).setCell (p := ⟨q, 0, none⟩) hBq _) (le_set hB) _)
    · have TL := Lib.hid (toLarge_any q m t hm _ (tab_below hT hb0) (by rw [hb0.block q hql]; exact hq))
      have IN := Lib.hid (fun p p1 W (hW : B ≤ W.heap.size) (h1 : Sp W B p (bitsL m)) (h2 : Sp W 0 p1 ys) (hne : p1 ≠ p) => unionWith_any B 0 p p1 (bitsL m) ys W hW h1 h2 hne hl)
      have TO := Lib.hid (fun p W (hW : Below B w W) (hbx : W.heap[w.heap.size]? = some (.cells #[.int .u64 0, .pointer (some ⟨p1, 0, none⟩)] 42 (0, 0))) (hvv : Sp W B1 p1 ys) (hp : B ≤ p) (hpw : p < W.heap.size) => to_any w.heap.size 42 (.int .u64 0) (.pointer (some ⟨p1, 0, none⟩)) ys B1 B p W (tab_at hT hW h0) hbx ⟨hsr2, hbd2, .inr ⟨p1, rfl, rfl, hvv⟩⟩ hf hp hpw)
      have H1 := Lib.hid (hp1.below hb0)
      have hp1B := hf p1 rfl
      have pe := ptr_eq p1 0
      clear hT hq hsr hbd hsr2 hbd2 hv0 hp1 hf
      go_enter Tryd.func57, Tryd.ntmps57
      go_wp2_with (first
        | (go_at_call 51; (with_reducible refine TL.out.mono ?_); rintro e w1 ⟨p, rfl, hsp, hb1⟩; have hb01 := hb0.trans (hb1.mono hb0.size); have HP1 := Lib.hid hsp; have HB1 := Lib.hid hb1; have HB01 := Lib.hid hb01; have HS1 := Lib.hid (H1.out.below hb1); have d0 : w1.cell? ⟨q, 0, none⟩ = some (.int .u64 m) := (hb01.cell (p := ⟨q, 0, none⟩) hql).trans c0; have d1 : w1.cell? ⟨q, 1, none⟩ = some (.pointer none) := (hb01.cell (p := ⟨q, 1, none⟩) hql).trans c1; have g0 : w1.frozen? ⟨q, 0, none⟩ = false := (hb01.frozen (p := ⟨q, 0, none⟩) hql).trans f0; have g1 : w1.frozen? ⟨q, 1, none⟩ = false := (hb01.frozen (p := ⟨q, 1, none⟩) hql).trans f1; have hz1 := hb1.size; clear hsp hb1 hb01))
      have hbq : w1.heap[q]? = some (.cells #[.int .u64 m, .pointer none] t (0, 0)) := by rw [HB01.out.block q hql]; exact HQ.out
      have hbox : w1.heap[w.heap.size]? = some (.cells #[.int .u64 0, .pointer (some ⟨p1, 0, none⟩)] 42 (0, 0)) := by rw [HB1.out.block _ hw2]; exact heap_alloc_new _ _
      have hbs0 : w.heap.size ≤ w1.heap.size := HB01.out.size
      have hsz : (w.alloc (.cells #[.int .u64 0, .pointer (some ⟨p1, 0, none⟩)] 42)).heap.size = w.heap.size + 1 := by simp
      have hP1 : Sp w1 (w.heap.size + 1) p (bitsL m) := by have h := HP1.out; rwa [hsz] at h
      have hPge := hP1.1
      have HPW := Lib.hid ((((hP1.set (j := 1) (show q < w.heap.size + 1 by omega) (.pointer (some ⟨p, 0, none⟩))).set (j := 0) (show q < w.heap.size + 1 by omega) (.int .u64 0))).mono (B1 := B) (show B ≤ w.heap.size + 1 by omega))
      have HSW := Lib.hid ((HS1.out.set2 (j := 1) hbq ht3 (by omega) (.pointer (some ⟨p, 0, none⟩))).set2 (j := 0) (set_two1 hbq) ht3 (by omega) (.int .u64 0))
      have HBX : Hid (((w1.setCell ⟨q, 1, none⟩ (.pointer (some ⟨p, 0, none⟩))).setCell ⟨q, 0, none⟩ (.int .u64 0)).heap[w.heap.size]? = some (.cells #[.int .u64 0, .pointer (some ⟨p1, 0, none⟩)] 42 (0, 0))) := Lib.hid (by rw [set_keep (by omega), set_keep (by omega)]; exact hbox)
      have HBQ := Lib.hid (set_two0 (u := .int .u64 0) (set_two1 (u := .pointer (some ⟨p, 0, none⟩)) hbq))
      have HBW := Lib.hid (((HB01.out.mono hB).setCell (p := ⟨q, 1, none⟩) hBq (.pointer (some ⟨p, 0, none⟩))).setCell (p := ⟨q, 0, none⟩) hBq (.int .u64 0))
      have hpW : p < ((w1.setCell ⟨q, 1, none⟩ (.pointer (some ⟨p, 0, none⟩))).setCell ⟨q, 0, none⟩ (.int .u64 0)).heap.size := le_set (le_set (lt_of_block HP1.out.2.2.choose_spec.1))
      have hWs : B ≤ ((w1.setCell ⟨q, 1, none⟩ (.pointer (some ⟨p, 0, none⟩))).setCell ⟨q, 0, none⟩ (.int .u64 0)).heap.size := Nat.le_trans hB HBW.out.size
      have hqW : q < ((w1.setCell ⟨q, 1, none⟩ (.pointer (some ⟨p, 0, none⟩))).setCell ⟨q, 0, none⟩ (.int .u64 0)).heap.size := le_set (le_set (show q + 1 ≤ w1.heap.size by omega))
      have hqp : q ≠ p := by omega
      have dW : ((w1.setCell ⟨q, 1, none⟩ (.pointer (some ⟨p, 0, none⟩))).setCell ⟨q, 0, none⟩ (.int .u64 0)).cell? ⟨q, 1, none⟩ = some (.pointer (some ⟨p, 0, none⟩)) := (cells_two HBQ.out).2.1
      clear hbq hbox hP1
      generalize (w1.setCell ⟨q, 1, none⟩ (.pointer (some ⟨p, 0, none⟩))).setCell ⟨q, 0, none⟩ (.int .u64 0) = W at *
      go_region_with (first
        | (go_at_call 51; (with_reducible refine (TO.out p _ (HBW.out.trans ((Dr.refl W).drew.below _)) (by rw [heap_dr (Dr.refl W).drew]; exact HBX.out) (HSW.out.dr (Dr.refl W).drew) (by omega) (by rw [size_dr (Dr.refl W).drew]; exact hpW)).mono ?_); rintro e w2 ⟨p2, rfl, hsp, hne, hb⟩; have hbw := below_dr (Dr.refl W).drew hb; have HP2 := Lib.hid ((HPW.out.dr (Dr.refl W).drew).below hb); have HS2 := Lib.hid hsp; have HNE := Lib.hid hne; have e1 : w2.cell? ⟨q, 1, none⟩ = some (.pointer (some ⟨p, 0, none⟩)) := (hbw.cell (p := ⟨q, 1, none⟩) hqW).trans dW; have hbs2 := hbw.size; have HBW2 := Lib.hid hbw; clear hsp hne hb hbw)
        | (go_at_call 66; (with_reducible refine (IN.out p _ _ (by omega) HP2.out HS2.out HNE.out).mono ?_); rintro e w3 ⟨rfl, h1, h2⟩; have HP3 := Lib.hid h1; have HG3 := Lib.hid h2; clear h1 h2))
      all_goals
        go_wp2
        first | go_end0 | refine bodyPost_ret (results_none rfl _ _ _) rfl ?_
        refine ⟨rfl, ⟨hBq, _, _, by rw [HG3.out.block q (by omega) (fun e => hqp (Option.some.inj e)), HBW2.out.block q hqW]; exact HBQ.out, HSI.out, HBI.out, .inr ⟨p, rfl, rfl, HP3.out⟩⟩, ?_⟩
        exact (HBW.out.trans (HBW2.out.mono hWs)).grown HG3.out (by omega) (by intro j hj; cases hj; omega)
  · have hBp := hp.1
    have hpw := lt_of_block hp.2.2.choose_spec.1
    have hpq := p_ne_q hp hq ht
    have TO := Lib.hid (fun W (hW : Dr (w.alloc (.cells #[s2, L2] 42)) W) => to_any w.heap.size 42 s2 L2 ys B1 B p W (tab_below hT (hb0.trans (hW.below _))) (by rw [heap_dr hW]; exact heap_alloc_new _ _) ((hv.below hb0).dr hW) hf hBp (by rw [size_dr hW]; omega))
    have IN := Lib.hid (fun p1 W (hW : B ≤ W.heap.size) (h1 : Sp W B p xs) (h2 : Sp W 0 p1 ys) (hne : p1 ≠ p) => unionWith_any B 0 p p1 xs ys W hW h1 h2 hne hl)
    have HP := Lib.hid (hp.below hb0)
    have pe := ptr_eq p 0
    obtain ⟨n2, P2, rfl, rfl⟩ := hv.shape
    clear hT hq hsr hbd hv hp
    go_enter Tryd.func57, Tryd.ntmps57
    go_wp2
    go_region_with (first
      | (go_at_call 51; (with_reducible refine (TO.out _ (by first | exact (Dr.refl _).drew | exact (Dr.refl _).drewN _ | exact (Dr.refl _).drew.drew)).mono ?_); rintro e w2 ⟨p1, rfl, hsp, hne, hb⟩; have hb02 := hb0.trans ((below_dr (Dr.refl _).drew hb).mono hb0.size); have HP2 := Lib.hid ((HP.out.dr (Dr.refl _).drew).below hb); have HS2 := Lib.hid hsp; have HNE := Lib.hid hne; have d1 : w2.cell? ⟨q, 1, none⟩ = some (.pointer (some ⟨p, 0, none⟩)) := (hb02.cell (p := ⟨q, 1, none⟩) hql).trans c1; have hbs2 := hb02.size; have HB02 := Lib.hid hb02; clear hsp hne hb hb02)
      | (go_at_call 66; (with_reducible refine (IN.out _ _ (by omega) HP2.out HS2.out HNE.out).mono ?_); rintro e w3 ⟨rfl, h1, h2⟩; have HP3 := Lib.hid h1; have HG3 := Lib.hid h2; clear h1 h2))
    all_goals
      go_wp2
      first | go_end0 | refine bodyPost_ret (results_none rfl _ _ _) rfl ?_
      refine ⟨rfl, ⟨hBq, _, _, by rw [HG3.out.block q (by omega) (fun e => hpq (Option.some.inj e).symm), HB02.out.block q hql]; exact HQ.out, HSI.out, HBI.out, .inr ⟨p, rfl, rfl, HP3.out⟩⟩, ?_⟩
      exact (HB02.out.mono hB).grown HG3.out (by omega) (by intro j hj; cases hj; exact hBp)

end Go.Proofs.YtbhlhgfgkiclgaaDoor.Set

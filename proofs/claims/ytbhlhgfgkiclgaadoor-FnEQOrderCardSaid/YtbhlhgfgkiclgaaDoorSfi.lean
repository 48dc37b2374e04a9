/- The walks of the questions about two sets. Conditions: the listed table of math/bits reads as listed; those written at each lemma. -/
import Derived.Test.YtbhlhgfgkiclgaaDoorSfh
import Derived.BigQuiet
set_option linter.unusedVariables false
set_option linter.unusedSimpArgs false
set_option maxRecDepth 100000
set_option maxHeartbeats 4000000
namespace Go.Proofs.YtbhlhgfgkiclgaaDoor.Set
open Go.RowKit Go.Proofs.YtbhlhgfgkiclgaaDoor.B

theorem two_boxes (w : World) (u1 u2 : Array Value) : ((w.alloc (.cells u1 42)).alloc (.cells u2 42)).heap[w.heap.size]? = some (.cells u1 42 (0, 0)) ∧ ((w.alloc (.cells u1 42)).alloc (.cells u2 42)).heap[w.heap.size + 1]? = some (.cells u2 42 (0, 0)) ∧ Below w.heap.size w ((w.alloc (.cells u1 42)).alloc (.cells u2 42)) :=
  ⟨(alloc_old (by simp)).trans (heap_alloc_new _ _), new_at (by simp), ((Below.refl _ _).alloc (Nat.le_refl _) _).alloc (by simp) _⟩

theorem equalsV_any (B B1 : Nat) (s L s2 L2 : Value) (xs ys : List Int) (w : World) (hv : Fv w B s L xs) (hv2 : Fv w B1 s2 L2 ys) :
    Calls Tryd.prog 46 #[.agg #[s, L], .agg #[s2, L2]] w fun e w' => e = .returned (.bool (decide (xs = ys))) ∧ Below w.heap.size w w' := by
  obtain ⟨q1, q2, hb0⟩ := two_boxes w #[s, L] #[s2, L2]
  have HB0 := Lib.hid hb0
  obtain ⟨hx, hxb, hv⟩ := hv
  obtain ⟨hy, hyb, hv2⟩ := hv2
  rcases hv with ⟨m, hm, rfl, rfl, rfl⟩ | ⟨p, rfl, rfl, hp⟩ <;> rcases hv2 with ⟨n, hn, rfl, rfl, rfl⟩ | ⟨p1, rfl, rfl, hp1⟩
  · have HE : Hid (decide (bitsL m = bitsL n) = decide ((m : Int) = n)) := Lib.hid (by rw [Bool.eq_iff_iff, decide_eq_true_iff, decide_eq_true_iff]; exact ⟨fun h => by rw [bitsL_inj hm hn h], fun h => by rw [show m = n by omega]⟩)
    clear q1 q2 hb0 hx hxb hy hyb
    go_enter Tryd.func46, Tryd.ntmps46
    go_wp2
    go_ret
    exact ⟨ret_bool HE.out.symm, HB0.out⟩
  · have TS := Lib.hid (toSmall_any B1 (w.heap.size + 1) p1 42 ys _ q2 (hp1.below hb0) hy hyb)
    have HY := Lib.hid hy
    have e1 := ptr_eq p1 0
    have e2 := ptr_ne p1 0
    rcases hbg : big ys
    · have HBG := Lib.hid hbg
      clear q1 q2 hb0 hx hxb hy hyb hp1
      go_enter Tryd.func46, Tryd.ntmps46
      go_wp2_with (first
        | (go_at_call 61; go_loud (with_reducible refine TS.out.mono ?_); rintro e w1 ⟨n, rfl, hn, hl, hd⟩; rw [hbg]; have HL := Lib.hid hl; have HD := Lib.hid hd; clear hl hd hbg))
      go_ret
      exact ⟨ret_bool (eq_small' HY.out hn hm HL.out HBG.out).symm, HB0.out.trans (HD.out.below _)⟩
    · have HBG := Lib.hid hbg
      clear q1 q2 hb0 hx hxb hy hyb hp1
      go_enter Tryd.func46, Tryd.ntmps46
      go_wp2_with (first
        | (go_at_call 61; go_loud (with_reducible refine TS.out.mono ?_); rintro e w1 ⟨n, rfl, hn, hl, hd⟩; rw [hbg]; have HL := Lib.hid hl; have HD := Lib.hid hd; clear hl hd hbg))
      go_ret
      exact ⟨ret_bool (eq_big HBG.out).2.symm, HB0.out.trans (HD.out.below _)⟩
  · have TS := Lib.hid (toSmall_any B w.heap.size p 42 xs _ q1 (hp.below hb0) hx hxb)
    have HX := Lib.hid hx
    have e1 := ptr_eq p 0
    have e2 := ptr_ne p 0
    rcases hbg : big xs
    · have HBG := Lib.hid hbg
      clear q1 q2 hb0 hx hxb hy hyb hp
      go_enter Tryd.func46, Tryd.ntmps46
      go_wp2_with (first
        | (go_at_call 61; go_loud (with_reducible refine TS.out.mono ?_); rintro e w1 ⟨m, rfl, hm, hl, hd⟩; rw [hbg]; have HL := Lib.hid hl; have HD := Lib.hid hd; clear hl hd hbg))
      go_ret
      exact ⟨ret_bool (eq_small HX.out hm hn HL.out HBG.out).symm, HB0.out.trans (HD.out.below _)⟩
    · have HBG := Lib.hid hbg
      clear q1 q2 hb0 hx hxb hy hyb hp
      go_enter Tryd.func46, Tryd.ntmps46
      go_wp2_with (first
        | (go_at_call 61; go_loud (with_reducible refine TS.out.mono ?_); rintro e w1 ⟨m, rfl, hm, hl, hd⟩; rw [hbg]; have HL := Lib.hid hl; have HD := Lib.hid hd; clear hl hd hbg))
      go_ret
      exact ⟨ret_bool (eq_big HBG.out).1.symm, HB0.out.trans (HD.out.below _)⟩
  · have EQ := Lib.hid (equals_any B B1 p p1 xs ys _ (hp.below hb0) (hp1.below hb0))
    have HE := Lib.hid (eq_all hx hy)
    have e1 := ptr_eq p 0
    have e2 := ptr_ne p 0
    have e3 := ptr_eq p1 0
    have e4 := ptr_ne p1 0
    clear q1 q2 hb0 hx hxb hy hyb hp hp1
    go_enter Tryd.func46, Tryd.ntmps46
    go_wp2_with (first
      | (go_at_call 60; go_loud (with_reducible refine EQ.out.mono ?_); rintro e w1 ⟨rfl, hd⟩; have HD := Lib.hid hd; clear hd))
    go_ret
    exact ⟨ret_bool HE.out, HB0.out.trans (HD.out.below _)⟩

theorem subsetV_any (B B1 : Nat) (s L s2 L2 : Value) (xs ys : List Int) (w : World) (hv : Fv w B s L xs) (hv2 : Fv w B1 s2 L2 ys) :
    Calls Tryd.prog 47 #[.agg #[s, L], .agg #[s2, L2]] w fun e w' => e = .returned (.bool (xs.all (hasB ys))) ∧ Below w.heap.size w w' := by
  obtain ⟨q1, q2, hb0⟩ := two_boxes w #[s, L] #[s2, L2]
  have HB0 := Lib.hid hb0
  obtain ⟨hx, hxb, hv⟩ := hv
  obtain ⟨hy, hyb, hv2⟩ := hv2
  rcases hv with ⟨m, hm, rfl, rfl, rfl⟩ | ⟨p, rfl, rfl, hp⟩ <;> rcases hv2 with ⟨n, hn, rfl, rfl, rfl⟩ | ⟨p1, rfl, rfl, hp1⟩
  · have HE := Lib.hid (sub_bits m n hm)
    have HN := Lib.hid (and_nat m n hm hn)
    clear q1 q2 hb0 hx hxb hy hyb
    go_enter Tryd.func47, Tryd.ntmps47
    go_wp2
    go_ret
    rw [HN.out.1]
    exact ⟨ret_bool HE.out.symm, HB0.out⟩
  · have TS := Lib.hid (toSmall_any B1 (w.heap.size + 1) p1 42 ys _ q2 (hp1.below hb0) hy hyb)
    have HY := Lib.hid hy
    have e1 := ptr_eq p1 0
    have e2 := ptr_ne p1 0
    clear q1 q2 hb0 hx hxb hy hyb hp1
    go_enter Tryd.func47, Tryd.ntmps47
    go_wp2_with (first
      | (go_at_call 61; go_loud (with_reducible refine TS.out.mono ?_); rintro e w1 ⟨n, rfl, hn, hl, hd⟩; have HL := Lib.hid hl; have HD := Lib.hid hd; clear hl hd))
    go_ret
    rw [(and_nat m n hm hn).1]
    exact ⟨ret_bool (sub_low HY.out hm HL.out).symm, HB0.out.trans (HD.out.below _)⟩
  · have TS := Lib.hid (toSmall_any B w.heap.size p 42 xs _ q1 (hp.below hb0) hx hxb)
    have HX := Lib.hid hx
    have e1 := ptr_eq p 0
    have e2 := ptr_ne p 0
    rcases hbg : big xs
    · have HBG := Lib.hid hbg
      clear q1 q2 hb0 hx hxb hy hyb hp
      go_enter Tryd.func47, Tryd.ntmps47
      go_wp2_with (first
        | (go_at_call 61; go_loud (with_reducible refine TS.out.mono ?_); rintro e w1 ⟨m, rfl, hm, hl, hd⟩; rw [hbg]; have HL := Lib.hid hl; have HD := Lib.hid hd; clear hl hd hbg))
      go_ret
      rw [(and_nat m n hm hn).1]
      exact ⟨ret_bool (sub_small HX.out hm HL.out HBG.out).symm, HB0.out.trans (HD.out.below _)⟩
    · have HBG := Lib.hid hbg
      clear q1 q2 hb0 hx hxb hy hyb hp
      go_enter Tryd.func47, Tryd.ntmps47
      go_wp2_with (first
        | (go_at_call 61; go_loud (with_reducible refine TS.out.mono ?_); rintro e w1 ⟨m, rfl, hm, hl, hd⟩; rw [hbg]; have HL := Lib.hid hl; have HD := Lib.hid hd; clear hl hd hbg))
      go_ret
      exact ⟨ret_bool (sub_big HX.out HBG.out).symm, HB0.out.trans (HD.out.below _)⟩
  · have EQ := Lib.hid (subsetOf_any B B1 p p1 xs ys _ (hp.below hb0) (hp1.below hb0))
    have e1 := ptr_eq p 0
    have e2 := ptr_ne p 0
    have e3 := ptr_eq p1 0
    have e4 := ptr_ne p1 0
    clear q1 q2 hb0 hx hxb hy hyb hp hp1
    go_enter Tryd.func47, Tryd.ntmps47
    go_wp2_with (first
      | (go_at_call 62; go_loud (with_reducible refine EQ.out.mono ?_); rintro e w1 ⟨rfl, rfl⟩))
    go_ret
    exact ⟨rfl, HB0.out⟩

theorem intersV_any (B B1 : Nat) (s L s2 L2 : Value) (xs ys : List Int) (w : World) (hT : Tab w) (hv : Fv w B s L xs) (hv2 : Fv w B1 s2 L2 ys) :
    Calls Tryd.prog 48 #[.agg #[s, L], .agg #[s2, L2]] w fun e w' => e = .returned (.bool (xs.any (hasB ys))) ∧ Below w.heap.size w w' := by
  obtain ⟨q1, q2, hb0⟩ := two_boxes w #[s, L] #[s2, L2]
  have HB0 := Lib.hid hb0
  have hv20 := hv2
  obtain ⟨hx, hxb, hv⟩ := hv
  obtain ⟨hy, hyb, hv2⟩ := hv2
  rcases hv with ⟨m, hm, rfl, rfl, rfl⟩ | ⟨p, rfl, rfl, hp⟩
  · rcases hv2 with ⟨n, hn, rfl, rfl, rfl⟩ | ⟨p1, rfl, rfl, hp1⟩
    · have HE := Lib.hid (int_low (m := m) hy hm (low_all hy (big_bits n)))
      have HN := Lib.hid (and_nat m n hm hn)
      clear q1 q2 hb0 hx hxb hy hyb hT hv20
      go_enter Tryd.func48, Tryd.ntmps48
      go_wp2
      go_ret
      rw [HN.out.1]
      exact ⟨ret_bool HE.out.symm, HB0.out⟩
    · have TS := Lib.hid (toSmall_any B1 (w.heap.size + 1) p1 42 ys _ q2 (hp1.below hb0) hy hyb)
      have HY := Lib.hid hy
      have e1 := ptr_eq p1 0
      have e2 := ptr_ne p1 0
      have c0 := (cells_two q1).1
      have hsz : w.heap.size < ((w.alloc (.cells #[.int .u64 m, .pointer none] 42)).alloc (.cells #[.int .u64 0, .pointer (some ⟨p1, 0, none⟩)] 42)).heap.size := by simp; omega
      clear q1 q2 hb0 hx hxb hy hyb hp1 hT hv20
      go_enter Tryd.func48, Tryd.ntmps48
      go_wp2_with (first
        | (go_at_call 61; go_loud (with_reducible refine TS.out.mono ?_); rintro e w1 ⟨n, rfl, hn, hl, hd⟩; have HL := Lib.hid hl; have HD := Lib.hid hd; have d0 : w1.cell? ⟨w.heap.size, 0, none⟩ = some (.int .u64 m) := ((hd.below _).cell (p := ⟨w.heap.size, 0, none⟩) hsz).trans c0; clear hl hd))
      go_ret
      rw [(and_nat m n hm hn).1]
      exact ⟨ret_bool (int_low HY.out hm HL.out).symm, HB0.out.trans (HD.out.below _)⟩
  · have hsz : ((w.alloc (.cells #[.int .u64 0, .pointer (some ⟨p, 0, none⟩)] 42)).alloc (.cells #[s2, L2] 42)).heap.size = w.heap.size + 1 + 1 := by simp
    have TO := Lib.hid (fun W (hW : Dr ((w.alloc (.cells #[.int .u64 0, .pointer (some ⟨p, 0, none⟩)] 42)).alloc (.cells #[s2, L2] 42)) W) => to_any (w.heap.size + 1) 42 s2 L2 ys B1 w.heap.size w.heap.size W (tab_below hT (hb0.trans (hW.below _))) (by rw [heap_dr hW]; exact q2) ((hv20.below hb0).dr hW) hv20.far (Nat.le_refl _) (by rw [size_dr hW, hsz]; omega))
    have IN := Lib.hid (fun W p1 (h1 : Sp W B p xs) (h2 : Sp W 0 p1 ys) => intersects_any B 0 p p1 xs ys W h1 h2)
    have HP := Lib.hid (hp.below hb0)
    have pe := ptr_eq p 0
    obtain ⟨c0, c1, _, _⟩ := cells_two q1
    obtain ⟨n2, P2, rfl, rfl⟩ := hv20.shape
    clear q2 hx hxb hy hyb hT hv20 hv2 hp hb0
    go_enter Tryd.func48, Tryd.ntmps48
    go_wp2
    go_region_with (first
      | (go_at_call 51; go_loud (with_reducible refine (TO.out _ (by first | exact (Dr.refl _).drew | exact (Dr.refl _).drewN _ | exact (Dr.refl _).drew.drew)).mono ?_); rintro e w2 ⟨p1, rfl, hsp, hne, hb⟩; go_loud (have hb2 := below_dr (Dr.refl _).drew hb; have HP2 := Lib.hid ((HP.out.dr (Dr.refl _).drew).below hb); have HS2 := Lib.hid hsp; have d0 : w2.cell? ⟨w.heap.size, 1, none⟩ = some (.pointer (some ⟨p, 0, none⟩)) := (hb2.cell (p := ⟨w.heap.size, 1, none⟩) (by show w.heap.size < _; rw [hsz]; omega)).trans c1; have HB2 := Lib.hid (HB0.out.trans (hb2.mono (show w.heap.size ≤ _ by rw [hsz]; omega))); clear hsp hne hb hb2))
      | (go_at_call 63; go_loud (with_reducible refine (IN.out _ _ HP2.out HS2.out).mono ?_); rintro e w3 ⟨rfl, rfl⟩))
    all_goals
      go_wp2
      go_ret
      exact ⟨rfl, HB2.out⟩

end Go.Proofs.YtbhlhgfgkiclgaaDoor.Set

/- The walks of sets: one set joined to, met with, taken from another one, in place. Conditions: the listed table of math/bits reads as listed; those written at each lemma. -/
import Derived.Test.YtbhlhgfgkiclgaaDoorSfc
set_option linter.unusedVariables false
set_option linter.unusedSimpArgs false
set_option maxRecDepth 100000
set_option maxHeartbeats 4000000
namespace Go.Proofs.YtbhlhgfgkiclgaaDoor.Set
open Go.RowKit Go.Proofs.YtbhlhgfgkiclgaaDoor.B

theorem interIn_any (B B1 p p1 : Nat) (xs ys : List Int) (w : World) (hB : B ≤ w.heap.size) (hs : Sp w B p xs) (h1 : Sp w B1 p1 ys) :
    Calls Tryd.prog 67 #[.pointer (some ⟨p, 0, none⟩), .pointer (some ⟨p1, 0, none⟩)] w fun e w' => e = .returned (.tuple #[]) ∧ Sp w' B p (xs.filter fun u => hasB ys u == true) ∧ w.grownBy w' (some p) := by
  have FI := Lib.hid (filter_any B B1 p p1 xs ys true w hB hs h1)
  clear hs h1
  go_enter Tryd.func67, Tryd.ntmps67
  go_wp2_with (first
    | (go_at_call 70; (with_reducible refine FI.out.mono ?_); rintro e w1 ⟨rfl, h1, h2⟩; have H1 := Lib.hid h1; have H2 := Lib.hid h2; clear h1 h2))
  go_end0
  exact ⟨rfl, H1.out, H2.out⟩
theorem diffIn_any (B B1 p p1 : Nat) (xs ys : List Int) (w : World) (hB : B ≤ w.heap.size) (hs : Sp w B p xs) (h1 : Sp w B1 p1 ys) :
    Calls Tryd.prog 68 #[.pointer (some ⟨p, 0, none⟩), .pointer (some ⟨p1, 0, none⟩)] w fun e w' => e = .returned (.tuple #[]) ∧ Sp w' B p (xs.filter fun u => hasB ys u == false) ∧ w.grownBy w' (some p) := by
  have FI := Lib.hid (filter_any B B1 p p1 xs ys false w hB hs h1)
  clear hs h1
  go_enter Tryd.func68, Tryd.ntmps68
  go_wp2_with (first
    | (go_at_call 70; (with_reducible refine FI.out.mono ?_); rintro e w1 ⟨rfl, h1, h2⟩; have H1 := Lib.hid h1; have H2 := Lib.hid h2; clear h1 h2))
  go_end0
  exact ⟨rfl, H1.out, H2.out⟩

/-- The set's value lies not at block B or behind. -/
def Far (B : Nat) (L : Value) : Prop := ∀ p, L = .pointer (some ⟨p, 0, none⟩) → p < B
theorem to_any (q : Nat) (t : TypeId) (s L : Value) (ys : List Int) (B1 B p : Nat) (w : World) (hT : Tab w) (hq : w.heap[q]? = some (.cells #[s, L] t (0, 0))) (hv : Fv w B1 s L ys) (hf : Far B L) (hp : B ≤ p) (hpw : p < w.heap.size) :
    Calls Tryd.prog 51 #[.pointer (some ⟨q, 0, none⟩)] w fun e w' => ∃ p1, e = .returned (.pointer (some ⟨p1, 0, none⟩)) ∧ Sp w' 0 p1 ys ∧ p1 ≠ p ∧ Below w.heap.size w w' := by
  obtain ⟨h1, h2, h3⟩ := hv
  rcases h3 with ⟨n, hn, rfl, rfl, rfl⟩ | ⟨p1, rfl, rfl, hsp⟩
  · refine (toLarge_any q n t hn w hT hq).mono ?_
    rintro e w' ⟨p1, rfl, hs, hb⟩
    exact ⟨p1, rfl, hs.mono (Nat.zero_le _), by have := hs.1; omega, hb⟩
  · refine (toLarge_large q p1 t w hq).mono ?_
    rintro e w' ⟨rfl, rfl⟩
    exact ⟨p1, rfl, hsp.mono (Nat.zero_le _), by have := hf p1 rfl; omega, Below.refl _ _⟩

theorem filter_low {m n : Nat} {ys : List Int} (hsr : Srt ys) (hl : low ys = bitsL n) (b : Bool) : ((bitsL m).filter fun u => hasB (bitsL n) u == b) = (bitsL m).filter fun u => hasB ys u == b := by
  refine List.filter_congr fun u hu => ?_
  have h64 := nn_bitsL m u hu
  congr 1
  rw [Bool.eq_iff_iff, hasB_iff (srt_bitsL n), hasB_iff hsr, ← hl]
  unfold low
  rw [List.mem_filter]
  constructor
  · exact fun h => h.1
  · exact fun h => ⟨h, by simp; omega⟩
theorem and_nat (m n : Nat) (hm : m < 18446744073709551616) (hn : n < 18446744073709551616) : bits .and .u64 (m : Int) (n : Int) = ((m &&& n : Nat) : Int) ∧ m &&& n < 18446744073709551616 := ⟨bits_and_u64_nat m n hm hn, Nat.lt_of_le_of_lt Nat.and_le_left hm⟩
theorem not_nat (m n : Nat) (hm : m < 18446744073709551616) (hn : n < 18446744073709551616) : bits .andNot .u64 (m : Int) (n : Int) = ((m &&& (18446744073709551615 - n) : Nat) : Int) ∧ m &&& (18446744073709551615 - n) < 18446744073709551616 := ⟨u64_andNot_nat m n hm hn, Nat.lt_of_le_of_lt Nat.and_le_left hm⟩
theorem or_nat (m n : Nat) (hm : m < 18446744073709551616) (hn : n < 18446744073709551616) : bits .or .u64 (m : Int) (n : Int) = ((m ||| n : Nat) : Int) ∧ m ||| n < 18446744073709551616 := ⟨bits_or_u64_nat m n hm hn, Nat.or_lt_two_pow (n := 64) hm hn⟩
theorem bd_filter {xs : List Int} {f : Int → Bool} (h : ∀ u ∈ xs, 0 ≤ u ∧ u ≤ 900000) : ∀ u ∈ xs.filter f, 0 ≤ u ∧ u ≤ 900000 := fun u hu => h u (List.mem_filter.1 hu).1
theorem bd_uni {xs ys : List Int} (hs : Srt xs) (h : ∀ u ∈ xs, 0 ≤ u ∧ u ≤ 900000) (h2 : ∀ u ∈ ys, 0 ≤ u ∧ u ≤ 900000) : ∀ u ∈ uni xs ys, 0 ≤ u ∧ u ≤ 900000 := fun u hu => by
  rcases ((srt_uni hs ys).2 u).1 hu with h3 | h3
  · exact h u h3
  · exact h2 u h3

theorem below_dr {w W w' : World} (hd : Dr w W) (h : Below W.heap.size W w') : Below w.heap.size w w' := by
  obtain ⟨k, rfl⟩ := hd
  exact (below_drewN (Below.refl _ _) k).trans h
theorem alloc_old {X : World} {O : Obj} {k : Nat} (hk : k < X.heap.size) : (X.alloc O).heap[k]? = X.heap[k]? := ((Below.refl X.heap.size X).alloc (Nat.le_refl _) O).block k hk
theorem Fv.dr {w W : World} {B : Nat} {s L : Value} {xs : List Int} (h : Fv w B s L xs) (hd : Dr w W) : Fv W B s L xs := by
  obtain ⟨k, rfl⟩ := hd
  exact h
theorem heap_dr {w W : World} (hd : Dr w W) (k : Nat) : W.heap[k]? = w.heap[k]? := by
  obtain ⟨n, rfl⟩ := hd
  rfl
theorem size_dr {w W : World} (hd : Dr w W) : W.heap.size = w.heap.size := by
  obtain ⟨n, rfl⟩ := hd
  rfl
theorem p_ne_q {w : World} {B p q : Nat} {t : TypeId} {cs : Array Value} {xs : List Int} (hp : Sp w B p xs) (hq : w.heap[q]? = some (.cells cs t (0, 0))) (ht : t ≠ 75) : p ≠ q := fun e => by
  subst e
  obtain ⟨_, _, v, h3, _⟩ := hp
  rw [h3] at hq
  injection hq with hq
  injection hq with _ hq _
  exact ht hq.symm

theorem fInter_any (B B1 q : Nat) (t : TypeId) (ht : t ≠ 75) (xs ys : List Int) (s2 L2 : Value) (w : World) (hT : Tab w) (hB : B ≤ w.heap.size) (hs : Fq w B q t xs) (hv : Fv w B1 s2 L2 ys) (hf : Far B L2) :
    Calls Tryd.prog 58 #[.pointer (some ⟨q, 0, none⟩), .agg #[s2, L2]] w fun e w' => e = .returned (.tuple #[]) ∧ Fq w' B q t (xs.filter fun u => hasB ys u == true) ∧ Below B w w' := by
  obtain ⟨hBq, s, L, hq, hsr, hbd, hxs⟩ := hs
  have hql := lt_of_block hq
  obtain ⟨c0, c1, f0, f1⟩ := cells_two hq
  have HSI := Lib.hid (srt_filter hsr (fun u => hasB ys u == true))
  have HBI := Lib.hid (bd_filter (f := fun u => hasB ys u == true) hbd)
  have HQ := Lib.hid hq
  have hb0 : Below w.heap.size w (w.alloc (.cells #[s2, L2] 42)) := (Below.refl _ _).alloc (Nat.le_refl _) _
  rcases hxs with ⟨m, hm, rfl, rfl, rfl⟩ | ⟨p, rfl, rfl, hp⟩
  · obtain ⟨hsr2, hbd2, hv2⟩ := hv
    rcases hv2 with ⟨n, hn, rfl, rfl, rfl⟩ | ⟨p1, rfl, rfl, hp1⟩
    · have HN := Lib.hid (and_nat m n hm hn)
      have HO := Lib.hid (bitsL_and m n)
      clear hT hq hsr hbd hsr2 hbd2
      go_enter Tryd.func58, Tryd.ntmps58
      go_wp2
      first | go_end0 | refine bodyPost_ret (results_none rfl _ _ _) rfl ?_
      rw [HN.out.1]
      refine ⟨rfl, ⟨hBq, _, _, by rw [alloc_old (le_set hql)]; exact set_two0 HQ.out, HSI.out, HBI.out, .inl ⟨_, HN.out.2, rfl, rfl, HO.out.symm⟩⟩, ?_⟩
      exact Below.alloc ((Below.refl _ _).setCell (p := ⟨q, 0, none⟩) hBq _) (le_set hB) _
    · have TS := Lib.hid (toSmall_any B1 w.heap.size p1 42 ys _ (heap_alloc_new w (.cells #[.int .u64 0, .pointer (some ⟨p1, 0, none⟩)] 42)) (hp1.below hb0) hsr2 hbd2)
      have HFL := Lib.hid (fun n (h : low ys = bitsL n) => filter_low (m := m) hsr2 h true)
      have p1n := ptr_ne p1 0
      clear hT hq hsr hbd hsr2 hbd2 hp1
      go_enter Tryd.func58, Tryd.ntmps58
      go_wp2_with (first
        | (go_at_call 61; (with_reducible refine TS.out.mono ?_); rintro e w1 ⟨n, rfl, hn, hl, hd⟩; have HN := Lib.hid (and_nat m n hm hn); have HL := Lib.hid hl; have hb1 := hb0.trans (hd.below _); have HB1 := Lib.hid hb1; have d0 : w1.cell? ⟨q, 0, none⟩ = some (.int .u64 m) := (hb1.cell (p := ⟨q, 0, none⟩) hql).trans c0; have g0 : w1.frozen? ⟨q, 0, none⟩ = false := (hb1.frozen (p := ⟨q, 0, none⟩) hql).trans f0; clear hl hd hb1))
      first | go_end0 | refine bodyPost_ret (results_none rfl _ _ _) rfl ?_
      rw [HN.out.1]
      refine ⟨rfl, ⟨hBq, _, _, set_two0 (by rw [HB1.out.block q hql]; exact HQ.out), HSI.out, HBI.out, .inl ⟨_, HN.out.2, rfl, rfl, ?_⟩⟩, ?_⟩
      · rw [bitsL_and, HFL.out n HL.out]
      · exact (HB1.out.mono hB).setCell (p := ⟨q, 0, none⟩) hBq _
  · have hBp := hp.1
    have hpw := lt_of_block hp.2.2.choose_spec.1
    have hpq := p_ne_q hp hq ht
    have hw2 : w.heap.size < (w.alloc (.cells #[s2, L2] 42)).heap.size := by simp
    have TO := Lib.hid (fun W (hW : Dr (w.alloc (.cells #[s2, L2] 42)) W) => to_any w.heap.size 42 s2 L2 ys B1 B p W (tab_below hT (hb0.trans (hW.below _))) (by rw [heap_dr hW]; exact heap_alloc_new _ _) ((hv.below hb0).dr hW) hf hBp (by rw [size_dr hW]; omega))
    have IN := Lib.hid (fun p1 W (hW : B ≤ W.heap.size) (h1 : Sp W B p xs) (h2 : Sp W 0 p1 ys) => interIn_any B 0 p p1 xs ys W hW h1 h2)
    have HP := Lib.hid (hp.below hb0)
    have pe := ptr_eq p 0
    obtain ⟨n2, P2, rfl, rfl⟩ := hv.shape
    clear hT hq hsr hbd hv hp
    go_enter Tryd.func58, Tryd.ntmps58
    go_wp2
    go_region_with (first
      | (go_at_call 51; (with_reducible refine (TO.out _ (by first | exact (Dr.refl _).drew | exact (Dr.refl _).drewN _ | exact (Dr.refl _).drew.drew)).mono ?_); rintro e w2 ⟨p1, rfl, hsp, hne, hb⟩; have hb02 := hb0.trans ((below_dr (Dr.refl _).drew hb).mono hb0.size); have HP2 := Lib.hid ((HP.out.dr (Dr.refl _).drew).below hb); have HS2 := Lib.hid hsp; have d1 : w2.cell? ⟨q, 1, none⟩ = some (.pointer (some ⟨p, 0, none⟩)) := (hb02.cell (p := ⟨q, 1, none⟩) hql).trans c1; have hbs2 := hb02.size; have HB02 := Lib.hid hb02; clear hsp hne hb hb02)
      | (go_at_call 67; (with_reducible refine (IN.out _ _ (by omega) HP2.out HS2.out).mono ?_); rintro e w3 ⟨rfl, h1, h2⟩; have HP3 := Lib.hid h1; have HG3 := Lib.hid h2; clear h1 h2))
    all_goals
      go_wp2
      first | go_end0 | refine bodyPost_ret (results_none rfl _ _ _) rfl ?_
      refine ⟨rfl, ⟨hBq, _, _, by rw [HG3.out.block q (by omega) (fun e => hpq (Option.some.inj e).symm), HB02.out.block q hql]; exact HQ.out, HSI.out, HBI.out, .inr ⟨p, rfl, rfl, HP3.out⟩⟩, ?_⟩
      exact (HB02.out.mono hB).grown HG3.out (by omega) (by intro j hj; cases hj; exact hBp)

theorem fDiff_any (B B1 q : Nat) (t : TypeId) (ht : t ≠ 75) (xs ys : List Int) (s2 L2 : Value) (w : World) (hT : Tab w) (hB : B ≤ w.heap.size) (hs : Fq w B q t xs) (hv : Fv w B1 s2 L2 ys) (hf : Far B L2) :
    Calls Tryd.prog 59 #[.pointer (some ⟨q, 0, none⟩), .agg #[s2, L2]] w fun e w' => e = .returned (.tuple #[]) ∧ Fq w' B q t (xs.filter fun u => hasB ys u == false) ∧ Below B w w' := by
  obtain ⟨hBq, s, L, hq, hsr, hbd, hxs⟩ := hs
  have hql := lt_of_block hq
  obtain ⟨c0, c1, f0, f1⟩ := cells_two hq
  have HSI := Lib.hid (srt_filter hsr (fun u => hasB ys u == false))
  have HBI := Lib.hid (bd_filter (f := fun u => hasB ys u == false) hbd)
  have HQ := Lib.hid hq
  have hb0 : Below w.heap.size w (w.alloc (.cells #[s2, L2] 42)) := (Below.refl _ _).alloc (Nat.le_refl _) _
  rcases hxs with ⟨m, hm, rfl, rfl, rfl⟩ | ⟨p, rfl, rfl, hp⟩
  · obtain ⟨hsr2, hbd2, hv2⟩ := hv
    rcases hv2 with ⟨n, hn, rfl, rfl, rfl⟩ | ⟨p1, rfl, rfl, hp1⟩
    · have HN := Lib.hid (not_nat m n hm hn)
      have HO := Lib.hid (bitsL_not m n hn)
      clear hT hq hsr hbd hsr2 hbd2
      go_enter Tryd.func59, Tryd.ntmps59
      go_wp2
      first | go_end0 | refine bodyPost_ret (results_none rfl _ _ _) rfl ?_
      rw [HN.out.1]
      refine ⟨rfl, ⟨hBq, _, _, by rw [alloc_old (le_set hql)]; exact set_two0 HQ.out, HSI.out, HBI.out, .inl ⟨_, HN.out.2, rfl, rfl, HO.out.symm⟩⟩, ?_⟩
      exact Below.alloc ((Below.refl _ _).setCell (p := ⟨q, 0, none⟩) hBq _) (le_set hB) _
    · have TS := Lib.hid (toSmall_any B1 w.heap.size p1 42 ys _ (heap_alloc_new w (.cells #[.int .u64 0, .pointer (some ⟨p1, 0, none⟩)] 42)) (hp1.below hb0) hsr2 hbd2)
      have HFL := Lib.hid (fun n (h : low ys = bitsL n) => filter_low (m := m) hsr2 h false)
      have p1n := ptr_ne p1 0
      clear hT hq hsr hbd hsr2 hbd2 hp1
      go_enter Tryd.func59, Tryd.ntmps59
      go_wp2_with (first
        | (go_at_call 61; (with_reducible refine TS.out.mono ?_); rintro e w1 ⟨n, rfl, hn, hl, hd⟩; have HN := Lib.hid (not_nat m n hm hn); have HL := Lib.hid hl; have hb1 := hb0.trans (hd.below _); have HB1 := Lib.hid hb1; have d0 : w1.cell? ⟨q, 0, none⟩ = some (.int .u64 m) := (hb1.cell (p := ⟨q, 0, none⟩) hql).trans c0; have g0 : w1.frozen? ⟨q, 0, none⟩ = false := (hb1.frozen (p := ⟨q, 0, none⟩) hql).trans f0; clear hl hd hb1))
      first | go_end0 | refine bodyPost_ret (results_none rfl _ _ _) rfl ?_
      rw [HN.out.1]
      refine ⟨rfl, ⟨hBq, _, _, set_two0 (by rw [HB1.out.block q hql]; exact HQ.out), HSI.out, HBI.out, .inl ⟨_, HN.out.2, rfl, rfl, ?_⟩⟩, ?_⟩
      · rw [bitsL_not _ _ hn, HFL.out n HL.out]
      · exact (HB1.out.mono hB).setCell (p := ⟨q, 0, none⟩) hBq _
  · have hBp := hp.1
    have hpw := lt_of_block hp.2.2.choose_spec.1
    have hpq := p_ne_q hp hq ht
    have hw2 : w.heap.size < (w.alloc (.cells #[s2, L2] 42)).heap.size := by simp
    have TO := Lib.hid (fun W (hW : Dr (w.alloc (.cells #[s2, L2] 42)) W) => to_any w.heap.size 42 s2 L2 ys B1 B p W (tab_below hT (hb0.trans (hW.below _))) (by rw [heap_dr hW]; exact heap_alloc_new _ _) ((hv.below hb0).dr hW) hf hBp (by rw [size_dr hW]; omega))
    have IN := Lib.hid (fun p1 W (hW : B ≤ W.heap.size) (h1 : Sp W B p xs) (h2 : Sp W 0 p1 ys) => diffIn_any B 0 p p1 xs ys W hW h1 h2)
    have HP := Lib.hid (hp.below hb0)
    have pe := ptr_eq p 0
    obtain ⟨n2, P2, rfl, rfl⟩ := hv.shape
    clear hT hq hsr hbd hv hp
    go_enter Tryd.func59, Tryd.ntmps59
    go_wp2
    go_region_with (first
      | (go_at_call 51; (with_reducible refine (TO.out _ (by first | exact (Dr.refl _).drew | exact (Dr.refl _).drewN _ | exact (Dr.refl _).drew.drew)).mono ?_); rintro e w2 ⟨p1, rfl, hsp, hne, hb⟩; have hb02 := hb0.trans ((below_dr (Dr.refl _).drew hb).mono hb0.size); have HP2 := Lib.hid ((HP.out.dr (Dr.refl _).drew).below hb); have HS2 := Lib.hid hsp; have d1 : w2.cell? ⟨q, 1, none⟩ = some (.pointer (some ⟨p, 0, none⟩)) := (hb02.cell (p := ⟨q, 1, none⟩) hql).trans c1; have hbs2 := hb02.size; have HB02 := Lib.hid hb02; clear hsp hne hb hb02)
      | (go_at_call 68; (with_reducible refine (IN.out _ _ (by omega) HP2.out HS2.out).mono ?_); rintro e w3 ⟨rfl, h1, h2⟩; have HP3 := Lib.hid h1; have HG3 := Lib.hid h2; clear h1 h2))
    all_goals
      go_wp2
      first | go_end0 | refine bodyPost_ret (results_none rfl _ _ _) rfl ?_
      refine ⟨rfl, ⟨hBq, _, _, by rw [HG3.out.block q (by omega) (fun e => hpq (Option.some.inj e).symm), HB02.out.block q hql]; exact HQ.out, HSI.out, HBI.out, .inr ⟨p, rfl, rfl, HP3.out⟩⟩, ?_⟩
      exact (HB02.out.mono hB).grown HG3.out (by omega) (by intro j hj; cases hj; exact hBp)


end Go.Proofs.YtbhlhgfgkiclgaaDoor.Set

/- The reference: do ranges touch, is one part of another, can they be merged; all ranges of one column; do no two overlap. Conditions: those written at each lemma. -/
import Derived.Test.YtfnogpelaoofbaaGreatDoorRuj
set_option linter.unusedVariables false
set_option linter.unusedSimpArgs false
set_option maxRecDepth 100000
set_option maxHeartbeats 8000000
namespace Go.Proofs.YtfnogpelaoofbaaGreatDoor.Rg
open Go.RowKit Go.Proofs.YtfnogpelaoofbaaGreatDoor.B Go.Proofs.YtfnogpelaoofbaaGreatDoor.Sp

theorem touch_gen (a b : Cl) (w : World) (p q r s : Int) (E1 : Hid (∀ W, Calls Tryz.prog 56 #[a.v] W fun e w' => e = .returned (.tuple #[.int .i64 p, .int .i64 q]) ∧ Below W.heap.size W w')) (E2 : Hid (∀ W, Calls Tryz.prog 56 #[b.v] W fun e w' => e = .returned (.tuple #[.int .i64 r, .int .i64 s]) ∧ Below W.heap.size W w')) :
    Calls Tryz.prog 33 #[a.v, b.v] w fun e w' => e = .returned (.bool (decide (p ≤ s ∧ r ≤ q))) ∧ Below w.heap.size w w' := by
  have M0 := Lib.hid (((Mo.start w).push (cl4 a)).push (cl4 b))
  have hz : (w.alloc (cl4 a)).heap.size = w.heap.size + 1 := by simp
  rw [hz] at M0
  clear hz
  obtain ⟨y, hy⟩ : ∃ y, decide (p ≤ s ∧ r ≤ q) = y := ⟨_, rfl⟩
  rw [hy]
  have HY := Lib.hid hy
  clear hy
  by_cases h1 : p ≤ s <;> by_cases h2 : r ≤ q
  all_goals
    go_enter Tryz.func33, Tryz.ntmps33
    go_wp2_with (first
      | (go_at_call 56; (with_reducible refine (E1.out _).mono ?_); rintro e w1 ⟨rfl, hb⟩; have M1 := Lib.hid (M0.out.keep hb); clear hb; obtain ⟨c0, c1, c2, c3⟩ := Rv.cells4 (M1.out.at _ _ (.head _)))
      | (go_at_call 56; (with_reducible refine (E2.out _).mono ?_); rintro e w2 ⟨rfl, hb⟩; have M2 := Lib.hid (M1.out.keep hb); clear hb))
    go_ret
    refine ⟨?_, M2.out.2.1⟩
    rw [← HY.out]
    simp [h1, h2]
theorem touch_cl (a b : Cl) (w : World) (pa : Pcl a) (pb : Pcl b) : Calls Tryz.prog 33 #[a.v, b.v] w fun e w' => e = .returned (.bool (decide (Cn1 a b))) ∧ Below w.heap.size w w' :=
  touch_gen a b w a.lo a.hi b.lo b.hi (Lib.hid (fun W => ends_cl a W pa)) (Lib.hid (fun W => ends_cl b W pb))

theorem noneL_ful {p : List Cl} (h : ∀ c ∈ p, Ful c) (h0 : 0 < p.length) : noneL p = false := by
  unfold noneL
  rw [Bool.or_eq_false_iff]
  refine ⟨?_, decide_eq_false (by omega)⟩
  rw [List.any_eq_false]
  intro c hc
  have := (h c hc).2.2
  simp only [decide_eq_true_eq]
  omega
theorem sameC_ful {a b : Cl} (h : b.lo < b.hi) : sameC a b = true ↔ Eq1 a b := by
  unfold sameC same
  rw [decide_eq_true_iff]
  constructor
  · rintro (⟨_, h2⟩ | h2)
    · have h3 : b.hi ≤ b.lo := h2
      omega
    · exact h2
  · exact fun h2 => .inr h2
theorem meetL_gt {p q : List Cl} {j : Nat} (h1 : j < p.length) (h2 : j < q.length) : gt (meetL p q) j = mtc (gt p j) (gt q j) := by
  rw [gt_at (by rw [meetL_len]; omega), gt_at h1, gt_at h2]
  unfold meetL
  rw [List.getElem_zipWith]
theorem same_sbs {p q : List Cl} {n : Nat} (h : Two p q n) (h0 : 0 < n) : sameL (meetL p q) p = true ↔ Sbs p q := by
  have hl : (meetL p q).length = p.length := by rw [meetL_len]; have := h.1; have := h.2.1; omega
  have hn : noneL p = false := noneL_ful h.2.2.1 (by have := h.1; omega)
  unfold sameL
  rw [hn, Bool.and_false, Bool.false_or, decide_eq_true hl, Bool.true_and]
  rw [zip_all (p := meetL p q) (q := p) (f := sameC) (R := Eq1) hl (fun j hj => sameC_ful (h.2.2.1 _ (gt_mem (by omega))).2.2)]
  constructor
  · intro k j hj
    have h1 := k j (by omega)
    rw [meetL_gt hj (by have := h.1; have := h.2.1; omega)] at h1
    unfold Eq1 at h1
    rw [mtc_lo, mtc_hi] at h1
    unfold Sb1
    obtain ⟨e1, e2⟩ := h1
    split at e1 <;> split at e2 <;> omega
  · intro k j hj
    have h1 := k j (by omega)
    rw [meetL_gt (by omega) (by have := h.1; have := h.2.1; omega)]
    unfold Eq1
    rw [mtc_lo, mtc_hi]
    unfold Sb1 at h1
    split <;> split <;> omega
theorem under_any (v u : Value) (p q : List Cl) (n : Nat) (w : World) (hr : Rd w 4 v p.length (clc p)) (hu : Rd w 4 u q.length (clc q)) (h : Two p q n) (h0 : 0 < n) (hl : n ≤ 1000) :
    Calls Tryz.prog 31 #[v, u] w fun e w' => ∃ b, e = .returned (.bool b) ∧ (b = true ↔ Sbs p q) ∧ Below w.heap.size w w' := by
  have PA : ∀ c ∈ p, Pcl c := fun c hc => ful_pcl (h.2.2.1 c hc)
  have PB : ∀ c ∈ q, Pcl c := fun c hc => ful_pcl (h.2.2.2 c hc)
  have N1 := rrnone_any v p w hr PA
  rw [noneL_ful h.2.2.1 (by have := h.1; omega)] at N1
  have N1 := Lib.hid N1
  have M1 := Lib.hid (fun W (hb : Below w.heap.size w W) => rrmeet_any v u p q W (hr.below hb) (hu.below hb) PA PB (by have := h.1; omega))
  have S1 := Lib.hid (fun v' W (hb : Below w.heap.size w W) hm => rrsame_any v' v (meetL p q) p W hm (hr.below hb) (meetL_pcl PA PB) PA)
  have HS := Lib.hid (same_sbs h h0)
  have hml : (meetL p q).length = min p.length q.length := meetL_len p q
  generalize sameL (meetL p q) p = sm at *
  have HL := Lib.hid hml
  clear PA PB hr hu h hml
  go_enter Tryz.func31, Tryz.ntmps31
  go_wp2_with (first
    | (go_at_call 8; (with_reducible refine N1.out.mono ?_); rintro e w1 ⟨rfl, hb⟩; have B1 := Lib.hid hb; clear hb)
    | (go_at_call 9; (with_reducible refine (M1.out _ B1.out).mono ?_); rintro e w2 ⟨v5, rfl, ho5, hb⟩; have R5 := Lib.hid (Rd.of_own ho5); have B2 := Lib.hid (B1.out.trans (hb.mono B1.out.size)); clear ho5 hb)
    | (go_at_call 21; (with_reducible refine (S1.out v5 _ B2.out R5.out).mono ?_); rintro e w3 ⟨rfl, hb⟩; have B3 := Lib.hid (B2.out.trans (hb.mono B2.out.size)); clear hb))
  go_ret
  exact ⟨sm, rfl, HS.out, B3.out⟩

/-- What RRMerged has found behind k columns. -/
def Dm (p q : List Cl) (k : Nat) (d : Int) (t : Bool) : Prop :=
  (d = 0 ∧ ∀ j, j < k → Eq1 (gt p j) (gt q j)) ∨ (∃ i : Nat, i < k ∧ d = 1 ∧ ¬ Eq1 (gt p i) (gt q i) ∧ (∀ j, j < k → j ≠ i → Eq1 (gt p j) (gt q j)) ∧ (t = true ↔ Cn1 (gt p i) (gt q i))) ∨ (2 ≤ d ∧ ∃ i j, i < k ∧ j < k ∧ i ≠ j ∧ ¬ Eq1 (gt p i) (gt q i) ∧ ¬ Eq1 (gt p j) (gt q j))
theorem Dm.same {p q : List Cl} {k : Nat} {d : Int} {t : Bool} (h : Dm p q k d t) (he : Eq1 (gt p k) (gt q k)) : Dm p q (k + 1) d t := by
  rcases h with ⟨h1, h2⟩ | ⟨i, h1, h2, h3, h4, h5⟩ | ⟨h1, i, j, h2, h3, h4⟩
  · exact .inl ⟨h1, fun j hj => by rcases Nat.lt_or_ge j k with h | h; exact h2 j h; rw [show j = k by omega]; exact he⟩
  · exact .inr (.inl ⟨i, by omega, h2, h3, fun j hj hn => (by rcases Nat.lt_or_ge j k with h | h; exact h4 j h hn; rw [show j = k by omega]; exact he), h5⟩)
  · exact .inr (.inr ⟨h1, i, j, by omega, by omega, h4⟩)
theorem Dm.more {p q : List Cl} {k : Nat} {d : Int} {t t2 : Bool} (h : Dm p q k d t) (he : ¬ Eq1 (gt p k) (gt q k)) (ht : t2 = true ↔ Cn1 (gt p k) (gt q k)) : Dm p q (k + 1) (d + 1) t2 := by
  rcases h with ⟨h1, h2⟩ | ⟨i, h1, h2, h3, h4, h5⟩ | ⟨h1, i, j, h2, h3, h4⟩
  · exact .inr (.inl ⟨k, by omega, by omega, he, fun j hj hn => h2 j (by omega), ht⟩)
  · exact .inr (.inr ⟨by omega, i, k, by omega, by omega, by omega, h3, he⟩)
  · exact .inr (.inr ⟨by omega, i, j, by omega, by omega, h4⟩)
theorem Dm.big {p q : List Cl} {k : Nat} {d : Int} {t : Bool} (h : Dm p q k d t) : 0 ≤ d := by
  rcases h with ⟨h1, h2⟩ | ⟨i, h1, h2, h3, h4, h5⟩ | ⟨h1, i, j, h2, h3, h4⟩ <;> omega
theorem Dm.done {p q : List Cl} {d : Int} {t : Bool} (h : Dm p q p.length d t) (n1 : ¬ Sbs p q) (n2 : ¬ Sbs q p) : ((d == 1) && t) = true ↔ Mrg p q := by
  rw [Bool.and_eq_true, beq_iff_eq]
  constructor
  · rintro ⟨h1, h2⟩
    rcases h with ⟨h3, _⟩ | ⟨i, h3, _, h4, h5, h6⟩ | ⟨h3, _⟩
    · omega
    · exact .inr (.inr ⟨i, ⟨h3, h4, h5⟩, h6.1 h2⟩)
    · omega
  · rintro (h1 | h1 | ⟨i, h1, h2⟩)
    · exact absurd h1 n1
    · exact absurd h1 n2
    · rcases h with ⟨h3, h4⟩ | ⟨i', h3, h3', h4, h5, h6⟩ | ⟨h3, a, b, ha, hb, hab, h4, h5⟩
      · exact absurd (h4 i h1.1) h1.2.1
      · have e : i' = i := by
          by_cases e : i' = i
          · exact e
          · exact absurd (h1.2.2 i' h3 e) h4
        subst e
        exact ⟨h3', h6.2 h2⟩
      · by_cases e : a = i
        · exact absurd (h1.2.2 b hb (fun e2 => hab (by omega))) h5
        · exact absurd (h1.2.2 a ha e) h4
theorem merged_any (v u : Value) (p q : List Cl) (n : Nat) (w : World) (hr : Rd w 4 v p.length (clc p)) (hu : Rd w 4 u q.length (clc q)) (h : Two p q n) (h0 : 0 < n) (hl : n ≤ 1000) :
    Calls Tryz.prog 10 #[v, u] w fun e w' => ∃ b, e = .returned (.bool b) ∧ (b = true ↔ Mrg p q) ∧ Below w.heap.size w w' := by
  have U1 := Lib.hid (under_any v u p q n w hr hu h h0 hl)
  have U2 := Lib.hid (fun W (hb : Below w.heap.size w W) => under_any u v q p n W (hu.below hb) (hr.below hb) h.swap h0 hl)
  obtain ⟨A, c, rfl, hlc, hcm⟩ := hr.shape
  obtain ⟨A2, c2, rfl, hlc2, hcm2⟩ := hu.shape
  have HR := Lib.hid hr
  have HU := Lib.hid hu
  have HT := Lib.hid h
  have hlen : p.length = q.length := h.1.trans h.2.1.symm
  have hpn : p.length ≤ 1000 := by have := h.1; omega
  have HLQ := Lib.hid hlen
  clear hr hu h hlen
  go_enter Tryz.func10, Tryz.ntmps10
  go_wp2_with (first
    | (go_at_call 31; (with_reducible refine U1.out.mono ?_); rintro e w1 ⟨s1, rfl, hs1, hb⟩; have B1 := Lib.hid hb; have E1 := Lib.hid hs1; clear hb hs1 U1; cases s1)
    | (go_at_call 31; (with_reducible refine (U2.out _ B1.out).mono ?_); rintro e w2 ⟨s2, rfl, hs2, hb⟩; have B2 := Lib.hid (B1.out.trans (hb.mono B1.out.size)); have E2 := Lib.hid hs2; clear hb hs2 U2; cases s2))
  rotate_left 2
  · go_ret
    exact ⟨true, rfl, ⟨fun _ => .inl (E1.out.1 (by trivial)), fun _ => rfl⟩, B1.out⟩
  rotate_left 1
  · go_ret
    exact ⟨true, rfl, ⟨fun _ => .inr (.inl (E2.out.1 (by trivial))), fun _ => rfl⟩, B2.out⟩
  · have N1 := Lib.hid (show ¬ Sbs p q from fun h => by have := E1.out.2 h; cases this)
    have N2 := Lib.hid (show ¬ Sbs q p from fun h => by have := E2.out.2 h; cases this)
    clear E1 E2 B1
    go_loopw [5, 6, 7] (fun v5 v6 v7 wr => ∃ (k : Nat) (d : Int) (t : Bool), v7 = .int .i64 k ∧ v5 = .int .i64 d ∧ v6 = .bool t ∧ k ≤ p.length ∧ 0 ≤ d ∧ d ≤ k ∧ Hid (Dm p q k d t) ∧ Hid (Below w.heap.size w wr)) (fun _ _ v7 _ => (p.length - (intOf v7)).toNat)
    case atStart => exact ⟨0, 0, true, rfl, rfl, rfl, Nat.zero_le _, Int.le_refl _, Int.le_refl _, Lib.hid (.inl ⟨rfl, fun j hj => absurd hj (Nat.not_lt_zero j)⟩), B2⟩
    case round =>
      obtain ⟨k, d, t, rfl, rfl, rfl, hk, hd0, hdk, HD, HB⟩ := hrel
      clear B2
      by_cases hlt : k < p.length
      · have hlt2 : k < q.length := by rw [← HLQ.out]; exact hlt
        obtain ⟨b1, o1, rfl, hb1, c0, c1, c2', c3⟩ := rd_cl HR.out k hlt
        obtain ⟨b2, o2, rfl, hb2, d0, d1, d2, d3⟩ := rd_cl HU.out k hlt2
        rw [← gt_at hlt] at c0 c1 c2' c3
        rw [← gt_at hlt2] at d0 d1 d2 d3
        have fp := HT.out.2.2.1 _ (gt_mem hlt)
        have fq := HT.out.2.2.2 _ (gt_mem hlt2)
        have SA := Lib.hid (fun W => same_cl (gt p k) (gt q k) W (ful_pcl fp) (ful_pcl fq))
        have SB := Lib.hid (fun W => touch_cl (gt p k) (gt q k) W (ful_pcl fp) (ful_pcl fq))
        obtain ⟨sm, hsm⟩ : ∃ sm, sameC (gt p k) (gt q k) = sm := ⟨_, rfl⟩
        obtain ⟨tm, htm⟩ : ∃ tm, decide (Cn1 (gt p k) (gt q k)) = tm := ⟨_, rfl⟩
        have HY := Lib.hid (show sm = true ↔ Eq1 (gt p k) (gt q k) from by rw [← hsm]; exact sameC_ful fq.2.2)
        have HT2 := Lib.hid (show tm = true ↔ Cn1 (gt p k) (gt q k) from by rw [← htm]; exact decide_eq_true_iff)
        rw [hsm] at SA
        rw [htm] at SB
        clear hsm htm fp fq
        have HSAME := Lib.hid (@Dm.same p q k d t HD.out)
        have HMORE := Lib.hid (fun he => Dm.more (t2 := tm) HD.out he HT2.out)
        generalize gt p k = P at *
        generalize gt q k = Q at *
        have hno : ∀ (v : Bool) (W : World), (Op.unary .not (.bool v)).run Tryz.prog W = .ok (.bool (!v)) W := fun _ _ => rfl
        go_upto_region 7 with fail
        obtain ⟨X, rfl⟩ : ∃ X : World, X = wr := ⟨_, rfl⟩
        refine Rv.region_goods (n := 48) (by kernel_rfl) #[22, 23, 24, 25, 26, 27, 28, 29, 30, 31] #[] (fun i v W => v = (#[.slice (some ⟨b1, o1, none⟩) p.length c, .int .i64 (k : Int), .pointer (some ⟨b1, o1 + k * 4, none⟩), P.v, .slice (some ⟨b2, o2, none⟩) q.length c2, .int .i64 (k : Int), .pointer (some ⟨b2, o2 + k * 4, none⟩), Q.v, .bool sm, .bool (!sm)] : Array Value).getD i undef) (fun i v w w' h hb => ?_) (fun i h g b hg => ?_) rfl (by kernel_rfl) (by kernel_rfl) (fun i h hr w => ?_) ?_ ?_
        · exact h
        · match i, h, hg with
          | 0, _, hg => cases hg
          | 1, _, hg => cases hg
          | 2, _, hg => cases hg
          | 3, _, hg => cases hg
          | 4, _, hg => cases hg
          | 5, _, hg => cases hg
          | 6, _, hg => cases hg
          | 7, _, hg => cases hg
          | 8, _, hg => cases hg
          | 9, _, hg => cases hg
          | m + 10, h, _ => exact absurd h (by show ¬ m + 10 < 10; omega)
        · match i, h, hr with
          | 0, _, hr => exact Bool.noConfusion (show true = false from hr)
          | 1, _, hr => exact Bool.noConfusion (show true = false from hr)
          | 2, _, hr => exact Bool.noConfusion (show true = false from hr)
          | 3, _, hr => exact Bool.noConfusion (show true = false from hr)
          | 4, _, hr => exact Bool.noConfusion (show true = false from hr)
          | 5, _, hr => exact Bool.noConfusion (show true = false from hr)
          | 6, _, hr => exact Bool.noConfusion (show true = false from hr)
          | 7, _, hr => exact Bool.noConfusion (show true = false from hr)
          | 8, _, hr => exact Bool.noConfusion (show true = false from hr)
          | 9, _, hr => exact Bool.noConfusion (show true = false from hr)
          | m + 10, h, _ => exact absurd h (by show ¬ m + 10 < 10; omega)
        · intro i h a W hrun hbase hpre hdep htr
          have HBW := HB.out.trans (htr.mono HB.out.size)
          have q0 := (HBW.cell (p := ⟨b1, o1 + k * 4, none⟩) hb1).trans c0
          have q1 := (HBW.cell (p := ⟨b1, o1 + k * 4 + 1, none⟩) hb1).trans c1
          have q2 := (HBW.cell (p := ⟨b1, o1 + k * 4 + 2, none⟩) hb1).trans c2'
          have q3 := (HBW.cell (p := ⟨b1, o1 + k * 4 + 3, none⟩) hb1).trans c3
          have r0 := (HBW.cell (p := ⟨b2, o2 + k * 4, none⟩) hb2).trans d0
          have r1 := (HBW.cell (p := ⟨b2, o2 + k * 4 + 1, none⟩) hb2).trans d1
          have r2 := (HBW.cell (p := ⟨b2, o2 + k * 4 + 2, none⟩) hb2).trans d2
          have r3 := (HBW.cell (p := ⟨b2, o2 + k * 4 + 3, none⟩) hb2).trans d3
          match i, h with
          | 0, _ =>
            obtain ⟨e0, x0⟩ := Rv.ev (show a.tmps.getD 0 undef = .slice (some ⟨b1, o1, none⟩) p.length c from hbase 0 rfl)
            exact Rv.step_op (op := Go.Op.move (Go.Operand.tmp 0)) (v := .slice (some ⟨b1, o1, none⟩) p.length c) (w1 := W) rfl rfl (fun d pos aft g => by unfold execOp; go_simp) ⟨_, rfl, rfl, Below.refl _ _⟩
          | 1, _ =>
            obtain ⟨e7, x7⟩ := Rv.ev (show a.tmps.getD 7 undef = .int .i64 (k : Int) from hbase 7 rfl)
            exact Rv.step_op (op := Go.Op.move (Go.Operand.tmp 7)) (v := .int .i64 (k : Int)) (w1 := W) rfl rfl (fun d pos aft g => by unfold execOp; go_simp) ⟨_, rfl, rfl, Below.refl _ _⟩
          | 2, _ =>
            obtain ⟨e22, x22⟩ := Rv.ev (show a.tmps.getD 22 undef = .slice (some ⟨b1, o1, none⟩) p.length c from hdep 0 rfl)
            obtain ⟨e23, x23⟩ := Rv.ev (show a.tmps.getD 23 undef = .int .i64 (k : Int) from hdep 1 rfl)
            exact Rv.step_op (op := Go.Op.indexAddr 22 (Go.Operand.tmp 22) (Go.Operand.tmp 23)) (v := .pointer (some ⟨b1, o1 + k * 4, none⟩)) (w1 := W) rfl rfl (fun d pos aft g => by unfold execOp; go_simp) ⟨_, rfl, rfl, Below.refl _ _⟩
          | 3, _ =>
            obtain ⟨e24, x24⟩ := Rv.ev (show a.tmps.getD 24 undef = .pointer (some ⟨b1, o1 + k * 4, none⟩) from hdep 2 rfl)
            exact Rv.step_op (op := Go.Op.load 54 (Go.Operand.tmp 24)) (v := P.v) (w1 := W) rfl rfl (fun d pos aft g => by unfold execOp; go_simp) ⟨_, rfl, rfl, Below.refl _ _⟩
          | 4, _ =>
            obtain ⟨e1, x1⟩ := Rv.ev (show a.tmps.getD 1 undef = .slice (some ⟨b2, o2, none⟩) q.length c2 from hbase 1 rfl)
            exact Rv.step_op (op := Go.Op.move (Go.Operand.tmp 1)) (v := .slice (some ⟨b2, o2, none⟩) q.length c2) (w1 := W) rfl rfl (fun d pos aft g => by unfold execOp; go_simp) ⟨_, rfl, rfl, Below.refl _ _⟩
          | 5, _ =>
            obtain ⟨e7, x7⟩ := Rv.ev (show a.tmps.getD 7 undef = .int .i64 (k : Int) from hbase 7 rfl)
            exact Rv.step_op (op := Go.Op.move (Go.Operand.tmp 7)) (v := .int .i64 (k : Int)) (w1 := W) rfl rfl (fun d pos aft g => by unfold execOp; go_simp) ⟨_, rfl, rfl, Below.refl _ _⟩
          | 6, _ =>
            obtain ⟨e26, x26⟩ := Rv.ev (show a.tmps.getD 26 undef = .slice (some ⟨b2, o2, none⟩) q.length c2 from hdep 4 rfl)
            obtain ⟨e27, x27⟩ := Rv.ev (show a.tmps.getD 27 undef = .int .i64 (k : Int) from hdep 5 rfl)
            exact Rv.step_op (op := Go.Op.indexAddr 22 (Go.Operand.tmp 26) (Go.Operand.tmp 27)) (v := .pointer (some ⟨b2, o2 + k * 4, none⟩)) (w1 := W) rfl rfl (fun d pos aft g => by unfold execOp; go_simp) ⟨_, rfl, rfl, Below.refl _ _⟩
          | 7, _ =>
            obtain ⟨e28, x28⟩ := Rv.ev (show a.tmps.getD 28 undef = .pointer (some ⟨b2, o2 + k * 4, none⟩) from hdep 6 rfl)
            exact Rv.step_op (op := Go.Op.load 54 (Go.Operand.tmp 28)) (v := Q.v) (w1 := W) rfl rfl (fun d pos aft g => by unfold execOp; go_simp) ⟨_, rfl, rfl, Below.refl _ _⟩
          | 8, _ =>
            obtain ⟨e25, x25⟩ := Rv.ev (show a.tmps.getD 25 undef = P.v from hdep 3 rfl)
            obtain ⟨e29, x29⟩ := Rv.ev (show a.tmps.getD 29 undef = Q.v from hdep 7 rfl)
            have cf : ∀ x0 x1 W, (callFunc 32 #[x0, x1]).run Tryz.prog W = .ok (.enter 32 #[x0, x1]) W := fun _ _ _ => by kernel_rfl
            refine Rv.step_fn (op := Go.Op.call { callee := Go.Callee.value (Go.Operand.func 32), args := #[Go.Operand.tmp 25, Go.Operand.tmp 29], argTypes := #[54, 54] }) (f := 32) (args := #[P.v, Q.v]) (R := fun v W' => v = .bool sm ∧ Below W.heap.size W W') rfl rfl (fun d pos aft g => by unfold execOp; go_simp) ((SA.out W).mono ?_) ?_
            · (rintro e W' ⟨rfl, hb⟩; exact ⟨_, rfl, rfl, hb⟩)
            · (rintro v W' ⟨rfl, hb⟩; exact ⟨_, rfl, rfl, hb⟩)
          | 9, _ =>
            obtain ⟨e30, x30⟩ := Rv.ev (show a.tmps.getD 30 undef = .bool sm from hdep 8 rfl)
            exact Rv.step_op (op := Go.Op.unOp Go.UnOp.not 4 (Go.Operand.tmp 30)) (v := .bool (!sm)) (w1 := W) rfl rfl (fun d pos aft g => by unfold execOp; go_simp) ⟨_, rfl, rfl, Below.refl _ _⟩
          | m + 10, h => exact absurd h (by show ¬ m + 10 < 10; omega)
        intro W f hf htr
        have f0 : f 0 = .slice (some ⟨b1, o1, none⟩) p.length c := hf 0 (by show 0 < 10; omega)
        have f1 : f 1 = .int .i64 (k : Int) := hf 1 (by show 1 < 10; omega)
        have f2 : f 2 = .pointer (some ⟨b1, o1 + k * 4, none⟩) := hf 2 (by show 2 < 10; omega)
        have f3 : f 3 = P.v := hf 3 (by show 3 < 10; omega)
        have f4 : f 4 = .slice (some ⟨b2, o2, none⟩) q.length c2 := hf 4 (by show 4 < 10; omega)
        have f5 : f 5 = .int .i64 (k : Int) := hf 5 (by show 5 < 10; omega)
        have f6 : f 6 = .pointer (some ⟨b2, o2 + k * 4, none⟩) := hf 6 (by show 6 < 10; omega)
        have f7 : f 7 = Q.v := hf 7 (by show 7 < 10; omega)
        have f8 : f 8 = .bool sm := hf 8 (by show 8 < 10; omega)
        have f9 : f 9 = .bool (!sm) := hf 9 (by show 9 < 10; omega)
        refine (show ∀ (a : Act) (w : World), Code.wp _ _ _ a w → _ from by assumption) _ _ ?_
        refine Rv.fin_swap (L' := [(22, f 0), (23, f 1), (24, f 2), (25, f 3), (26, f 4), (27, f 5), (28, f 6), (29, f 7), (30, f 8), (31, f 9)]) rfl ?_
        rw [f0, f1, f2, f3, f4, f5, f6, f7, f8, f9]
        clear f0 f1 f2 f3 f4 f5 f6 f7 f8 f9
        simp only [Rv.fin, List.foldl_cons, List.foldl_nil, Act.put, List.setIfInBounds_toArray, List.set_cons_succ, List.set_cons_zero]
        have HB2 := Lib.hid (HB.out.trans (htr.mono HB.out.size))
        clear htr hf
        cases sm
        case true =>
          go_wp2
          go_roundw
          case rel => exact ⟨k + 1, d, t, by go_num, rfl, rfl, by omega, hd0, by omega, Lib.hid (HSAME.out (HY.out.1 rfl)), HB2⟩
          case measure => simp [intOf]; omega
        case false =>
          have HNE := Lib.hid (show ¬ Eq1 P Q from fun h => by have := HY.out.2 h; cases this)
          clear HB
          generalize W = X2 at *
          go_upto_region 9 with fail
          obtain ⟨X, rfl⟩ : ∃ X : World, X = X2 := ⟨_, rfl⟩
          refine Rv.region_goods (n := 48) (by kernel_rfl) #[34, 35, 36, 37, 38, 39, 40, 41, 42, 6] #[] (fun i v W => v = (#[.slice (some ⟨b1, o1, none⟩) p.length c, .int .i64 (k : Int), .pointer (some ⟨b1, o1 + k * 4, none⟩), P.v, .slice (some ⟨b2, o2, none⟩) q.length c2, .int .i64 (k : Int), .pointer (some ⟨b2, o2 + k * 4, none⟩), Q.v, .bool tm, .bool tm] : Array Value).getD i undef) (fun i v w w' h hb => ?_) (fun i h g b hg => ?_) rfl (by kernel_rfl) (by kernel_rfl) (fun i h hr w => ?_) ?_ ?_
          · exact h
          · match i, h, hg with
            | 0, _, hg => cases hg
            | 1, _, hg => cases hg
            | 2, _, hg => cases hg
            | 3, _, hg => cases hg
            | 4, _, hg => cases hg
            | 5, _, hg => cases hg
            | 6, _, hg => cases hg
            | 7, _, hg => cases hg
            | 8, _, hg => cases hg
            | 9, _, hg => cases hg
            | m + 10, h, _ => exact absurd h (by show ¬ m + 10 < 10; omega)
          · match i, h, hr with
            | 0, _, hr => exact Bool.noConfusion (show true = false from hr)
            | 1, _, hr => exact Bool.noConfusion (show true = false from hr)
            | 2, _, hr => exact Bool.noConfusion (show true = false from hr)
            | 3, _, hr => exact Bool.noConfusion (show true = false from hr)
            | 4, _, hr => exact Bool.noConfusion (show true = false from hr)
            | 5, _, hr => exact Bool.noConfusion (show true = false from hr)
            | 6, _, hr => exact Bool.noConfusion (show true = false from hr)
            | 7, _, hr => exact Bool.noConfusion (show true = false from hr)
            | 8, _, hr => exact Bool.noConfusion (show true = false from hr)
            | 9, _, hr => exact Bool.noConfusion (show true = false from hr)
            | m + 10, h, _ => exact absurd h (by show ¬ m + 10 < 10; omega)
          · intro i h a W hrun hbase hpre hdep htr
            have HBW := HB2.out.trans (htr.mono HB2.out.size)
            have q0 := (HBW.cell (p := ⟨b1, o1 + k * 4, none⟩) hb1).trans c0
            have q1 := (HBW.cell (p := ⟨b1, o1 + k * 4 + 1, none⟩) hb1).trans c1
            have q2 := (HBW.cell (p := ⟨b1, o1 + k * 4 + 2, none⟩) hb1).trans c2'
            have q3 := (HBW.cell (p := ⟨b1, o1 + k * 4 + 3, none⟩) hb1).trans c3
            have r0 := (HBW.cell (p := ⟨b2, o2 + k * 4, none⟩) hb2).trans d0
            have r1 := (HBW.cell (p := ⟨b2, o2 + k * 4 + 1, none⟩) hb2).trans d1
            have r2 := (HBW.cell (p := ⟨b2, o2 + k * 4 + 2, none⟩) hb2).trans d2
            have r3 := (HBW.cell (p := ⟨b2, o2 + k * 4 + 3, none⟩) hb2).trans d3
            match i, h with
            | 0, _ =>
              obtain ⟨e0, x0⟩ := Rv.ev (show a.tmps.getD 0 undef = .slice (some ⟨b1, o1, none⟩) p.length c from hbase 0 rfl)
              exact Rv.step_op (op := Go.Op.move (Go.Operand.tmp 0)) (v := .slice (some ⟨b1, o1, none⟩) p.length c) (w1 := W) rfl rfl (fun d pos aft g => by unfold execOp; go_simp) ⟨_, rfl, rfl, Below.refl _ _⟩
            | 1, _ =>
              obtain ⟨e7, x7⟩ := Rv.ev (show a.tmps.getD 7 undef = .int .i64 (k : Int) from hbase 7 rfl)
              exact Rv.step_op (op := Go.Op.move (Go.Operand.tmp 7)) (v := .int .i64 (k : Int)) (w1 := W) rfl rfl (fun d pos aft g => by unfold execOp; go_simp) ⟨_, rfl, rfl, Below.refl _ _⟩
            | 2, _ =>
              obtain ⟨e34, x34⟩ := Rv.ev (show a.tmps.getD 34 undef = .slice (some ⟨b1, o1, none⟩) p.length c from hdep 0 rfl)
              obtain ⟨e35, x35⟩ := Rv.ev (show a.tmps.getD 35 undef = .int .i64 (k : Int) from hdep 1 rfl)
              exact Rv.step_op (op := Go.Op.indexAddr 22 (Go.Operand.tmp 34) (Go.Operand.tmp 35)) (v := .pointer (some ⟨b1, o1 + k * 4, none⟩)) (w1 := W) rfl rfl (fun d pos aft g => by unfold execOp; go_simp) ⟨_, rfl, rfl, Below.refl _ _⟩
            | 3, _ =>
              obtain ⟨e36, x36⟩ := Rv.ev (show a.tmps.getD 36 undef = .pointer (some ⟨b1, o1 + k * 4, none⟩) from hdep 2 rfl)
              exact Rv.step_op (op := Go.Op.load 54 (Go.Operand.tmp 36)) (v := P.v) (w1 := W) rfl rfl (fun d pos aft g => by unfold execOp; go_simp) ⟨_, rfl, rfl, Below.refl _ _⟩
            | 4, _ =>
              obtain ⟨e1, x1⟩ := Rv.ev (show a.tmps.getD 1 undef = .slice (some ⟨b2, o2, none⟩) q.length c2 from hbase 1 rfl)
              exact Rv.step_op (op := Go.Op.move (Go.Operand.tmp 1)) (v := .slice (some ⟨b2, o2, none⟩) q.length c2) (w1 := W) rfl rfl (fun d pos aft g => by unfold execOp; go_simp) ⟨_, rfl, rfl, Below.refl _ _⟩
            | 5, _ =>
              obtain ⟨e7, x7⟩ := Rv.ev (show a.tmps.getD 7 undef = .int .i64 (k : Int) from hbase 7 rfl)
              exact Rv.step_op (op := Go.Op.move (Go.Operand.tmp 7)) (v := .int .i64 (k : Int)) (w1 := W) rfl rfl (fun d pos aft g => by unfold execOp; go_simp) ⟨_, rfl, rfl, Below.refl _ _⟩
            | 6, _ =>
              obtain ⟨e38, x38⟩ := Rv.ev (show a.tmps.getD 38 undef = .slice (some ⟨b2, o2, none⟩) q.length c2 from hdep 4 rfl)
              obtain ⟨e39, x39⟩ := Rv.ev (show a.tmps.getD 39 undef = .int .i64 (k : Int) from hdep 5 rfl)
              exact Rv.step_op (op := Go.Op.indexAddr 22 (Go.Operand.tmp 38) (Go.Operand.tmp 39)) (v := .pointer (some ⟨b2, o2 + k * 4, none⟩)) (w1 := W) rfl rfl (fun d pos aft g => by unfold execOp; go_simp) ⟨_, rfl, rfl, Below.refl _ _⟩
            | 7, _ =>
              obtain ⟨e40, x40⟩ := Rv.ev (show a.tmps.getD 40 undef = .pointer (some ⟨b2, o2 + k * 4, none⟩) from hdep 6 rfl)
              exact Rv.step_op (op := Go.Op.load 54 (Go.Operand.tmp 40)) (v := Q.v) (w1 := W) rfl rfl (fun d pos aft g => by unfold execOp; go_simp) ⟨_, rfl, rfl, Below.refl _ _⟩
            | 8, _ =>
              obtain ⟨e37, x37⟩ := Rv.ev (show a.tmps.getD 37 undef = P.v from hdep 3 rfl)
              obtain ⟨e41, x41⟩ := Rv.ev (show a.tmps.getD 41 undef = Q.v from hdep 7 rfl)
              have cf : ∀ x0 x1 W, (callFunc 33 #[x0, x1]).run Tryz.prog W = .ok (.enter 33 #[x0, x1]) W := fun _ _ _ => by kernel_rfl
              refine Rv.step_fn (op := Go.Op.call { callee := Go.Callee.value (Go.Operand.func 33), args := #[Go.Operand.tmp 37, Go.Operand.tmp 41], argTypes := #[54, 54] }) (f := 33) (args := #[P.v, Q.v]) (R := fun v W' => v = .bool tm ∧ Below W.heap.size W W') rfl rfl (fun d pos aft g => by unfold execOp; go_simp) ((SB.out W).mono ?_) ?_
              · (rintro e W' ⟨rfl, hb⟩; exact ⟨_, rfl, rfl, hb⟩)
              · (rintro v W' ⟨rfl, hb⟩; exact ⟨_, rfl, rfl, hb⟩)
            | 9, _ =>
              obtain ⟨e42, x42⟩ := Rv.ev (show a.tmps.getD 42 undef = .bool tm from hdep 8 rfl)
              exact Rv.step_op (op := Go.Op.assign (Go.Operand.tmp 42)) (v := .bool tm) (w1 := W) rfl rfl (fun d pos aft g => by unfold execOp; go_simp) ⟨_, rfl, rfl, Below.refl _ _⟩
            | m + 10, h => exact absurd h (by show ¬ m + 10 < 10; omega)
          intro W f hf htr
          have f0 : f 0 = .slice (some ⟨b1, o1, none⟩) p.length c := hf 0 (by show 0 < 10; omega)
          have f1 : f 1 = .int .i64 (k : Int) := hf 1 (by show 1 < 10; omega)
          have f2 : f 2 = .pointer (some ⟨b1, o1 + k * 4, none⟩) := hf 2 (by show 2 < 10; omega)
          have f3 : f 3 = P.v := hf 3 (by show 3 < 10; omega)
          have f4 : f 4 = .slice (some ⟨b2, o2, none⟩) q.length c2 := hf 4 (by show 4 < 10; omega)
          have f5 : f 5 = .int .i64 (k : Int) := hf 5 (by show 5 < 10; omega)
          have f6 : f 6 = .pointer (some ⟨b2, o2 + k * 4, none⟩) := hf 6 (by show 6 < 10; omega)
          have f7 : f 7 = Q.v := hf 7 (by show 7 < 10; omega)
          have f8 : f 8 = .bool tm := hf 8 (by show 8 < 10; omega)
          have f9 : f 9 = .bool tm := hf 9 (by show 9 < 10; omega)
          refine (show ∀ (a : Act) (w : World), Code.wp _ _ _ a w → _ from by assumption) _ _ ?_
          refine Rv.fin_swap (L' := [(34, f 0), (35, f 1), (36, f 2), (37, f 3), (38, f 4), (39, f 5), (40, f 6), (41, f 7), (42, f 8), (6, f 9)]) rfl ?_
          rw [f0, f1, f2, f3, f4, f5, f6, f7, f8, f9]
          clear f0 f1 f2 f3 f4 f5 f6 f7 f8 f9
          simp only [Rv.fin, List.foldl_cons, List.foldl_nil, Act.put, List.setIfInBounds_toArray, List.set_cons_succ, List.set_cons_zero]
          have HB3 := Lib.hid (HB2.out.trans (htr.mono HB2.out.size))
          clear htr hf
          go_wp2
          go_roundw
          case rel => exact ⟨k + 1, d + 1, tm, by go_num, by go_num, rfl, by omega, by omega, by omega, Lib.hid (HMORE.out HNE.out), HB3⟩
          case measure => simp [intOf]; omega
      · obtain rfl : k = p.length := by omega
        have HDD := Lib.hid (HD.out.done N1.out N2.out)
        clear HD
        obtain ⟨e1, he1⟩ : ∃ e1, (d == 1) = e1 := ⟨_, rfl⟩
        rw [he1] at HDD
        cases e1
        · go_wp2
          go_ret
          exact ⟨false, rfl, ⟨fun h => (by cases h), fun h => (by have := HDD.out.2 h; cases this)⟩, HB.out⟩
        · go_wp2
          go_ret
          exact ⟨t, rfl, by simpa using HDD.out, HB.out⟩

/-- All ranges of one column. -/
def colL (ls : List (List Cl)) (k : Nat) : List Cl := ls.filterMap fun l => l[k]?
theorem colL_snoc (ls : List (List Cl)) (k m : Nat) (h : m < ls.length) : colL (ls.take (m + 1)) k = colL (ls.take m) k ++ (match ls[m][k]? with | some c => [c] | none => []) := by
  unfold colL
  rw [take_snocA ls m h, List.filterMap_append, List.filterMap_cons]
  cases ls[m][k]? <;> rfl
theorem colL_mem {ls : List (List Cl)} {k : Nat} {c : Cl} (h : c ∈ colL ls k) : ∃ l ∈ ls, c ∈ l := by
  unfold colL at h
  rw [List.mem_filterMap] at h
  obtain ⟨l, h1, h2⟩ := h
  exact ⟨l, h1, List.mem_of_getElem? h2⟩
theorem colL_len (ls : List (List Cl)) (k : Nat) : (colL ls k).length ≤ ls.length := List.length_filterMap_le _ _
theorem column_any (v : Value) (ls : List (List Cl)) (k : Nat) (w : World) (hr : RL w v ls) (hk : k ≤ 1000) (hl : ls.length ≤ 100000) :
    Calls Tryz.prog 38 #[v, .int .i64 (k : Int)] w fun e w' => ∃ u, e = .returned u ∧ w'.ownsRow w.heap.size 54 4 u (colL ls k).length (clc (colL ls k)) ∧ Below w.heap.size w w' := by
  obtain ⟨A, c, rfl⟩ : ∃ A c, v = .slice A ls.length c := by
    obtain ⟨vs, A, c, h1, _⟩ := hr
    exact ⟨A, c, h1⟩
  have HR := Lib.hid hr
  clear hr
  go_enter Tryz.func38, Tryz.ntmps38
  go_wp2
  go_loopw [5, 6] (fun v5 v6 wr => ∃ (m : Nat), v6 = .int .i64 m ∧ m ≤ ls.length ∧ Hid (wr.ownsRow w.heap.size 54 4 v5 (colL (ls.take m) k).length (clc (colL (ls.take m) k))) ∧ Hid (Below w.heap.size w wr)) (fun _ v6 _ => (ls.length - (intOf v6)).toNat)
  case atStart => exact ⟨0, rfl, Nat.zero_le _, Lib.hid (World.ownsRow_nil _ _ _ _), Lib.hid (Below.refl _ _)⟩
  case round =>
    obtain ⟨m, rfl, hm, HO, HB⟩ := hrel
    have hbs := HB.out.size
    by_cases hlt : m < ls.length
    · obtain ⟨b, o, A3, c3, rfl, hb, hc, hr3⟩ := HR.out.get m hlt
      have hcw := (HB.out.cell (p := ⟨b, o + m, none⟩) hb).trans hc
      have HC := Lib.hid (colL_snoc ls k m hlt)
      have hml : (colL (ls.take m) k).length ≤ 100000 := Nat.le_trans (colL_len _ _) (by rw [List.length_take]; omega)
      obtain ⟨L, hL⟩ : ∃ L, ls[m] = L := ⟨_, rfl⟩
      rw [hL] at hcw hr3 HC
      clear hc hL
      have hl3 := hr3.le
      by_cases hkl : k < L.length
      · rw [List.getElem?_eq_getElem hkl] at HC
        obtain ⟨b3, o3, rfl, hb3, f0, f1, f2, f3⟩ := rd_cl hr3 k hkl
        have g0 := (HB.out.cell (p := ⟨b3, o3 + k * 4, none⟩) hb3).trans f0
        have g1 := (HB.out.cell (p := ⟨b3, o3 + k * 4 + 1, none⟩) hb3).trans f1
        have g2 := (HB.out.cell (p := ⟨b3, o3 + k * 4 + 2, none⟩) hb3).trans f2
        have g3 := (HB.out.cell (p := ⟨b3, o3 + k * 4 + 3, none⟩) hb3).trans f3
        clear f0 f1 f2 f3 hr3
        generalize L[k] = Z at *
        go_wp2_with (at_builtin; go_loud (refine app1 (w0 := w) w.heap.size rfl (.tmp 20) (.tmp 28) 22 54 (.agg #[.int .i64 0, .int .i64 0, .int .i64 0, .int .i64 0]) 4 32 rfl Tryz.underlying22 info27 rfl (by omega) (by omega) u5 _ _ #[.int .i64 Z.a, .int .i64 Z.x, .int .i64 Z.b, .int .i64 Z.y] rfl rfl rfl (clc_one_cell [Z]) HO.out HB.out HB.out.size (by omega) ?_); intro v3 w3 hown3 hb3' hg3 _; have HO3 := Lib.hid hown3; have HB3 := Lib.hid hb3'; clear hown3 hb3' hg3)
        go_roundw
        case rel => exact ⟨m + 1, by go_num, by omega, Lib.hid (by rw [HC.out, List.length_append, clc_append]; exact HO3.out), HB3⟩
        case measure => simp [intOf]; omega
      · rw [List.getElem?_eq_none (by omega)] at HC
        clear hr3
        go_wp2
        go_roundw
        case rel => exact ⟨m + 1, by go_num, by omega, Lib.hid (by rw [HC.out, List.append_nil]; exact HO.out), HB⟩
        case measure => simp [intOf]; omega
    · obtain rfl : m = ls.length := by omega
      rw [List.take_length] at HO
      go_wp2
      go_ret
      exact ⟨_, rfl, HO.out, HB.out⟩

theorem apart_any (v : Value) (ls : List (List Cl)) (w : World) (hr : RL w v ls) (hp : ∀ l ∈ ls, ∀ c ∈ l, Pcl c) (hl : ls.length ≤ 100000) (hl2 : ∀ l ∈ ls, l.length ≤ 1000)
    (ha : ∀ i j (hi : i < ls.length) (hj : j < i), noneL (meetL ls[i] (ls[j]'(by omega))) = true) :
    Calls Tryz.prog 12 #[v] w fun e w' => e = .returned (.bool true) ∧ Below w.heap.size w w' := by
  obtain ⟨A, c, rfl⟩ : ∃ A c, v = .slice A ls.length c := by
    obtain ⟨vs, A, c, h1, _⟩ := hr
    exact ⟨A, c, h1⟩
  have HR := Lib.hid hr
  have HP := Lib.hid hp
  have HA := Lib.hid ha
  have HL2 := Lib.hid hl2
  clear hr hp ha hl2
  go_enter Tryz.func12, Tryz.ntmps12
  go_wp2
  go_loopw [3, 4] (fun v3 v4 wr => ∃ (i : Nat), v3 = .int .i64 i ∧ i ≤ ls.length ∧ Hid (Below w.heap.size w wr)) (fun v3 _ _ => (ls.length - (intOf v3)).toNat)
  case atStart => exact ⟨0, rfl, Nat.zero_le _, Lib.hid (Below.refl _ _)⟩
  case round =>
    obtain ⟨i1, rfl, hi, HB⟩ := hrel
    by_cases hlt : i1 < ls.length
    · go_wp2
      go_loopw [4] (fun v4 wr => ∃ (k : Nat), v4 = .int .i64 k ∧ k ≤ i1 ∧ Hid (Below w.heap.size w wr)) (fun v4 _ => (i1 - (intOf v4)).toNat)
      case atStart => exact ⟨0, rfl, Nat.zero_le _, HB⟩
      case round =>
        clear HB
        obtain ⟨k, rfl, hk, HB⟩ := hrel
        by_cases hlk : k < i1
        · have hkl : k < ls.length := by omega
          obtain ⟨b1, o1, A1, c1, e1, hb1, hc1, hr1⟩ := HR.out.get i1 hlt
          obtain ⟨b2, o2, A2, c2, e2, hb2, hc2, hr2⟩ := HR.out.get k (by omega)
          subst e1
          injection e2 with e2
          injection e2 with e21 e22 _
          subst e21 e22
          have AP := HA.out i1 k hlt hlk
          have P1 := HP.out _ (List.getElem_mem hlt)
          have P2 := HP.out _ (List.getElem_mem (show k < ls.length by omega))
          have l1 := HL2.out _ (List.getElem_mem hlt)
          have hm2 := Lib.hid (show i1 ≤ ls.length from hi)
          generalize ls[i1] = L1 at *
          generalize ls[k] = L2 at *
          have MM := Lib.hid (fun W (hb : Below w.heap.size w W) => rrmeet_any (.slice A1 L1.length c1) (.slice A2 L2.length c2) L1 L2 W (hr1.below hb) (hr2.below hb) P1 P2 (by omega))
          have NN := Lib.hid (fun v' W hm => rrnone_any v' (meetL L1 L2) W hm (meetL_pcl P1 P2))
          rw [AP] at NN
          have C1 := Lib.hid hc1
          have C2 := Lib.hid hc2
          clear AP P1 P2 hr1 hr2 hc1 hc2
          generalize meetL L1 L2 = M at *
          go_upto_region 7 with fail
          obtain ⟨X, rfl⟩ : ∃ X : World, X = wr := ⟨_, rfl⟩
          refine Rv.region_goods (n := 27) (by kernel_rfl) #[16, 17, 18, 19, 20, 21, 22, 23, 24, 25, 26] #[] (fun i v W => if i = 8 then (fun v W => Rd W 4 (v) M.length (clc M)) v W else v = (#[.slice (some ⟨b1, o1, none⟩) ls.length c, .int .i64 (i1 : Int), .pointer (some ⟨b1, o1 + i1, none⟩), .slice A1 L1.length c1, .slice (some ⟨b1, o1, none⟩) ls.length c, .int .i64 (k : Int), .pointer (some ⟨b1, o1 + k, none⟩), .slice A2 L2.length c2, undef, .bool true, .bool false] : Array Value).getD i undef) (fun i v w w' h hb => ?_) (fun i h g b hg => ?_) rfl (by kernel_rfl) (by kernel_rfl) (fun i h hr w => ?_) ?_ ?_
          · by_cases hi24 : i = 8
            · subst hi24
              rw [if_pos rfl] at h ⊢
              exact (fun v w w' h hb => h.below hb) v w w' h hb
            rw [if_neg hi24] at h ⊢
            exact h
          · match i, h, hg with
            | 0, _, hg => cases hg
            | 1, _, hg => cases hg
            | 2, _, hg => cases hg
            | 3, _, hg => cases hg
            | 4, _, hg => cases hg
            | 5, _, hg => cases hg
            | 6, _, hg => cases hg
            | 7, _, hg => cases hg
            | 8, _, hg => cases hg
            | 9, _, hg => cases hg
            | 10, _, hg => cases hg
            | m + 11, h, _ => exact absurd h (by show ¬ m + 11 < 11; omega)
          · match i, h, hr with
            | 0, _, hr => exact Bool.noConfusion (show true = false from hr)
            | 1, _, hr => exact Bool.noConfusion (show true = false from hr)
            | 2, _, hr => exact Bool.noConfusion (show true = false from hr)
            | 3, _, hr => exact Bool.noConfusion (show true = false from hr)
            | 4, _, hr => exact Bool.noConfusion (show true = false from hr)
            | 5, _, hr => exact Bool.noConfusion (show true = false from hr)
            | 6, _, hr => exact Bool.noConfusion (show true = false from hr)
            | 7, _, hr => exact Bool.noConfusion (show true = false from hr)
            | 8, _, hr => exact Bool.noConfusion (show true = false from hr)
            | 9, _, hr => exact Bool.noConfusion (show true = false from hr)
            | 10, _, hr => exact Bool.noConfusion (show true = false from hr)
            | m + 11, h, _ => exact absurd h (by show ¬ m + 11 < 11; omega)
          · intro i h a W hrun hbase hpre hdep htr
            have HBW := HB.out.trans (htr.mono HB.out.size)
            have q0 := (HBW.cell (p := ⟨b1, o1 + i1, none⟩) hb1).trans C1.out
            have q1 := (HBW.cell (p := ⟨b1, o1 + k, none⟩) hb1).trans C2.out
            match i, h with
            | 0, _ =>
              obtain ⟨e0, x0⟩ := Rv.ev (show a.tmps.getD 0 undef = .slice (some ⟨b1, o1, none⟩) ls.length c from hbase 0 rfl)
              exact Rv.step_op (op := Go.Op.move (Go.Operand.tmp 0)) (v := .slice (some ⟨b1, o1, none⟩) ls.length c) (w1 := W) rfl rfl (fun d pos aft g => by unfold execOp; go_simp) ⟨_, rfl, rfl, Below.refl _ _⟩
            | 1, _ =>
              obtain ⟨e3, x3⟩ := Rv.ev (show a.tmps.getD 3 undef = .int .i64 (i1 : Int) from hbase 3 rfl)
              exact Rv.step_op (op := Go.Op.move (Go.Operand.tmp 3)) (v := .int .i64 (i1 : Int)) (w1 := W) rfl rfl (fun d pos aft g => by unfold execOp; go_simp) ⟨_, rfl, rfl, Below.refl _ _⟩
            | 2, _ =>
              obtain ⟨e16, x16⟩ := Rv.ev (show a.tmps.getD 16 undef = .slice (some ⟨b1, o1, none⟩) ls.length c from hdep 0 rfl)
              obtain ⟨e17, x17⟩ := Rv.ev (show a.tmps.getD 17 undef = .int .i64 (i1 : Int) from hdep 1 rfl)
              exact Rv.step_op (op := Go.Op.indexAddr 24 (Go.Operand.tmp 16) (Go.Operand.tmp 17)) (v := .pointer (some ⟨b1, o1 + i1, none⟩)) (w1 := W) rfl rfl (fun d pos aft g => by unfold execOp; go_simp) ⟨_, rfl, rfl, Below.refl _ _⟩
            | 3, _ =>
              obtain ⟨e18, x18⟩ := Rv.ev (show a.tmps.getD 18 undef = .pointer (some ⟨b1, o1 + i1, none⟩) from hdep 2 rfl)
              exact Rv.step_op (op := Go.Op.load 22 (Go.Operand.tmp 18)) (v := .slice A1 L1.length c1) (w1 := W) rfl rfl (fun d pos aft g => by unfold execOp; go_simp) ⟨_, rfl, rfl, Below.refl _ _⟩
            | 4, _ =>
              obtain ⟨e0, x0⟩ := Rv.ev (show a.tmps.getD 0 undef = .slice (some ⟨b1, o1, none⟩) ls.length c from hbase 0 rfl)
              exact Rv.step_op (op := Go.Op.move (Go.Operand.tmp 0)) (v := .slice (some ⟨b1, o1, none⟩) ls.length c) (w1 := W) rfl rfl (fun d pos aft g => by unfold execOp; go_simp) ⟨_, rfl, rfl, Below.refl _ _⟩
            | 5, _ =>
              obtain ⟨e4, x4⟩ := Rv.ev (show a.tmps.getD 4 undef = .int .i64 (k : Int) from hbase 4 rfl)
              exact Rv.step_op (op := Go.Op.move (Go.Operand.tmp 4)) (v := .int .i64 (k : Int)) (w1 := W) rfl rfl (fun d pos aft g => by unfold execOp; go_simp) ⟨_, rfl, rfl, Below.refl _ _⟩
            | 6, _ =>
              obtain ⟨e20, x20⟩ := Rv.ev (show a.tmps.getD 20 undef = .slice (some ⟨b1, o1, none⟩) ls.length c from hdep 4 rfl)
              obtain ⟨e21, x21⟩ := Rv.ev (show a.tmps.getD 21 undef = .int .i64 (k : Int) from hdep 5 rfl)
              exact Rv.step_op (op := Go.Op.indexAddr 24 (Go.Operand.tmp 20) (Go.Operand.tmp 21)) (v := .pointer (some ⟨b1, o1 + k, none⟩)) (w1 := W) rfl rfl (fun d pos aft g => by unfold execOp; go_simp) ⟨_, rfl, rfl, Below.refl _ _⟩
            | 7, _ =>
              obtain ⟨e22, x22⟩ := Rv.ev (show a.tmps.getD 22 undef = .pointer (some ⟨b1, o1 + k, none⟩) from hdep 6 rfl)
              exact Rv.step_op (op := Go.Op.load 22 (Go.Operand.tmp 22)) (v := .slice A2 L2.length c2) (w1 := W) rfl rfl (fun d pos aft g => by unfold execOp; go_simp) ⟨_, rfl, rfl, Below.refl _ _⟩
            | 8, _ =>
              obtain ⟨e19, x19⟩ := Rv.ev (show a.tmps.getD 19 undef = .slice A1 L1.length c1 from hdep 3 rfl)
              obtain ⟨e23, x23⟩ := Rv.ev (show a.tmps.getD 23 undef = .slice A2 L2.length c2 from hdep 7 rfl)
              have cf : ∀ x0 x1 W, (callFunc 9 #[x0, x1]).run Tryz.prog W = .ok (.enter 9 #[x0, x1]) W := fun _ _ _ => by kernel_rfl
              refine Rv.step_fn (op := Go.Op.call { callee := Go.Callee.value (Go.Operand.func 9), args := #[Go.Operand.tmp 19, Go.Operand.tmp 23], argTypes := #[22, 22] }) (ty := 22) (f := 9) (args := #[.slice A1 L1.length c1, .slice A2 L2.length c2]) (R := fun v W' => Rd W' 4 v M.length (clc M) ∧ Below W.heap.size W W') rfl rfl (fun d pos aft g => by unfold execOp; go_simp) ((MM.out W HBW).mono ?_) ?_
              · (rintro e W' ⟨v, rfl, ho, hb⟩; exact ⟨_, rfl, Rd.of_own ho, hb⟩)
              · (rintro v W' ⟨hv, hb⟩; exact ⟨_, rfl, hv, hb⟩)
            | 9, _ =>
              have r24 : Rd W 4 (a.tmps.getD 24 undef) M.length (clc M) := hdep 8 rfl
              obtain ⟨v24, q24⟩ : ∃ v, a.tmps.getD 24 undef = v := ⟨_, rfl⟩
              rw [q24] at r24
              obtain ⟨e24, y24⟩ := Rv.ev q24
              have cf : ∀ x0 W, (callFunc 8 #[x0]).run Tryz.prog W = .ok (.enter 8 #[x0]) W := fun _ _ => by kernel_rfl
              refine Rv.step_fn (op := Go.Op.call { callee := Go.Callee.value (Go.Operand.func 8), args := #[Go.Operand.tmp 24], argTypes := #[22] }) (ty := 4) (f := 8) (args := #[v24]) (R := fun v W' => v = .bool true ∧ Below W.heap.size W W') rfl rfl (fun d pos aft g => by unfold execOp; go_simp) ((NN.out v24 W r24).mono ?_) ?_
              · (rintro e W' ⟨rfl, hb⟩; exact ⟨_, rfl, rfl, hb⟩)
              · (rintro v W' ⟨rfl, hb⟩; exact ⟨_, rfl, rfl, hb⟩)
            | 10, _ =>
              obtain ⟨e25, x25⟩ := Rv.ev (show a.tmps.getD 25 undef = .bool true from hdep 9 rfl)
              exact Rv.step_op (op := Go.Op.unOp Go.UnOp.not 4 (Go.Operand.tmp 25)) (v := .bool false) (w1 := W) rfl rfl (fun d pos aft g => by unfold execOp; go_simp) ⟨_, rfl, rfl, Below.refl _ _⟩
            | m + 11, h => exact absurd h (by show ¬ m + 11 < 11; omega)
          intro W f hf htr
          have f0 : f 0 = .slice (some ⟨b1, o1, none⟩) ls.length c := hf 0 (by show 0 < 11; omega)
          have f1 : f 1 = .int .i64 (i1 : Int) := hf 1 (by show 1 < 11; omega)
          have f2 : f 2 = .pointer (some ⟨b1, o1 + i1, none⟩) := hf 2 (by show 2 < 11; omega)
          have f3 : f 3 = .slice A1 L1.length c1 := hf 3 (by show 3 < 11; omega)
          have f4 : f 4 = .slice (some ⟨b1, o1, none⟩) ls.length c := hf 4 (by show 4 < 11; omega)
          have f5 : f 5 = .int .i64 (k : Int) := hf 5 (by show 5 < 11; omega)
          have f6 : f 6 = .pointer (some ⟨b1, o1 + k, none⟩) := hf 6 (by show 6 < 11; omega)
          have f7 : f 7 = .slice A2 L2.length c2 := hf 7 (by show 7 < 11; omega)
          have f8 := hf 8 (by show 8 < 11; omega)
          have f9 : f 9 = .bool true := hf 9 (by show 9 < 11; omega)
          have f10 : f 10 = .bool false := hf 10 (by show 10 < 11; omega)
          refine (show ∀ (a : Act) (w : World), Code.wp _ _ _ a w → _ from by assumption) _ _ ?_
          refine Rv.fin_swap (L' := [(16, f 0), (17, f 1), (18, f 2), (19, f 3), (20, f 4), (21, f 5), (22, f 6), (23, f 7), (24, f 8), (25, f 9), (26, f 10)]) rfl ?_
          rw [f0, f1, f2, f3, f4, f5, f6, f7, f9, f10]
          clear f0 f1 f2 f3 f4 f5 f6 f7 f9 f10
          simp only [Rv.fin, List.foldl_cons, List.foldl_nil, Act.put, List.setIfInBounds_toArray, List.set_cons_succ, List.set_cons_zero]
          have HB2 := Lib.hid (HB.out.trans (htr.mono HB.out.size))
          clear htr hf f8
          generalize f 8 = x8 at *
          go_wp2
          go_roundw
          case rel => exact ⟨k + 1, by go_num, by omega, HB2⟩
          case measure => simp [intOf]; omega
        · obtain rfl : k = i1 := by omega
          go_wp2
          go_roundw
          case rel => exact ⟨k + 1, by go_num, by omega, HB⟩
          case measure => simp [intOf]; omega
    · obtain rfl : i1 = ls.length := by omega
      go_wp2
      go_ret
      exact ⟨rfl, HB.out⟩
end Go.Proofs.YtfnogpelaoofbaaGreatDoor.Rg

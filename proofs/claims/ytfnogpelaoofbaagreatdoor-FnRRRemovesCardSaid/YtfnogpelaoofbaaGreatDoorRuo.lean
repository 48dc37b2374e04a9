/- FnRRRemoves: for whatever two ranges the law returns true. Conditions: those written at each lemma. -/
import Derived.Test.YtfnogpelaoofbaaGreatDoorRun
import Derived.Test.YtfnogpelaoofbaaGreatDoorOvh
import Derived.Deep.Slices
import Derived.ProofKit
import Derived.OpenShut
import Derived.ChangeOld
set_option linter.unusedVariables false
set_option linter.unusedSimpArgs false
set_option maxRecDepth 100000
set_option maxHeartbeats 8000000
namespace Go.Proofs.YtfnogpelaoofbaaGreatDoor.Rg
open Go.ChangeShapes Go.WideShapes Go.ChangeAt Go.RowKit Go.Proofs.YtfnogpelaoofbaaGreatDoor.B Go.Proofs.YtfnogpelaoofbaaGreatDoor.Sp

theorem okB_in {l : List Cl} {a : List Int} : okB l a = true ↔ In l a := by
  unfold okB In
  rw [Bool.and_eq_true, decide_eq_true_iff, List.all_eq_true]
  constructor
  · rintro ⟨h1, h2⟩
    refine ⟨h1, fun j hj => ?_⟩
    have hz : j < (l.zip a).length := by rw [List.length_zip]; omega
    have h3 := h2 _ (List.getElem_mem hz)
    rw [List.getElem_zip] at h3
    have h4 := (inB_iff _ _).1 h3
    rw [gt_at hj]
    unfold ga
    rw [List.getD_eq_getElem?_getD, List.getElem?_eq_getElem (by omega : j < a.length)]
    exact h4
  · rintro ⟨h1, h2⟩
    refine ⟨h1, fun c hc => ?_⟩
    obtain ⟨j, hj, e⟩ := List.mem_iff_getElem.1 hc
    have hz : j < l.length ∧ j < a.length := by rw [List.length_zip] at hj; omega
    rw [List.getElem_zip] at e
    have h3 := h2 j hz.1
    rw [gt_at hz.1] at h3
    unfold ga at h3
    rw [List.getD_eq_getElem?_getD, List.getElem?_eq_getElem hz.2] at h3
    rw [← e]
    exact (inB_iff _ _).2 h3
theorem hasB_has {L : List (List Cl)} {a : List Int} : hasB L a = true ↔ Has L a := by
  unfold hasB Has
  rw [List.any_eq_true]
  exact ⟨fun ⟨m, h1, h2⟩ => ⟨m, h1, okB_in.1 h2⟩, fun ⟨m, h1, h2⟩ => ⟨m, h1, okB_in.2 h2⟩⟩
theorem has_pair {p q : List Cl} {a : List Int} : Has [p, q] a ↔ In p a ∨ In q a := by
  constructor
  · rintro ⟨m, hm, h⟩
    rcases List.mem_cons.1 hm with rfl | hm
    · exact .inl h
    · rw [List.mem_singleton.1 hm] at h; exact .inr h
  · rintro (h | h)
    · exact ⟨_, .head _, h⟩
    · exact ⟨_, .tail _ (.head _), h⟩
theorem ro_cover {p q : List Cl} {L : List (List Cl)} {b : Bool} {n : Nat} (hr : RO p q L b) (ht : Two p q n) (a : List Int) : hasB L a = hasB [p, q] a := by
  rw [Bool.eq_iff_iff, hasB_has, hasB_has, ro_in hr ht a, has_pair]
theorem none_iff {p q : List Cl} {n : Nat} (h : Two p q n) (h0 : 0 < n) : noneL (meetL p q) = false ↔ Ovs p q := by
  have hl : (meetL p q).length = n := by rw [meetL_len]; have := h.1; have := h.2.1; omega
  unfold noneL
  rw [Bool.or_eq_false_iff, List.any_eq_false]
  constructor
  · rintro ⟨h1, _⟩ j hj
    have fp := (h.2.2.1 _ (gt_mem hj)).2.2
    have fq := (h.2.2.2 _ (gt_mem (l := q) (i := j) (by have := h.1; have := h.2.1; omega))).2.2
    have h2 := h1 _ (gt_mem (l := meetL p q) (i := j) (by have := h.1; omega))
    rw [meetL_gt hj (by have := h.1; have := h.2.1; omega)] at h2
    simp only [decide_eq_true_eq] at h2
    rw [mtc_lo, mtc_hi] at h2
    unfold Ov1
    split at h2 <;> split at h2 <;> omega
  · intro h1
    refine ⟨fun c hc => ?_, decide_eq_false (by omega)⟩
    obtain ⟨j, hj, rfl⟩ := List.mem_iff_getElem.1 hc
    have hjp : j < p.length := by have := h.1; omega
    have fp := (h.2.2.1 _ (gt_mem hjp)).2.2
    have fq := (h.2.2.2 _ (gt_mem (l := q) (i := j) (by have := h.1; have := h.2.1; omega))).2.2
    have h2 := h1 j hjp
    rw [← gt_at hj, meetL_gt hjp (by have := h.1; have := h.2.1; omega)]
    simp only [decide_eq_true_eq]
    rw [mtc_lo, mtc_hi]
    unfold Ov1 at h2
    split <;> split <;> omega
theorem dj_none {l m : List Cl} {n : Nat} (h : Two l m n) (h0 : 0 < n) (hd : Dj l m) : noneL (meetL l m) = true := by
  cases e : noneL (meetL l m)
  · exfalso
    have ho := (none_iff h h0).1 e
    have hl : (meetL l m).length = n := by rw [meetL_len]; have := h.1; have := h.2.1; omega
    have key : ∀ j, j < n → Inn (gt l j) (ga ((meetL l m).map fun c => c.lo) j) ∧ Inn (gt m j) (ga ((meetL l m).map fun c => c.lo) j) := fun j hj => by
      have e1 : ga ((meetL l m).map fun c => c.lo) j = (mtc (gt l j) (gt m j)).lo := by
        unfold ga
        rw [List.getD_eq_getElem?_getD, List.getElem?_map, List.getElem?_eq_getElem (by omega : j < (meetL l m).length)]
        show (meetL l m)[j].lo = _
        rw [← gt_at (by omega), meetL_gt (by have := h.1; omega) (by have := h.2.1; omega)]
      rw [e1]
      have fl := (h.2.2.1 _ (gt_mem (l := l) (i := j) (by have := h.1; omega))).2.2
      have fm := (h.2.2.2 _ (gt_mem (l := m) (i := j) (by have := h.2.1; omega))).2.2
      have h3 := ho j (by have := h.1; omega)
      refine (mtc_in _ _ _).1 ⟨Int.le_refl _, ?_⟩
      rw [mtc_lo, mtc_hi]
      unfold Ov1 at h3
      split <;> split <;> omega
    exact hd ((meetL l m).map fun c => c.lo) ⟨⟨by rw [List.length_map, hl]; exact h.1, fun j hj => (key j (by have := h.1; omega)).1⟩, ⟨by rw [List.length_map, hl]; exact h.2.1, fun j hj => (key j (by have := h.2.1; omega)).2⟩⟩
  · rfl
theorem ro_none {p q : List Cl} {L : List (List Cl)} {b : Bool} {n : Nat} (hr : RO p q L b) (ht : Two p q n) (h0 : 0 < n) : ∀ i j (hi : i < L.length) (hj : j < i), noneL (meetL L[i] (L[j]'(by omega))) = true := fun i j hi hj => by
  have hd := (List.pairwise_iff_getElem.1 (ro_dj hr ht)) j i (by omega) hi hj
  have f1 := ro_ful hr ht _ (List.getElem_mem hi)
  have f2 := ro_ful hr ht _ (List.getElem_mem (show j < L.length by omega))
  exact dj_none ⟨f1.1, f2.1, f1.2, f2.2⟩ h0 (fun a ⟨k1, k2⟩ => hd a ⟨k2, k1⟩)

theorem rl_pair {W : World} {A A2 : Option Addr} {n c c2 : Nat} {p q : List Cl} (hp : p.length = n) (hq : q.length = n) (h1 : Rd W 4 (.slice A n c) n (clc p)) (h2 : Rd W 4 (.slice A2 n c2) n (clc q)) :
    RL (W.alloc (.cells #[.slice A n c, .slice A2 n c2] 22)) (.slice (some ⟨W.heap.size, 0, none⟩) 2 2) [p, q] := by
  have hb : Below W.heap.size W (W.alloc (.cells #[.slice A n c, .slice A2 n c2] 22)) := (Below.refl _ _).alloc (Nat.le_refl _) _
  refine ⟨[.slice A n c, .slice A2 n c2], _, 2, rfl, rd_new rfl (by omega), rfl, fun i h3 h4 => ?_⟩
  match i, h3 with
  | 0, _ => exact ⟨A, c, by rw [show ([p, q] : List (List Cl))[0] = p from rfl, hp]; rfl, by rw [show ([p, q] : List (List Cl))[0] = p from rfl, hp]; exact h1.below hb⟩
  | 1, _ => exact ⟨A2, c2, by rw [show ([p, q] : List (List Cl))[1] = q from rfl, hq]; rfl, by rw [show ([p, q] : List (List Cl))[1] = q from rfl, hq]; exact h2.below hb⟩
  | i + 2, h3 => exact absurd h3 (by simp)

theorem law3 (v u : Value) (l m : List Cl) (cc : Int) (w : World) (hr : R1 w v l) (hu : R1 w u m) (h0 : 0 ≤ cc) (h1 : cc ≤ 255) :
    Calls Tryz.prog 3 #[v, u, .int .u8 cc] w fun e w' => e = .returned (.bool true) ∧ Below w.heap.size w w' := by
  obtain ⟨A, c, rfl, r1⟩ := hr
  obtain ⟨A2, c2, rfl, r2⟩ := hu
  have hl1 := r1.le
  have hl2 := r2.le
  by_cases hbig : l.length ≤ 2147483647 ∧ m.length ≤ 2147483647
  case neg =>
    clear r1 r2
    by_cases hb1 : l.length ≤ 2147483647
    · have hb2 : ¬ m.length ≤ 2147483647 := fun h => hbig ⟨hb1, h⟩
      clear hbig
      go_enter Tryz.func3, Tryz.ntmps3
      go_wp2
      go_ret
      exact ⟨rfl, Below.refl _ _⟩
    · clear hbig
      go_enter Tryz.func3, Tryz.ntmps3
      go_wp2
      go_ret
      exact ⟨rfl, Below.refl _ _⟩
  case pos =>
    obtain ⟨hb1, hb2⟩ := hbig
    obtain ⟨n, hn⟩ : ∃ n : Nat, (n : Int) = 1 + cc % 3 := ⟨(1 + cc % 3).toNat, by omega⟩
    have hn3 : n ≤ 3 := by omega
    have hn0 : 0 < n := by omega
    have hn4 : n ≤ 1000 := by omega
    have HNN := Lib.hid hn.symm
    have HT := Lib.hid (show Two (fullN l n) (fullN m n) n from ⟨fullN_len l n, fullN_len m n, fullN_ful l n, fullN_ful m n⟩)
    have F1 := Lib.hid (fun (_ : Unit) => rrfull_any _ l n w r1 hn4)
    have F2 := Lib.hid (fun W (hb : Below w.heap.size w W) => rrfull_any _ m n W (r2.below hb) hn4)
    clear hn r1 r2
    generalize fullN l n = p at *
    generalize fullN m n = q at *
    have PA : Hid (∀ c ∈ p, Pcl c) := Lib.hid (fun c hc => ful_pcl (HT.out.2.2.1 c hc))
    have PB : Hid (∀ c ∈ q, Pcl c) := Lib.hid (fun c hc => ful_pcl (HT.out.2.2.2 c hc))
    have hlp : p.length = n := HT.out.1
    have hlq : q.length = n := HT.out.2.1
    have HLP := Lib.hid hlp
    have HLQ := Lib.hid hlq
    have RM := Lib.hid (fun v u W (h1 : Rd W 4 v n (clc p)) (h2 : Rd W 4 u n (clc q)) => rrremove_any v u p q n W (by rw [hlp]; exact h1) (by rw [hlq]; exact h2) HT.out hn0 hn4)
    have MT := Lib.hid (fun v u W (h1 : Rd W 4 v n (clc p)) (h2 : Rd W 4 u n (clc q)) => rrmeet_any v u p q W (by rw [hlp]; exact h1) (by rw [hlq]; exact h2) PA.out PB.out (by omega))
    have MG := Lib.hid (fun v u W (h1 : Rd W 4 v n (clc p)) (h2 : Rd W 4 u n (clc q)) => merged_any v u p q n W (by rw [hlp]; exact h1) (by rw [hlq]; exact h2) HT.out hn0 hn4)
    have NN := Lib.hid (fun v W h => rrnone_any v (meetL p q) W h (meetL_pcl PA.out PB.out))
    have HNI := Lib.hid (none_iff HT.out hn0)
    generalize noneL (meetL p q) = nn at *
    clear hlp hlq
    have CV := Lib.hid (fun L b (hro : RO p q L b) v u W (h1 : RL W v L) (h2 : RL W u [p, q]) => cover_any v u L [p, q] n W h1 h2 (fun l hl c hc => ful_pcl ((ro_ful hro HT.out l hl).2 c hc)) (fun l hl c hc => by
      rcases List.mem_cons.1 hl with rfl | hl
      · exact PA.out c hc
      · rw [List.mem_singleton.1 hl] at hc; exact PB.out c hc) hn3 (by
      have h3 := ro_len hro 0 (Nat.zero_le _) (fun j hj => absurd hj (Nat.not_lt_zero j)) (HLP.out.trans HLQ.out.symm)
      have h4 := HLP.out
      simp only [List.length_cons, List.length_nil]
      omega) (fun a _ => ro_cover hro HT.out a))
    have AP := Lib.hid (fun L b (hro : RO p q L b) v W (h1 : RL W v L) => apart_any v L W h1 (fun l hl c hc => ful_pcl ((ro_ful hro HT.out l hl).2 c hc)) (by
      have h3 := ro_len hro 0 (Nat.zero_le _) (fun j hj => absurd hj (Nat.not_lt_zero j)) (HLP.out.trans HLQ.out.symm)
      have h4 := HLP.out
      omega) (fun l hl => by rw [(ro_ful hro HT.out l hl).1]; exact hn4) (ro_none hro HT.out hn0))
    cases nn
    case false =>
      have HOV := Lib.hid (HNI.out.1 rfl)
      go_enter Tryz.func3, Tryz.ntmps3
      go_upto_region 4 with fail
      rw [HNN.out]
      go_wp2_with (first
        | (go_at_call 6; (with_reducible refine (F1.out ()).mono ?_); rintro e w1 ⟨A3, c3, rfl, ho, hb⟩; have R3 := Lib.hid (Rd.of_own ho); have B1 := Lib.hid hb; clear ho hb)
        | (go_at_call 6; (with_reducible refine (F2.out _ B1.out).mono ?_); rintro e w2 ⟨A4, c4, rfl, ho, hb⟩; have R4 := Lib.hid (Rd.of_own ho); have R32 := Lib.hid (R3.out.below hb); have B2 := Lib.hid (B1.out.trans (hb.mono B1.out.size)); clear ho hb)
        | (go_at_call 7; (with_reducible refine (RM.out _ _ _ R32.out R4.out).mono ?_); rintro e w3 ⟨r, b, L, rfl, hro, hol, hb⟩; have HRO := Lib.hid hro; have HRL := Lib.hid hol.rl; obtain ⟨vs0, A5, c5, e5, _, _⟩ := hol.rl; subst e5; have R33 := Lib.hid (R32.out.below hb); have R43 := Lib.hid (R4.out.below hb); have B3 := Lib.hid (B2.out.trans (hb.mono B2.out.size)); have hL0 : ((L.length : Int) == 0) = false := (by have h3 := ro_pos hro; rw [beq_eq_false_iff_ne]; omega); have hbt : b = true := (ro_flag hro).1.2 (.inl HOV.out); subst hbt; clear hro hol hb)
        | (go_at_call 9; (with_reducible refine (MT.out _ _ _ R33.out R43.out).mono ?_); rintro e w4 ⟨v5, rfl, ho, hb⟩; have R5 := Lib.hid (Rd.of_own ho); have R34 := Lib.hid (R33.out.below hb); have R44 := Lib.hid (R43.out.below hb); have RL4 := Lib.hid (HRL.out.below hb); have B4 := Lib.hid (B3.out.trans (hb.mono B3.out.size)); clear ho hb)
        | (go_at_call 8; (with_reducible refine (NN.out v5 _ R5.out).mono ?_); rintro e w5 ⟨rfl, hb⟩; have R35 := Lib.hid (R34.out.below hb); have R45 := Lib.hid (R44.out.below hb); have RL5 := Lib.hid (RL4.out.below hb); have B5 := Lib.hid (B4.out.trans (hb.mono B4.out.size)); have hal : Below w5.heap.size w5 (w5.alloc (.cells #[.slice A3 n c3, .slice A4 n c4] 22)) := (Below.refl _ _).alloc (Nat.le_refl _) _; have RP := Lib.hid (rl_pair HLP.out HLQ.out R35.out R45.out); have RL6 := Lib.hid (RL5.out.below hal); have B6 := Lib.hid (B5.out.trans (hal.mono B5.out.size)); clear hb hal)
        | (go_at_call 11; (with_reducible refine (CV.out L true HRO.out _ _ _ RL6.out RP.out).mono ?_); rintro e w7 ⟨rfl, hb⟩; have RL7 := Lib.hid (RL6.out.below hb); have B7 := Lib.hid (B6.out.trans (hb.mono B6.out.size)); clear hb)
        | (go_at_call 12; (with_reducible refine (AP.out L true HRO.out _ _ RL7.out).mono ?_); rintro e w8 ⟨rfl, hb⟩; have B8 := Lib.hid (B7.out.trans (hb.mono B7.out.size)); clear hb))
      go_ret
      exact ⟨rfl, B8.out⟩
    case true =>
      have HOV := Lib.hid (show ¬ Ovs p q from fun h => by have := HNI.out.2 h; cases this)
      go_enter Tryz.func3, Tryz.ntmps3
      go_upto_region 4 with fail
      rw [HNN.out]
      go_wp2_with (first
        | (go_at_call 6; (with_reducible refine (F1.out ()).mono ?_); rintro e w1 ⟨A3, c3, rfl, ho, hb⟩; have R3 := Lib.hid (Rd.of_own ho); have B1 := Lib.hid hb; clear ho hb)
        | (go_at_call 6; (with_reducible refine (F2.out _ B1.out).mono ?_); rintro e w2 ⟨A4, c4, rfl, ho, hb⟩; have R4 := Lib.hid (Rd.of_own ho); have R32 := Lib.hid (R3.out.below hb); have B2 := Lib.hid (B1.out.trans (hb.mono B1.out.size)); clear ho hb)
        | (go_at_call 7; (with_reducible refine (RM.out _ _ _ R32.out R4.out).mono ?_); rintro e w3 ⟨r, b, L, rfl, hro, hol, hb⟩; have HRO := Lib.hid hro; have HRL := Lib.hid hol.rl; obtain ⟨vs0, A5, c5, e5, _, _⟩ := hol.rl; subst e5; have R33 := Lib.hid (R32.out.below hb); have R43 := Lib.hid (R4.out.below hb); have B3 := Lib.hid (B2.out.trans (hb.mono B2.out.size)); have hL0 : ((L.length : Int) == 0) = false := (by have h3 := ro_pos hro; rw [beq_eq_false_iff_ne]; omega); have HFL := Lib.hid (ro_flag hro); clear hro hol hb)
        | (go_at_call 9; (with_reducible refine (MT.out _ _ _ R33.out R43.out).mono ?_); rintro e w4 ⟨v5, rfl, ho, hb⟩; have R5 := Lib.hid (Rd.of_own ho); have R34 := Lib.hid (R33.out.below hb); have R44 := Lib.hid (R43.out.below hb); have RL4 := Lib.hid (HRL.out.below hb); have B4 := Lib.hid (B3.out.trans (hb.mono B3.out.size)); clear ho hb)
        | (go_at_call 8; (with_reducible refine (NN.out v5 _ R5.out).mono ?_); rintro e w5 ⟨rfl, hb⟩; have R35 := Lib.hid (R34.out.below hb); have R45 := Lib.hid (R44.out.below hb); have RL5 := Lib.hid (RL4.out.below hb); have B5 := Lib.hid (B4.out.trans (hb.mono B4.out.size)); clear hb)
        | (go_at_call 10; (with_reducible refine (MG.out _ _ _ R35.out R45.out).mono ?_); rintro e w6 ⟨mb, rfl, hmb, hb⟩; have hmm : mb = b := (by rw [Bool.eq_iff_iff, hmb, HFL.out.1]; exact ⟨fun h => .inr h, fun h => h.elim (fun h => absurd h HOV.out) id⟩); subst hmm; have R36 := Lib.hid (R35.out.below hb); have R46 := Lib.hid (R45.out.below hb); have RL5' := Lib.hid (RL5.out.below hb); have B5' := Lib.hid (B5.out.trans (hb.mono B5.out.size)); have hal : Below w6.heap.size w6 (w6.alloc (.cells #[.slice A3 n c3, .slice A4 n c4] 22)) := (Below.refl _ _).alloc (Nat.le_refl _) _; have RP := Lib.hid (rl_pair HLP.out HLQ.out R36.out R46.out); have RL6 := Lib.hid (RL5'.out.below hal); have B6 := Lib.hid (B5'.out.trans (hal.mono B5'.out.size)); have hL2 : mb = false → ((L.length : Int) == 2) = true := (fun h => by rw [beq_iff_eq, HFL.out.2 h]; rfl); clear hb hal hmb; cases mb)
        | (go_at_call 11; (with_reducible refine (CV.out L _ HRO.out _ _ _ RL6.out RP.out).mono ?_); rintro e w7 ⟨rfl, hb⟩; have RL7 := Lib.hid (RL6.out.below hb); have B7 := Lib.hid (B6.out.trans (hb.mono B6.out.size)); clear hb)
        | (go_at_call 12; (with_reducible refine (AP.out L _ HRO.out _ _ RL7.out).mono ?_); rintro e w8 ⟨rfl, hb⟩; have B8 := Lib.hid (B7.out.trans (hb.mono B7.out.size)); clear hb))
      all_goals
        go_ret
        first
          | exact ⟨rfl, B8.out⟩
          | exact ⟨by simp [hL2], B8.out⟩
section
variable {H : Type} {enc : TypeId × Value → H} {W : World} {base : Nat} {held : Bool}
theorem clc_at (c : Nat → Cl) : ∀ (n j : Nat) (u : Value), (clc ((List.range n).map c))[j]? = some u → j / 4 < n ∧ ([.int .i64 (c (j / 4)).a, .int .i64 (c (j / 4)).x, .int .i64 (c (j / 4)).b, .int .i64 (c (j / 4)).y] : List Value)[j % 4]? = some u := by
  intro n j u hu
  have hl : (clc ((List.range n).map c)).length = n * 4 := by rw [clc_len]; simp
  have hj : j < n * 4 := by
    rcases Nat.lt_or_ge j (n * 4) with h | h
    · exact h
    · rw [List.getElem?_eq_none (by omega)] at hu; cases hu
  have hk : j / 4 < n := by omega
  refine ⟨hk, ?_⟩
  obtain ⟨g0, g1, g2, g3⟩ := clc_get ((List.range n).map c) (j / 4) (by simpa using hk)
  simp only [List.getElem_map, List.getElem_range] at g0 g1 g2 g3
  have h4 : j % 4 = 0 ∨ j % 4 = 1 ∨ j % 4 = 2 ∨ j % 4 = 3 := by omega
  rcases h4 with h4 | h4 | h4 | h4 <;> rw [h4]
  · rw [show j = j / 4 * 4 by omega] at hu; rw [g0] at hu; exact hu
  · rw [show j = j / 4 * 4 + 1 by omega] at hu; rw [g1] at hu; exact hu
  · rw [show j = j / 4 * 4 + 2 by omega] at hu; rw [g2] at hu; exact hu
  · rw [show j = j / 4 * 4 + 3 by omega] at hu; rw [g3] at hu; exact hu
instance : Inhabited Cl := ⟨⟨0, 0, 0, 0⟩⟩
theorem cols_raw {fuel : Nat} {v : Value} {x : DataW H × List MemPlace} (h : DataW.trod enc Tryz.prog W base (fun _ => true) held fuel 22 [v] = some x) : ∃ l, R1 W v l := by
  rcases Go.Deep.open_slice Tryz.underlying22 h with ⟨hcs, _⟩ | ⟨a, len, cap, m, n, D, Pl, hcs, _, hl, hm, hmm, _, hx⟩
  · injection hcs with hv
    subst hv
    exact ⟨[], none, 0, rfl, Rd.nil W 4⟩
  · injection hcs with hv
    subst hv
    rw [if_pos rfl] at hmm
    subst hmm
    rw [show Tryz.prog.cellsOf 54 = 4 by kernel_rfl] at hx
    obtain ⟨c, hc⟩ := Go.Deep.choose_lt (α := Cl) (p := fun i c => W.cells? base (a.add (i * 4)) 4 = some [.int .i64 c.a, .int .i64 c.x, .int .i64 c.b, .int .i64 c.y]) (fun i hi => by
      obtain ⟨cs', h1, h2⟩ := hx i hi
      obtain ⟨c, rfl⟩ := trod_col h2
      exact ⟨c, h1⟩)
    have hlen : ((List.range len).map c).length = len := by simp
    refine ⟨(List.range len).map c, some a, m, by rw [hlen], ?_⟩
    rw [hlen]
    refine ⟨by rw [clc_len, hlen], some a, m, rfl, hl, by simpa [maxLen] using hm, fun hn => ?_⟩
    have h0 := (World.cells?_some (hc 0 (by omega))).2.2 0 (by omega)
    obtain ⟨b, o, sp⟩ := a
    have hsp : sp = none := by simpa [Addr.add] using World.cell?_spot h0
    subst hsp
    rw [add_at, add_at] at h0
    refine ⟨b, o, rfl, World.block_lt_of_cell? W _ h0, fun j u hu => ?_⟩
    obtain ⟨hk, h4⟩ := clc_at c len j u hu
    have h := (World.cells?_some (hc (j / 4) (by omega))).2.2 (j % 4) (by omega)
    rw [h4, add_at, add_at, show o + j / 4 * 4 + j % 4 = o + j by omega] at h
    exact h
theorem cols_open {b0 : Nat} {v : Value} {d : DataW H} {p : List MemPlace} (hok : Value.okWide Tryz.prog W .any b0 22 v) (h : DataW.Trod enc Tryz.prog W 0 (fun _ => true) true 22 v d p) : ∃ l, R1 W v l := by
  obtain ⟨A0, n0, c0, rfl⟩ := okWide_slice Tryz.underlying22 hok
  obtain ⟨fuel, hf⟩ := h
  exact cols_raw hf
theorem law3_raw {b0 : Nat} {d1 d2 : DataW H} {p1 p2 : List MemPlace} (v u : Value) (cc : Int) (W : World) (hok : Value.okWide Tryz.prog W .any b0 22 v) (h : DataW.Trod enc Tryz.prog W 0 (fun _ => true) true 22 v d1 p1)
    (hok2 : Value.okWide Tryz.prog W .any b0 22 u) (h2 : DataW.Trod enc Tryz.prog W 0 (fun _ => true) true 22 u d2 p2) (hc : (Lit.int .u8 cc).wf = true) (hT : True) :
    Calls Tryz.prog 3 #[v, u, .int .u8 cc] W fun e w' => e = .returned (.bool true) ∧ Below W.heap.size W w' := by
  obtain ⟨l, hr⟩ := cols_open hok h
  obtain ⟨m, hu⟩ := cols_open hok2 h2
  obtain ⟨h0, h1⟩ := bounds_u8 hc
  exact law3 v u l m cc W hr hu h0 h1
end
end Go.Proofs.YtfnogpelaoofbaaGreatDoor.Rg

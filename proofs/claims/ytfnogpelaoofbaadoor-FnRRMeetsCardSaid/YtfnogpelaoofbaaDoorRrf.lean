/- FnRRMeets: for whatever ranges the law returns true. Conditions: those written at each lemma. -/
import Derived.Test.YtfnogpelaoofbaaDoorRre
set_option linter.unusedVariables false
set_option linter.unusedSimpArgs false
set_option maxRecDepth 100000
set_option maxHeartbeats 8000000
namespace Go.Proofs.YtfnogpelaoofbaaDoor.Rg
open Go.RowKit Go.Proofs.YtfnogpelaoofbaaDoor.B Go.Proofs.YtfnogpelaoofbaaDoor.Sp

theorem sameL_self (p : List Cl) : sameL p p = true := by
  unfold sameL
  rw [decide_eq_true rfl, Bool.true_and, Bool.or_eq_true]
  refine .inr (List.all_eq_true.2 fun c hc => ?_)
  have h : ∀ (l : List Cl), ∀ c ∈ l.zip l, c.1 = c.2 := by
    intro l
    induction l with
    | nil => intro c hc; cases hc
    | cons a r ih =>
      intro c hc
      rcases List.mem_cons.1 hc with rfl | hc
      · rfl
      · exact ih c hc
  rw [h p c hc]
  exact sameC_self _
theorem allM_none {p q : List Cl} (h : allM p q = false) : noneL (meetL p q) = true := by
  unfold allM at h
  rw [List.all_eq_false] at h
  obtain ⟨c, hc, h⟩ := h
  unfold noneL
  rw [Bool.or_eq_true]
  refine .inl (List.any_eq_true.2 ⟨mtc c.1 c.2, ?_, ?_⟩)
  · have : meetL p q = (p.zip q).map fun c => mtc c.1 c.2 := by
      unfold meetL
      rw [List.zip, List.map_zipWith]
    rw [this]
    exact List.mem_map.2 ⟨c, hc, rfl⟩
  · have h2 : ¬ (mtc c.1 c.2).lo < (mtc c.1 c.2).hi := by simpa using h
    exact decide_eq_true (by omega)
theorem isect_none {p q : List Cl} (h : allM p q = false) : noneL (isect p q) = true := by
  rw [isect_no h]
  cases p with
  | nil => rfl
  | cons a r => rfl
theorem isect_same (p q : List Cl) : sameL (isect p q) (meetL p q) = true := by
  cases h : allM p q
  · unfold sameL
    rw [isect_none h, allM_none h]
    rfl
  · rw [isect_yes h]
    exact sameL_self _
theorem isect_eq {p q : List Cl} (h : noneL (meetL p q) = false) : isect p q = meetL p q := by
  cases h1 : allM p q
  · rw [allM_none h1] at h; cases h
  · exact isect_yes h1
theorem isect_self {p : List Cl} (h : ∀ c ∈ p, Ful c) : isect p p = p := by
  have e : ∀ (l : List Cl), meetL l l = l := by
    intro l
    induction l with
    | nil => rfl
    | cons a r ih => show mtc a a :: meetL r r = _; rw [mtc_self, ih]
  have ha : allM p p = true := by
    unfold allM
    rw [List.all_eq_true]
    intro c hc
    have h2 : ∀ (l : List Cl), ∀ c ∈ l.zip l, c.1 = c.2 ∧ c.1 ∈ l := by
      intro l
      induction l with
      | nil => intro c hc; cases hc
      | cons a r ih =>
        intro c hc
        rcases List.mem_cons.1 hc with rfl | hc
        · exact ⟨rfl, .head _⟩
        · exact ⟨(ih c hc).1, .tail _ (ih c hc).2⟩
    obtain ⟨h3, h4⟩ := h2 p c hc
    rw [← h3, mtc_self]
    exact decide_eq_true (h _ h4).2.2
  rw [isect_yes ha, e]
theorem rrl_mem (ls : List (List Cl)) (n m : Nat) : ∀ l ∈ rrl ls n m, l.length = n ∧ ∀ c ∈ l, Ful c := by
  intro l hl
  unfold rrl at hl
  rcases List.mem_append.1 hl with h | h
  · obtain ⟨x, _, rfl⟩ := List.mem_map.1 h
    exact ⟨fullN_len _ _, fullN_ful _ _⟩
  · rw [List.mem_singleton.1 h]
    exact ⟨fullN_len _ _, fullN_ful _ _⟩
theorem rrl_pos (ls : List (List Cl)) (n m : Nat) : 0 < (rrl ls n m).length := by unfold rrl; simp
theorem R1.mk {W : World} {A : Option Addr} {n c : Nat} {l : List Cl} (h : Rd W 4 (.slice A n c) n (clc l)) (e : l.length = n) : R1 W (.slice A n c) l := ⟨A, c, by rw [e], by rw [e]; exact h⟩
theorem rd_cap2 {W : World} {size n c : Nat} {A : Option Addr} {cs : List Value} (h : Rd W size (.slice A n c) n cs) : n ≤ c := by
  obtain ⟨_, A', c', h2, h3, _⟩ := h
  injection h2 with e1 e2 e3
  omega
theorem rl_cap {W : World} {A : Option Addr} {n c : Nat} {ls : List (List Cl)} (h : RL W (.slice A n c) ls) : n ≤ c := by
  obtain ⟨vs, A', c', e, hr, _⟩ := h
  injection e with e1 e2 e3
  subst e1 e2 e3
  exact rd_cap2 hr

theorem law7 (v : Value) (ls : List (List Cl)) (cc : Int) (w : World) (hr : RL w v ls) (h0 : 0 ≤ cc) (h1 : cc ≤ 255) :
    Calls Tryd.prog 7 #[v, .int .u8 cc] w fun e w' => e = .returned (.bool true) ∧ Below w.heap.size w w' := by
  obtain ⟨n, hn⟩ : ∃ n : Nat, (n : Int) = 1 + cc % 3 := ⟨(1 + cc % 3).toNat, by omega⟩
  have FI := Lib.hid (fits_any v ls w hr)
  have LI : Hid (Calls Tryd.prog 29 #[v, .int .u8 cc, .int .i64 4] w fun e w' => ∃ A c, e = .returned (.tuple #[.slice A (rrl ls n 4).length c, .int .i64 (n : Int)]) ∧ RL w' (.slice A (rrl ls n 4).length c) (rrl ls n 4) ∧ Below w.heap.size w w') := Lib.hid (list_any v ls cc n 4 w hr h0 h1 hn (by omega))
  have HM := Lib.hid (rrl_mem ls n 4)
  have hpos := rrl_pos ls n 4
  have hn3 : n ≤ 3 := by omega
  have hll : (rrl ls n 4).length ≤ 5 := by unfold rrl; simp; omega
  generalize rrl ls n 4 = L at *
  clear hr h0 h1 hn
  go_enter Tryd.func7, Tryd.ntmps7
  go_wp2_with (go_at_call 28; (with_reducible refine FI.out.mono ?_); rintro e w1 ⟨⟨bf, rfl⟩, rfl⟩; cases bf)
  · go_wp2
    go_ret
    exact ⟨rfl, Below.refl _ _⟩
  · clear FI
    go_upto_region 4 with (go_at_call 29; (with_reducible refine LI.out.mono ?_); rintro e w2 ⟨A5, c5, rfl, hr5, hb2⟩; have R5 := Lib.hid hr5; have B2 := Lib.hid hb2; clear hr5 hb2)
    have hcap := rl_cap R5.out
    obtain ⟨b, o, A0, c0, rfl, hb, hc, hr0⟩ := R5.out.get 0 hpos
    have HM0 := HM.out _ (List.getElem_mem hpos)
    have hl0 : L[0].length ≤ 1000 := by rw [HM0.1]; omega
    obtain ⟨F0, hF0⟩ : ∃ F0, L[0] = F0 := ⟨_, rfl⟩
    rw [hF0] at hc hr0 HM0 hl0
    obtain ⟨hnF, hFul⟩ := HM0
    subst hnF
    have HF := Lib.hid hFul
    have HP0 : Hid (∀ c ∈ F0, Pcl c) := Lib.hid (fun c hc => ful_pcl (hFul c hc))
    have R0 := Lib.hid hr0
    have C0 := Lib.hid hc
    clear hFul hr0 hF0 hc LI
    obtain ⟨X, rfl⟩ : ∃ X : World, X = w2 := ⟨_, rfl⟩
    refine Rv.region_goods (n := 88) (by kernel_rfl) #[23, 24, 25, 26, 27, 28, 7, 8] #[] (fun i v W => v = (#[.slice (some ⟨b, o, none⟩) L.length c5, .pointer (some ⟨b, o, none⟩), .slice A0 F0.length c0, .slice (some ⟨b, o, none⟩) L.length c5, .pointer (some ⟨b, o, none⟩), .slice A0 F0.length c0, .slice A0 F0.length c0, .slice A0 F0.length c0] : Array Value).getD i undef) (fun i v w w' h hb => ?_) (fun i h g b hg => ?_) rfl (by kernel_rfl) (by kernel_rfl) (fun i h hr w => ?_) ?_ ?_
    · exact h
    · match i, h, hg with
      | 0, _, hg => cases hg
      | 1, _, hg => cases hg
      | 2, _, hg => cases hg
      | 3, _, hg => cases hg
      | 4, _, hg => cases hg
      | 5, _, hg => cases hg
      | 6, _, hg => cases hg
      | 7, _, hg => cases hg
      | m + 8, h, _ => exact absurd h (by show ¬ m + 8 < 8; omega)
    · match i, h, hr with
      | 0, _, hr => exact Bool.noConfusion (show true = false from hr)
      | 1, _, hr => exact Bool.noConfusion (show true = false from hr)
      | 2, _, hr => exact Bool.noConfusion (show true = false from hr)
      | 3, _, hr => exact Bool.noConfusion (show true = false from hr)
      | 4, _, hr => exact Bool.noConfusion (show true = false from hr)
      | 5, _, hr => exact Bool.noConfusion (show true = false from hr)
      | 6, _, hr => exact Bool.noConfusion (show true = false from hr)
      | 7, _, hr => exact Bool.noConfusion (show true = false from hr)
      | m + 8, h, _ => exact absurd h (by show ¬ m + 8 < 8; omega)
    · intro i h a W hrun hbase hpre hdep htr
      have q0 := (htr.cell (p := ⟨b, o, none⟩) hb).trans C0.out
      match i, h with
      | 0, _ =>
        obtain ⟨e5, x5⟩ := Rv.ev (show a.tmps.getD 5 undef = .slice (some ⟨b, o, none⟩) L.length c5 from hbase 5 rfl)
        exact Rv.step_op (op := Go.Op.move (Go.Operand.tmp 5)) (v := .slice (some ⟨b, o, none⟩) L.length c5) (w1 := W) rfl rfl (fun d pos aft g => by unfold execOp; go_simp) ⟨_, rfl, rfl, Below.refl _ _⟩
      | 1, _ =>
        obtain ⟨e23, x23⟩ := Rv.ev (show a.tmps.getD 23 undef = .slice (some ⟨b, o, none⟩) L.length c5 from hdep 0 rfl)
        exact Rv.step_op (op := Go.Op.indexAddr 46 (Go.Operand.tmp 23) (Go.Operand.const (Go.Value.int Go.IntKind.i64 0))) (v := .pointer (some ⟨b, o, none⟩)) (w1 := W) rfl rfl (fun d pos aft g => by unfold execOp; go_simp) ⟨_, rfl, rfl, Below.refl _ _⟩
      | 2, _ =>
        obtain ⟨e24, x24⟩ := Rv.ev (show a.tmps.getD 24 undef = .pointer (some ⟨b, o, none⟩) from hdep 1 rfl)
        exact Rv.step_op (op := Go.Op.load 28 (Go.Operand.tmp 24)) (v := .slice A0 F0.length c0) (w1 := W) rfl rfl (fun d pos aft g => by unfold execOp; go_simp) ⟨_, rfl, rfl, Below.refl _ _⟩
      | 3, _ =>
        obtain ⟨e5, x5⟩ := Rv.ev (show a.tmps.getD 5 undef = .slice (some ⟨b, o, none⟩) L.length c5 from hbase 5 rfl)
        exact Rv.step_op (op := Go.Op.move (Go.Operand.tmp 5)) (v := .slice (some ⟨b, o, none⟩) L.length c5) (w1 := W) rfl rfl (fun d pos aft g => by unfold execOp; go_simp) ⟨_, rfl, rfl, Below.refl _ _⟩
      | 4, _ =>
        obtain ⟨e26, x26⟩ := Rv.ev (show a.tmps.getD 26 undef = .slice (some ⟨b, o, none⟩) L.length c5 from hdep 3 rfl)
        exact Rv.step_op (op := Go.Op.indexAddr 46 (Go.Operand.tmp 26) (Go.Operand.const (Go.Value.int Go.IntKind.i64 0))) (v := .pointer (some ⟨b, o, none⟩)) (w1 := W) rfl rfl (fun d pos aft g => by unfold execOp; go_simp) ⟨_, rfl, rfl, Below.refl _ _⟩
      | 5, _ =>
        obtain ⟨e27, x27⟩ := Rv.ev (show a.tmps.getD 27 undef = .pointer (some ⟨b, o, none⟩) from hdep 4 rfl)
        exact Rv.step_op (op := Go.Op.load 28 (Go.Operand.tmp 27)) (v := .slice A0 F0.length c0) (w1 := W) rfl rfl (fun d pos aft g => by unfold execOp; go_simp) ⟨_, rfl, rfl, Below.refl _ _⟩
      | 6, _ =>
        obtain ⟨e25, x25⟩ := Rv.ev (show a.tmps.getD 25 undef = .slice A0 F0.length c0 from hdep 2 rfl)
        exact Rv.step_op (op := Go.Op.assign (Go.Operand.tmp 25)) (v := .slice A0 F0.length c0) (w1 := W) rfl rfl (fun d pos aft g => by unfold execOp; go_simp) ⟨_, rfl, rfl, Below.refl _ _⟩
      | 7, _ =>
        obtain ⟨e28, x28⟩ := Rv.ev (show a.tmps.getD 28 undef = .slice A0 F0.length c0 from hdep 5 rfl)
        exact Rv.step_op (op := Go.Op.assign (Go.Operand.tmp 28)) (v := .slice A0 F0.length c0) (w1 := W) rfl rfl (fun d pos aft g => by unfold execOp; go_simp) ⟨_, rfl, rfl, Below.refl _ _⟩
      | m + 8, h => exact absurd h (by show ¬ m + 8 < 8; omega)
    intro W f hf htr
    have f0 : f 0 = .slice (some ⟨b, o, none⟩) L.length c5 := hf 0 (by show 0 < 8; omega)
    have f1 : f 1 = .pointer (some ⟨b, o, none⟩) := hf 1 (by show 1 < 8; omega)
    have f2 : f 2 = .slice A0 F0.length c0 := hf 2 (by show 2 < 8; omega)
    have f3 : f 3 = .slice (some ⟨b, o, none⟩) L.length c5 := hf 3 (by show 3 < 8; omega)
    have f4 : f 4 = .pointer (some ⟨b, o, none⟩) := hf 4 (by show 4 < 8; omega)
    have f5 : f 5 = .slice A0 F0.length c0 := hf 5 (by show 5 < 8; omega)
    have f6 : f 6 = .slice A0 F0.length c0 := hf 6 (by show 6 < 8; omega)
    have f7 : f 7 = .slice A0 F0.length c0 := hf 7 (by show 7 < 8; omega)
    refine (show ∀ (a : Act) (w : World), Code.wp _ _ _ a w → _ from by assumption) _ _ ?_
    refine Rv.fin_swap (L' := [(23, f 0), (24, f 1), (25, f 2), (26, f 3), (27, f 4), (28, f 5), (7, f 6), (8, f 7)]) rfl ?_
    rw [f0, f1, f2, f3, f4, f5, f6, f7]
    clear f0 f1 f2 f3 f4 f5 f6 f7
    simp only [Rv.fin, List.foldl_cons, List.foldl_nil, Act.put, List.setIfInBounds_toArray, List.set_cons_succ, List.set_cons_zero]
    have R5W := Lib.hid (R5.out.below htr)
    have R0W := Lib.hid (R0.out.below htr)
    have C0W := Lib.hid ((htr.cell (p := ⟨b, o, none⟩) hb).trans C0.out)
    have hbW := Nat.lt_of_lt_of_le hb htr.size
    have BW := Lib.hid (B2.out.trans (htr.mono B2.out.size))
    clear R5 R0 C0 hb B2 htr
    generalize W = X1 at *
    go_wp2
    go_loopw [7, 8, 9, 10, 11] (fun v7 v8 v9 v10 v11 wr => ∃ (i : Nat) (P Q : List Cl), v9 = .int .i64 i ∧ 1 ≤ i ∧ i ≤ L.length ∧ P.length = F0.length ∧ Q.length = F0.length ∧ Hid (∀ c ∈ P, Pcl c) ∧ Hid (∀ c ∈ Q, Pcl c) ∧ Hid (noneL Q = false → P = Q) ∧ Hid (R1 wr v7 P) ∧ Hid (R1 wr v8 Q) ∧ Hid (Below X1.heap.size X1 wr)) (fun _ _ v9 _ _ _ => (L.length - (intOf v9)).toNat)
    case atStart => exact ⟨1, F0, F0, rfl, Nat.le_refl _, hpos, rfl, rfl, HP0, HP0, Lib.hid (fun _ => rfl), Lib.hid (R1.mk R0W.out rfl), Lib.hid (R1.mk R0W.out rfl), Lib.hid (Below.refl _ _)⟩
    case round =>
      obtain ⟨i, P, Q, rfl, hi1, hil, hP, hQ, PP, PQ, HPQ, RP, RQ, HB⟩ := hrel
      obtain ⟨A7, c7, rfl, r7⟩ := RP.out
      obtain ⟨A8, c8, rfl, r8⟩ := RQ.out
      have R7 := Lib.hid r7
      have R8 := Lib.hid r8
      have HPL := Lib.hid hP
      have HQL := Lib.hid hQ
      have hPl : P.length ≤ 1000 := by omega
      have hQl : Q.length ≤ 1000 := by omega
      clear r7 r8 hP hQ RP RQ
      have NQ := Lib.hid (rrnone_any (.slice A8 Q.length c8) Q _ R8.out PQ.out)
      by_cases hlt : i < L.length
      · obtain ⟨nq, hnq⟩ : ∃ nq, noneL Q = nq := ⟨_, rfl⟩
        rw [hnq] at NQ HPQ
        clear hnq
        cases nq
        · have hPQ := HPQ.out rfl
          subst hPQ
          obtain ⟨b', o', A3, c3, e3, hb3, hc3, hr3⟩ := R5W.out.get i hlt
          injection e3 with e3; injection e3 with e31 e32; subst e31; subst e32
          have HMI := HM.out _ (List.getElem_mem hlt)
          have C3 := Lib.hid hc3
          have R3 := Lib.hid hr3
          obtain ⟨G, hG⟩ : ∃ G, L[i] = G := ⟨_, rfl⟩
          rw [hG] at C3 R3 HMI
          have HGL := Lib.hid HMI.1
          have PG : Hid (∀ c ∈ G, Pcl c) := Lib.hid (fun c hc => ful_pcl (HMI.2 c hc))
          clear hc3 hr3 HMI hG
          have hd := (HB.out.cell (p := ⟨b, o + i, none⟩) hb3).trans C3.out
          have HPG : Hid (P.length = G.length) := Lib.hid (by rw [HPL.out, HGL.out])
          have HYL := Lib.hid (isect_len HPG.out)
          have HML : Hid ((meetL P G).length = P.length) := Lib.hid (by rw [meetL_len, ← HPG.out]; omega)
          have HSM := Lib.hid (isect_same P G)
          have HEQ := Lib.hid (@isect_eq P G)
          have HYP := Lib.hid (isect_pcl PP.out PG.out)
          have HMP := Lib.hid (meetL_pcl PP.out PG.out)
          go_wp2_with (first
            | (go_at_call 30; (with_reducible refine NQ.out.mono ?_); rintro e w3 ⟨rfl, hb3'⟩; have B3 := Lib.hid (HB.out.trans (hb3'.mono HB.out.size)); have R73 := Lib.hid (R7.out.below hb3'); have R83 := Lib.hid (R8.out.below hb3'); have R33 := Lib.hid (R3.out.below B3.out); have hd3 := (hb3'.cell (p := ⟨b, o + i, none⟩) (World.block_lt_of_cell? _ _ hd)).trans hd; clear hb3' hd)
            | (go_at_call 31; (with_reducible refine (rrinter_any (.slice A7 P.length c7) (.slice A3 G.length c3) P G _ R73.out R33.out PP.out PG.out HPG.out (by omega)).mono ?_); rintro e w4 ⟨A10, c10, rfl, hr10, hb4⟩; have R10 := Lib.hid hr10; have R84 := Lib.hid (R83.out.below hb4); have R34 := Lib.hid (R33.out.below hb4); have B4 := Lib.hid (B3.out.trans (hb4.mono B3.out.size)); have hd4 := (hb4.cell (p := ⟨b, o + i, none⟩) (World.block_lt_of_cell? _ _ hd3)).trans hd3; clear hr10 hb4 hd3)
            | (go_at_call 32; (with_reducible refine (rrmeet_any (.slice A8 P.length c8) (.slice A3 G.length c3) P G _ R84.out R34.out PP.out PG.out (by omega)).mono ?_); rintro e w5 ⟨v5, rfl, ho5, hb5⟩; have R5' := Lib.hid (Rd.of_own ho5); have R105 := Lib.hid (R10.out.below hb5); have B5 := Lib.hid (B4.out.trans (hb5.mono B4.out.size)); clear ho5 hb5 hd4)
            | (go_at_call 33; (with_reducible refine (rrsame_any (.slice A10 P.length c10) v5 (isect P G) (meetL P G) _ (by rw [HYL.out]; exact R105.out) R5'.out HYP.out HMP.out).mono ?_); rintro e w6 ⟨rfl, hb6⟩; rw [HSM.out]; have R106 := Lib.hid (R105.out.below hb6); have R56 := Lib.hid (R5'.out.below hb6); have B6 := Lib.hid (B5.out.trans (hb6.mono B5.out.size)); clear hb6))
          go_roundw
          case rel => exact ⟨i + 1, isect P G, meetL P G, by go_num, by omega, by omega, by rw [HYL.out, HPL.out], by rw [HML.out, HPL.out], HYP, HMP, HEQ, Lib.hid (R1.mk R106.out HYL.out), Lib.hid (R1.of R56.out), B6⟩
          case measure => simp [intOf]; omega
        · -- no values any more
          go_upto_region 13 with (go_at_call 30; (with_reducible refine NQ.out.mono ?_); rintro e w3 ⟨rfl, hb3'⟩; have B3 := Lib.hid (HB.out.trans (hb3'.mono HB.out.size)); clear hb3')
          obtain ⟨X, rfl⟩ : ∃ X : World, X = w3 := ⟨_, rfl⟩
          have R03 := Lib.hid (R0W.out.below B3.out)
          have C03 := Lib.hid ((B3.out.cell (p := ⟨b, o, none⟩) hbW).trans C0W.out)
          have hb0 := World.block_lt_of_cell? _ _ C03.out
          have BX := Lib.hid (BW.out.trans (B3.out.mono BW.out.size))
          have IS : Hid (∀ W, Below X.heap.size X W → Calls Tryd.prog 31 #[.slice A0 F0.length c0, .slice A0 F0.length c0] W fun e w' => ∃ A c, e = .returned (.tuple #[.slice A F0.length c, .bool true]) ∧ Rd w' 4 (.slice A F0.length c) F0.length (clc F0) ∧ Below W.heap.size W w') := Lib.hid (fun W h => by
            have h2 := rrinter_any (.slice A0 F0.length c0) (.slice A0 F0.length c0) F0 F0 W (R03.out.below h) (R03.out.below h) HP0.out HP0.out rfl (by omega)
            rw [isect_self HF.out] at h2
            exact h2)
          refine Rv.region_goods (n := 88) (by kernel_rfl) #[65, 66, 67, 68, 69, 70, 71, 64, 72, 73, 12, 13] #[] (fun i v W => if i = 10 then (fun v W => ∃ A c, v = .slice A F0.length c ∧ Rd W 4 (.slice A F0.length c) F0.length (clc F0)) v W else if i = 8 then (fun v W => ∃ A c, v = .slice A F0.length c ∧ Rd W 4 (.slice A F0.length c) F0.length (clc F0)) v W else if i = 7 then (fun v W => ∃ A c, v = .tuple #[.slice A F0.length c, .bool true] ∧ Rd W 4 (.slice A F0.length c) F0.length (clc F0)) v W else if i = 6 then (fun v W => ∃ A c, v = .tuple #[.slice A F0.length c, .bool true] ∧ Rd W 4 (.slice A F0.length c) F0.length (clc F0)) v W else v = (#[.slice (some ⟨b, o, none⟩) L.length c5, .pointer (some ⟨b, o, none⟩), .slice A0 F0.length c0, .slice (some ⟨b, o, none⟩) L.length c5, .pointer (some ⟨b, o, none⟩), .slice A0 F0.length c0, undef, undef, undef, .bool true, undef, .bool true] : Array Value).getD i undef) (fun i v w w' h hb => ?_) (fun i h g b hg => ?_) rfl (by kernel_rfl) (by kernel_rfl) (fun i h hr w => ?_) ?_ ?_
          · by_cases hi12 : i = 10
            · subst hi12
              rw [if_pos rfl] at h ⊢
              exact (fun v w w' h hb => by obtain ⟨A, c, h1, h2⟩ := h; exact ⟨A, c, h1, h2.below hb⟩) v w w' h hb
            rw [if_neg hi12] at h ⊢
            by_cases hi72 : i = 8
            · subst hi72
              rw [if_pos rfl] at h ⊢
              exact (fun v w w' h hb => by obtain ⟨A, c, h1, h2⟩ := h; exact ⟨A, c, h1, h2.below hb⟩) v w w' h hb
            rw [if_neg hi72] at h ⊢
            by_cases hi64 : i = 7
            · subst hi64
              rw [if_pos rfl] at h ⊢
              exact (fun v w w' h hb => by obtain ⟨A, c, h1, h2⟩ := h; exact ⟨A, c, h1, h2.below hb⟩) v w w' h hb
            rw [if_neg hi64] at h ⊢
            by_cases hi71 : i = 6
            · subst hi71
              rw [if_pos rfl] at h ⊢
              exact (fun v w w' h hb => by obtain ⟨A, c, h1, h2⟩ := h; exact ⟨A, c, h1, h2.below hb⟩) v w w' h hb
            rw [if_neg hi71] at h ⊢
            exact h
          · match i, h, hg with
            | 0, _, hg => cases hg
            | 1, _, hg => cases hg
            | 2, _, hg => cases hg
            | 3, _, hg => cases hg
            | 4, _, hg => cases hg
            | 5, _, hg => cases hg
            | 6, _, hg => cases hg
            | 7, _, hg => cases hg
            | 8, _, hg => cases hg
            | 9, _, hg => cases hg
            | 10, _, hg => cases hg
            | 11, _, hg => cases hg
            | m + 12, h, _ => exact absurd h (by show ¬ m + 12 < 12; omega)
          · match i, h, hr with
            | 0, _, hr => exact Bool.noConfusion (show true = false from hr)
            | 1, _, hr => exact Bool.noConfusion (show true = false from hr)
            | 2, _, hr => exact Bool.noConfusion (show true = false from hr)
            | 3, _, hr => exact Bool.noConfusion (show true = false from hr)
            | 4, _, hr => exact Bool.noConfusion (show true = false from hr)
            | 5, _, hr => exact Bool.noConfusion (show true = false from hr)
            | 6, _, hr => exact Bool.noConfusion (show true = false from hr)
            | 7, _, hr => exact Bool.noConfusion (show true = false from hr)
            | 8, _, hr => exact Bool.noConfusion (show true = false from hr)
            | 9, _, hr => exact Bool.noConfusion (show true = false from hr)
            | 10, _, hr => exact Bool.noConfusion (show true = false from hr)
            | 11, _, hr => exact Bool.noConfusion (show true = false from hr)
            | m + 12, h, _ => exact absurd h (by show ¬ m + 12 < 12; omega)
          · intro i h a W hrun hbase hpre hdep htr
            have q0 := (htr.cell (p := ⟨b, o, none⟩) hb0).trans C03.out
            match i, h with
            | 0, _ =>
              obtain ⟨e5, x5⟩ := Rv.ev (show a.tmps.getD 5 undef = .slice (some ⟨b, o, none⟩) L.length c5 from hbase 5 rfl)
              exact Rv.step_op (op := Go.Op.move (Go.Operand.tmp 5)) (v := .slice (some ⟨b, o, none⟩) L.length c5) (w1 := W) rfl rfl (fun d pos aft g => by unfold execOp; go_simp) ⟨_, rfl, rfl, Below.refl _ _⟩
            | 1, _ =>
              obtain ⟨e65, x65⟩ := Rv.ev (show a.tmps.getD 65 undef = .slice (some ⟨b, o, none⟩) L.length c5 from hdep 0 rfl)
              exact Rv.step_op (op := Go.Op.indexAddr 46 (Go.Operand.tmp 65) (Go.Operand.const (Go.Value.int Go.IntKind.i64 0))) (v := .pointer (some ⟨b, o, none⟩)) (w1 := W) rfl rfl (fun d pos aft g => by unfold execOp; go_simp) ⟨_, rfl, rfl, Below.refl _ _⟩
            | 2, _ =>
              obtain ⟨e66, x66⟩ := Rv.ev (show a.tmps.getD 66 undef = .pointer (some ⟨b, o, none⟩) from hdep 1 rfl)
              exact Rv.step_op (op := Go.Op.load 28 (Go.Operand.tmp 66)) (v := .slice A0 F0.length c0) (w1 := W) rfl rfl (fun d pos aft g => by unfold execOp; go_simp) ⟨_, rfl, rfl, Below.refl _ _⟩
            | 3, _ =>
              obtain ⟨e5, x5⟩ := Rv.ev (show a.tmps.getD 5 undef = .slice (some ⟨b, o, none⟩) L.length c5 from hbase 5 rfl)
              exact Rv.step_op (op := Go.Op.move (Go.Operand.tmp 5)) (v := .slice (some ⟨b, o, none⟩) L.length c5) (w1 := W) rfl rfl (fun d pos aft g => by unfold execOp; go_simp) ⟨_, rfl, rfl, Below.refl _ _⟩
            | 4, _ =>
              obtain ⟨e68, x68⟩ := Rv.ev (show a.tmps.getD 68 undef = .slice (some ⟨b, o, none⟩) L.length c5 from hdep 3 rfl)
              exact Rv.step_op (op := Go.Op.indexAddr 46 (Go.Operand.tmp 68) (Go.Operand.const (Go.Value.int Go.IntKind.i64 0))) (v := .pointer (some ⟨b, o, none⟩)) (w1 := W) rfl rfl (fun d pos aft g => by unfold execOp; go_simp) ⟨_, rfl, rfl, Below.refl _ _⟩
            | 5, _ =>
              obtain ⟨e69, x69⟩ := Rv.ev (show a.tmps.getD 69 undef = .pointer (some ⟨b, o, none⟩) from hdep 4 rfl)
              exact Rv.step_op (op := Go.Op.load 28 (Go.Operand.tmp 69)) (v := .slice A0 F0.length c0) (w1 := W) rfl rfl (fun d pos aft g => by unfold execOp; go_simp) ⟨_, rfl, rfl, Below.refl _ _⟩
            | 6, _ =>
              obtain ⟨e67, x67⟩ := Rv.ev (show a.tmps.getD 67 undef = .slice A0 F0.length c0 from hdep 2 rfl)
              obtain ⟨e70, x70⟩ := Rv.ev (show a.tmps.getD 70 undef = .slice A0 F0.length c0 from hdep 5 rfl)
              have cf : ∀ x0 x1 W, (callFunc 31 #[x0, x1]).run Tryd.prog W = .ok (.enter 31 #[x0, x1]) W := fun _ _ _ => by kernel_rfl
              refine Rv.step_fn (op := Go.Op.call { callee := Go.Callee.value (Go.Operand.func 31), args := #[Go.Operand.tmp 67, Go.Operand.tmp 70], argTypes := #[28, 28] }) (ty := 40) (f := 31) (args := #[.slice A0 F0.length c0, .slice A0 F0.length c0]) (R := fun v W' => (∃ A c, v = .tuple #[.slice A F0.length c, .bool true] ∧ Rd W' 4 (.slice A F0.length c) F0.length (clc F0)) ∧ Below W.heap.size W W') rfl rfl (fun d pos aft g => by unfold execOp; go_simp) ((IS.out W htr).mono ?_) ?_
              · (rintro e W' ⟨Az, cz, rfl, hr, hb⟩; exact ⟨_, rfl, ⟨Az, cz, rfl, hr⟩, hb⟩)
              · (rintro v W' ⟨hv, hb⟩; exact ⟨_, rfl, hv, hb⟩)
            | 7, _ =>
              obtain ⟨Az, cz, qz, rz⟩ : ∃ A c, a.tmps.getD 71 undef = .tuple #[.slice A F0.length c, .bool true] ∧ Rd W 4 (.slice A F0.length c) F0.length (clc F0) := hdep 6 rfl
              obtain ⟨e71, y71⟩ := Rv.ev qz
              exact Rv.step_op (op := Go.Op.move (Go.Operand.tmp 71)) (ty := 40) (v := .tuple #[.slice Az F0.length cz, .bool true]) (w1 := W) rfl rfl (fun d pos aft g => by unfold execOp; go_simp) ⟨_, rfl, ⟨Az, cz, rfl, rz⟩, Below.refl _ _⟩
            | 8, _ =>
              obtain ⟨Az, cz, qz, rz⟩ : ∃ A c, a.tmps.getD 64 undef = .tuple #[.slice A F0.length c, .bool true] ∧ Rd W 4 (.slice A F0.length c) F0.length (clc F0) := hdep 7 rfl
              obtain ⟨e64, y64⟩ := Rv.ev qz
              exact Rv.step_op (op := Go.Op.extract (Go.Operand.tmp 64) 0) (ty := 28) (v := .slice Az F0.length cz) (w1 := W) rfl rfl (fun d pos aft g => by unfold execOp; go_simp) ⟨_, rfl, ⟨Az, cz, rfl, rz⟩, Below.refl _ _⟩
            | 9, _ =>
              obtain ⟨Az, cz, qz, rz⟩ : ∃ A c, a.tmps.getD 64 undef = .tuple #[.slice A F0.length c, .bool true] ∧ Rd W 4 (.slice A F0.length c) F0.length (clc F0) := hdep 7 rfl
              obtain ⟨e64, y64⟩ := Rv.ev qz
              exact Rv.step_op (op := Go.Op.extract (Go.Operand.tmp 64) 1) (v := .bool true) (w1 := W) rfl rfl (fun d pos aft g => by unfold execOp; go_simp) ⟨_, rfl, rfl, Below.refl _ _⟩
            | 10, _ =>
              obtain ⟨Az, cz, qz, rz⟩ : ∃ A c, a.tmps.getD 72 undef = .slice A F0.length c ∧ Rd W 4 (.slice A F0.length c) F0.length (clc F0) := hdep 8 rfl
              obtain ⟨e72, y72⟩ := Rv.ev qz
              exact Rv.step_op (op := Go.Op.assign (Go.Operand.tmp 72)) (ty := 28) (v := .slice Az F0.length cz) (w1 := W) rfl rfl (fun d pos aft g => by unfold execOp; go_simp) ⟨_, rfl, ⟨Az, cz, rfl, rz⟩, Below.refl _ _⟩
            | 11, _ =>
              obtain ⟨e73, x73⟩ := Rv.ev (show a.tmps.getD 73 undef = .bool true from hdep 9 rfl)
              exact Rv.step_op (op := Go.Op.assign (Go.Operand.tmp 73)) (v := .bool true) (w1 := W) rfl rfl (fun d pos aft g => by unfold execOp; go_simp) ⟨_, rfl, rfl, Below.refl _ _⟩
            | m + 12, h => exact absurd h (by show ¬ m + 12 < 12; omega)
          intro W f hf htr
          have f0 : f 0 = .slice (some ⟨b, o, none⟩) L.length c5 := hf 0 (by show 0 < 12; omega)
          have f1 : f 1 = .pointer (some ⟨b, o, none⟩) := hf 1 (by show 1 < 12; omega)
          have f2 : f 2 = .slice A0 F0.length c0 := hf 2 (by show 2 < 12; omega)
          have f3 : f 3 = .slice (some ⟨b, o, none⟩) L.length c5 := hf 3 (by show 3 < 12; omega)
          have f4 : f 4 = .pointer (some ⟨b, o, none⟩) := hf 4 (by show 4 < 12; omega)
          have f5 : f 5 = .slice A0 F0.length c0 := hf 5 (by show 5 < 12; omega)
          have f6 := hf 6 (by show 6 < 12; omega)
          have f7 := hf 7 (by show 7 < 12; omega)
          have f8 := hf 8 (by show 8 < 12; omega)
          have f9 : f 9 = .bool true := hf 9 (by show 9 < 12; omega)
          have f10 := hf 10 (by show 10 < 12; omega)
          have f11 : f 11 = .bool true := hf 11 (by show 11 < 12; omega)
          refine (show ∀ (a : Act) (w : World), Code.wp _ _ _ a w → _ from by assumption) _ _ ?_
          refine Rv.fin_swap (L' := [(65, f 0), (66, f 1), (67, f 2), (68, f 3), (69, f 4), (70, f 5), (71, f 6), (64, f 7), (72, f 8), (73, f 9), (12, f 10), (13, f 11)]) rfl ?_
          rw [f0, f1, f2, f3, f4, f5, f9, f11]
          clear f0 f1 f2 f3 f4 f5 f9 f11
          simp only [Rv.fin, List.foldl_cons, List.foldl_nil, Act.put, List.setIfInBounds_toArray, List.set_cons_succ, List.set_cons_zero]
          obtain ⟨A12, c12, e12, r12⟩ : ∃ A c, f 10 = .slice A F0.length c ∧ Rd W 4 (.slice A F0.length c) F0.length (clc F0) := f10
          rw [e12]
          clear f6 f7 f8 e12
          generalize f 6 = x6 at *
          generalize f 7 = x7 at *
          generalize f 8 = x8 at *
          have R12 := Lib.hid r12
          have R0F := Lib.hid (R03.out.below htr)
          have CF := (htr.cell (p := ⟨b, o, none⟩) hb0).trans C03.out
          have BF := Lib.hid (BX.out.trans (htr.mono BX.out.size))
          clear r12 htr
          go_wp2_with (go_at_call 33; (with_reducible refine (rrsame_any (.slice A12 F0.length c12) (.slice A0 F0.length c0) F0 F0 _ R12.out R0F.out HP0.out HP0.out).mono ?_); rintro e w9 ⟨rfl, hb9⟩; rw [sameL_self]; have B9 := Lib.hid (BF.out.trans (hb9.mono BF.out.size)); clear hb9)
          go_ret
          exact ⟨rfl, B9.out⟩
      · obtain rfl : i = L.length := by omega
        have B3 := HB
        go_upto_region 13 with fail
        obtain ⟨X, rfl⟩ : ∃ X : World, X = wr := ⟨_, rfl⟩
        have R03 := Lib.hid (R0W.out.below B3.out)
        have C03 := Lib.hid ((B3.out.cell (p := ⟨b, o, none⟩) hbW).trans C0W.out)
        have hb0 := World.block_lt_of_cell? _ _ C03.out
        have BX := Lib.hid (BW.out.trans (B3.out.mono BW.out.size))
        have IS : Hid (∀ W, Below X.heap.size X W → Calls Tryd.prog 31 #[.slice A0 F0.length c0, .slice A0 F0.length c0] W fun e w' => ∃ A c, e = .returned (.tuple #[.slice A F0.length c, .bool true]) ∧ Rd w' 4 (.slice A F0.length c) F0.length (clc F0) ∧ Below W.heap.size W w') := Lib.hid (fun W h => by
          have h2 := rrinter_any (.slice A0 F0.length c0) (.slice A0 F0.length c0) F0 F0 W (R03.out.below h) (R03.out.below h) HP0.out HP0.out rfl (by omega)
          rw [isect_self HF.out] at h2
          exact h2)
        refine Rv.region_goods (n := 88) (by kernel_rfl) #[65, 66, 67, 68, 69, 70, 71, 64, 72, 73, 12, 13] #[] (fun i v W => if i = 10 then (fun v W => ∃ A c, v = .slice A F0.length c ∧ Rd W 4 (.slice A F0.length c) F0.length (clc F0)) v W else if i = 8 then (fun v W => ∃ A c, v = .slice A F0.length c ∧ Rd W 4 (.slice A F0.length c) F0.length (clc F0)) v W else if i = 7 then (fun v W => ∃ A c, v = .tuple #[.slice A F0.length c, .bool true] ∧ Rd W 4 (.slice A F0.length c) F0.length (clc F0)) v W else if i = 6 then (fun v W => ∃ A c, v = .tuple #[.slice A F0.length c, .bool true] ∧ Rd W 4 (.slice A F0.length c) F0.length (clc F0)) v W else v = (#[.slice (some ⟨b, o, none⟩) L.length c5, .pointer (some ⟨b, o, none⟩), .slice A0 F0.length c0, .slice (some ⟨b, o, none⟩) L.length c5, .pointer (some ⟨b, o, none⟩), .slice A0 F0.length c0, undef, undef, undef, .bool true, undef, .bool true] : Array Value).getD i undef) (fun i v w w' h hb => ?_) (fun i h g b hg => ?_) rfl (by kernel_rfl) (by kernel_rfl) (fun i h hr w => ?_) ?_ ?_
        · by_cases hi12 : i = 10
          · subst hi12
            rw [if_pos rfl] at h ⊢
            exact (fun v w w' h hb => by obtain ⟨A, c, h1, h2⟩ := h; exact ⟨A, c, h1, h2.below hb⟩) v w w' h hb
          rw [if_neg hi12] at h ⊢
          by_cases hi72 : i = 8
          · subst hi72
            rw [if_pos rfl] at h ⊢
            exact (fun v w w' h hb => by obtain ⟨A, c, h1, h2⟩ := h; exact ⟨A, c, h1, h2.below hb⟩) v w w' h hb
          rw [if_neg hi72] at h ⊢
          by_cases hi64 : i = 7
          · subst hi64
            rw [if_pos rfl] at h ⊢
            exact (fun v w w' h hb => by obtain ⟨A, c, h1, h2⟩ := h; exact ⟨A, c, h1, h2.below hb⟩) v w w' h hb
          rw [if_neg hi64] at h ⊢
          by_cases hi71 : i = 6
          · subst hi71
            rw [if_pos rfl] at h ⊢
            exact (fun v w w' h hb => by obtain ⟨A, c, h1, h2⟩ := h; exact ⟨A, c, h1, h2.below hb⟩) v w w' h hb
          rw [if_neg hi71] at h ⊢
          exact h
        · match i, h, hg with
          | 0, _, hg => cases hg
          | 1, _, hg => cases hg
          | 2, _, hg => cases hg
          | 3, _, hg => cases hg
          | 4, _, hg => cases hg
          | 5, _, hg => cases hg
          | 6, _, hg => cases hg
          | 7, _, hg => cases hg
          | 8, _, hg => cases hg
          | 9, _, hg => cases hg
          | 10, _, hg => cases hg
          | 11, _, hg => cases hg
          | m + 12, h, _ => exact absurd h (by show ¬ m + 12 < 12; omega)
        · match i, h, hr with
          | 0, _, hr => exact Bool.noConfusion (show true = false from hr)
          | 1, _, hr => exact Bool.noConfusion (show true = false from hr)
          | 2, _, hr => exact Bool.noConfusion (show true = false from hr)
          | 3, _, hr => exact Bool.noConfusion (show true = false from hr)
          | 4, _, hr => exact Bool.noConfusion (show true = false from hr)
          | 5, _, hr => exact Bool.noConfusion (show true = false from hr)
          | 6, _, hr => exact Bool.noConfusion (show true = false from hr)
          | 7, _, hr => exact Bool.noConfusion (show true = false from hr)
          | 8, _, hr => exact Bool.noConfusion (show true = false from hr)
          | 9, _, hr => exact Bool.noConfusion (show true = false from hr)
          | 10, _, hr => exact Bool.noConfusion (show true = false from hr)
          | 11, _, hr => exact Bool.noConfusion (show true = false from hr)
          | m + 12, h, _ => exact absurd h (by show ¬ m + 12 < 12; omega)
        · intro i h a W hrun hbase hpre hdep htr
          have q0 := (htr.cell (p := ⟨b, o, none⟩) hb0).trans C03.out
          match i, h with
          | 0, _ =>
            obtain ⟨e5, x5⟩ := Rv.ev (show a.tmps.getD 5 undef = .slice (some ⟨b, o, none⟩) L.length c5 from hbase 5 rfl)
            exact Rv.step_op (op := Go.Op.move (Go.Operand.tmp 5)) (v := .slice (some ⟨b, o, none⟩) L.length c5) (w1 := W) rfl rfl (fun d pos aft g => by unfold execOp; go_simp) ⟨_, rfl, rfl, Below.refl _ _⟩
          | 1, _ =>
            obtain ⟨e65, x65⟩ := Rv.ev (show a.tmps.getD 65 undef = .slice (some ⟨b, o, none⟩) L.length c5 from hdep 0 rfl)
            exact Rv.step_op (op := Go.Op.indexAddr 46 (Go.Operand.tmp 65) (Go.Operand.const (Go.Value.int Go.IntKind.i64 0))) (v := .pointer (some ⟨b, o, none⟩)) (w1 := W) rfl rfl (fun d pos aft g => by unfold execOp; go_simp) ⟨_, rfl, rfl, Below.refl _ _⟩
          | 2, _ =>
            obtain ⟨e66, x66⟩ := Rv.ev (show a.tmps.getD 66 undef = .pointer (some ⟨b, o, none⟩) from hdep 1 rfl)
            exact Rv.step_op (op := Go.Op.load 28 (Go.Operand.tmp 66)) (v := .slice A0 F0.length c0) (w1 := W) rfl rfl (fun d pos aft g => by unfold execOp; go_simp) ⟨_, rfl, rfl, Below.refl _ _⟩
          | 3, _ =>
            obtain ⟨e5, x5⟩ := Rv.ev (show a.tmps.getD 5 undef = .slice (some ⟨b, o, none⟩) L.length c5 from hbase 5 rfl)
            exact Rv.step_op (op := Go.Op.move (Go.Operand.tmp 5)) (v := .slice (some ⟨b, o, none⟩) L.length c5) (w1 := W) rfl rfl (fun d pos aft g => by unfold execOp; go_simp) ⟨_, rfl, rfl, Below.refl _ _⟩
          | 4, _ =>
            obtain ⟨e68, x68⟩ := Rv.ev (show a.tmps.getD 68 undef = .slice (some ⟨b, o, none⟩) L.length c5 from hdep 3 rfl)
            exact Rv.step_op (op := Go.Op.indexAddr 46 (Go.Operand.tmp 68) (Go.Operand.const (Go.Value.int Go.IntKind.i64 0))) (v := .pointer (some ⟨b, o, none⟩)) (w1 := W) rfl rfl (fun d pos aft g => by unfold execOp; go_simp) ⟨_, rfl, rfl, Below.refl _ _⟩
          | 5, _ =>
            obtain ⟨e69, x69⟩ := Rv.ev (show a.tmps.getD 69 undef = .pointer (some ⟨b, o, none⟩) from hdep 4 rfl)
            exact Rv.step_op (op := Go.Op.load 28 (Go.Operand.tmp 69)) (v := .slice A0 F0.length c0) (w1 := W) rfl rfl (fun d pos aft g => by unfold execOp; go_simp) ⟨_, rfl, rfl, Below.refl _ _⟩
          | 6, _ =>
            obtain ⟨e67, x67⟩ := Rv.ev (show a.tmps.getD 67 undef = .slice A0 F0.length c0 from hdep 2 rfl)
            obtain ⟨e70, x70⟩ := Rv.ev (show a.tmps.getD 70 undef = .slice A0 F0.length c0 from hdep 5 rfl)
            have cf : ∀ x0 x1 W, (callFunc 31 #[x0, x1]).run Tryd.prog W = .ok (.enter 31 #[x0, x1]) W := fun _ _ _ => by kernel_rfl
            refine Rv.step_fn (op := Go.Op.call { callee := Go.Callee.value (Go.Operand.func 31), args := #[Go.Operand.tmp 67, Go.Operand.tmp 70], argTypes := #[28, 28] }) (ty := 40) (f := 31) (args := #[.slice A0 F0.length c0, .slice A0 F0.length c0]) (R := fun v W' => (∃ A c, v = .tuple #[.slice A F0.length c, .bool true] ∧ Rd W' 4 (.slice A F0.length c) F0.length (clc F0)) ∧ Below W.heap.size W W') rfl rfl (fun d pos aft g => by unfold execOp; go_simp) ((IS.out W htr).mono ?_) ?_
            · (rintro e W' ⟨Az, cz, rfl, hr, hb⟩; exact ⟨_, rfl, ⟨Az, cz, rfl, hr⟩, hb⟩)
            · (rintro v W' ⟨hv, hb⟩; exact ⟨_, rfl, hv, hb⟩)
          | 7, _ =>
            obtain ⟨Az, cz, qz, rz⟩ : ∃ A c, a.tmps.getD 71 undef = .tuple #[.slice A F0.length c, .bool true] ∧ Rd W 4 (.slice A F0.length c) F0.length (clc F0) := hdep 6 rfl
            obtain ⟨e71, y71⟩ := Rv.ev qz
            exact Rv.step_op (op := Go.Op.move (Go.Operand.tmp 71)) (ty := 40) (v := .tuple #[.slice Az F0.length cz, .bool true]) (w1 := W) rfl rfl (fun d pos aft g => by unfold execOp; go_simp) ⟨_, rfl, ⟨Az, cz, rfl, rz⟩, Below.refl _ _⟩
          | 8, _ =>
            obtain ⟨Az, cz, qz, rz⟩ : ∃ A c, a.tmps.getD 64 undef = .tuple #[.slice A F0.length c, .bool true] ∧ Rd W 4 (.slice A F0.length c) F0.length (clc F0) := hdep 7 rfl
            obtain ⟨e64, y64⟩ := Rv.ev qz
            exact Rv.step_op (op := Go.Op.extract (Go.Operand.tmp 64) 0) (ty := 28) (v := .slice Az F0.length cz) (w1 := W) rfl rfl (fun d pos aft g => by unfold execOp; go_simp) ⟨_, rfl, ⟨Az, cz, rfl, rz⟩, Below.refl _ _⟩
          | 9, _ =>
            obtain ⟨Az, cz, qz, rz⟩ : ∃ A c, a.tmps.getD 64 undef = .tuple #[.slice A F0.length c, .bool true] ∧ Rd W 4 (.slice A F0.length c) F0.length (clc F0) := hdep 7 rfl
            obtain ⟨e64, y64⟩ := Rv.ev qz
            exact Rv.step_op (op := Go.Op.extract (Go.Operand.tmp 64) 1) (v := .bool true) (w1 := W) rfl rfl (fun d pos aft g => by unfold execOp; go_simp) ⟨_, rfl, rfl, Below.refl _ _⟩
          | 10, _ =>
            obtain ⟨Az, cz, qz, rz⟩ : ∃ A c, a.tmps.getD 72 undef = .slice A F0.length c ∧ Rd W 4 (.slice A F0.length c) F0.length (clc F0) := hdep 8 rfl
            obtain ⟨e72, y72⟩ := Rv.ev qz
            exact Rv.step_op (op := Go.Op.assign (Go.Operand.tmp 72)) (ty := 28) (v := .slice Az F0.length cz) (w1 := W) rfl rfl (fun d pos aft g => by unfold execOp; go_simp) ⟨_, rfl, ⟨Az, cz, rfl, rz⟩, Below.refl _ _⟩
          | 11, _ =>
            obtain ⟨e73, x73⟩ := Rv.ev (show a.tmps.getD 73 undef = .bool true from hdep 9 rfl)
            exact Rv.step_op (op := Go.Op.assign (Go.Operand.tmp 73)) (v := .bool true) (w1 := W) rfl rfl (fun d pos aft g => by unfold execOp; go_simp) ⟨_, rfl, rfl, Below.refl _ _⟩
          | m + 12, h => exact absurd h (by show ¬ m + 12 < 12; omega)
        intro W f hf htr
        have f0 : f 0 = .slice (some ⟨b, o, none⟩) L.length c5 := hf 0 (by show 0 < 12; omega)
        have f1 : f 1 = .pointer (some ⟨b, o, none⟩) := hf 1 (by show 1 < 12; omega)
        have f2 : f 2 = .slice A0 F0.length c0 := hf 2 (by show 2 < 12; omega)
        have f3 : f 3 = .slice (some ⟨b, o, none⟩) L.length c5 := hf 3 (by show 3 < 12; omega)
        have f4 : f 4 = .pointer (some ⟨b, o, none⟩) := hf 4 (by show 4 < 12; omega)
        have f5 : f 5 = .slice A0 F0.length c0 := hf 5 (by show 5 < 12; omega)
        have f6 := hf 6 (by show 6 < 12; omega)
        have f7 := hf 7 (by show 7 < 12; omega)
        have f8 := hf 8 (by show 8 < 12; omega)
        have f9 : f 9 = .bool true := hf 9 (by show 9 < 12; omega)
        have f10 := hf 10 (by show 10 < 12; omega)
        have f11 : f 11 = .bool true := hf 11 (by show 11 < 12; omega)
        refine (show ∀ (a : Act) (w : World), Code.wp _ _ _ a w → _ from by assumption) _ _ ?_
        refine Rv.fin_swap (L' := [(65, f 0), (66, f 1), (67, f 2), (68, f 3), (69, f 4), (70, f 5), (71, f 6), (64, f 7), (72, f 8), (73, f 9), (12, f 10), (13, f 11)]) rfl ?_
        rw [f0, f1, f2, f3, f4, f5, f9, f11]
        clear f0 f1 f2 f3 f4 f5 f9 f11
        simp only [Rv.fin, List.foldl_cons, List.foldl_nil, Act.put, List.setIfInBounds_toArray, List.set_cons_succ, List.set_cons_zero]
        obtain ⟨A12, c12, e12, r12⟩ : ∃ A c, f 10 = .slice A F0.length c ∧ Rd W 4 (.slice A F0.length c) F0.length (clc F0) := f10
        rw [e12]
        clear f6 f7 f8 e12
        generalize f 6 = x6 at *
        generalize f 7 = x7 at *
        generalize f 8 = x8 at *
        have R12 := Lib.hid r12
        have R0F := Lib.hid (R03.out.below htr)
        have CF := (htr.cell (p := ⟨b, o, none⟩) hb0).trans C03.out
        have BF := Lib.hid (BX.out.trans (htr.mono BX.out.size))
        clear r12 htr
        go_wp2_with (go_at_call 33; (with_reducible refine (rrsame_any (.slice A12 F0.length c12) (.slice A0 F0.length c0) F0 F0 _ R12.out R0F.out HP0.out HP0.out).mono ?_); rintro e w9 ⟨rfl, hb9⟩; rw [sameL_self]; have B9 := Lib.hid (BF.out.trans (hb9.mono BF.out.size)); clear hb9)
        go_ret
        exact ⟨rfl, B9.out⟩
end Go.Proofs.YtfnogpelaoofbaaDoor.Rg

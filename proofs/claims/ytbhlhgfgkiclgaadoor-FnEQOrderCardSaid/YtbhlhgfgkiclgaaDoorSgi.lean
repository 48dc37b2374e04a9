/- The walk of EQSame: two lists of sets, the same in some order. Conditions: those written at each lemma. -/
import Derived.Test.YtbhlhgfgkiclgaaDoorSgh
set_option linter.unusedVariables false
set_option linter.unusedSimpArgs false
set_option maxRecDepth 100000
set_option maxHeartbeats 8000000
namespace Go.Proofs.YtbhlhgfgkiclgaaDoor.Set
open Go.RowKit Go.Proofs.YtbhlhgfgkiclgaaDoor.B

theorem isOf_r (va : Value) (l : List Int) (w : World) (hr : Rd w 1 va l.length (nums l)) (hs : Srt l) (hl : l.length ≤ 100000) :
    Calls Tryd.prog 28 #[va] w fun e w' => ∃ A c, e = .returned (.slice A l.length c) ∧ Rd w' 1 (.slice A l.length c) l.length (nums l) ∧ Below w.heap.size w w' := by
  refine (isOf_any va l w hr hs hl).mono ?_
  rintro e w' ⟨v, rfl, h, hb⟩
  obtain ⟨A, c, rfl, _⟩ := h.shape
  exact ⟨A, c, rfl, h, hb⟩

theorem eqSame_any (v1 v2 : Value) (L M : List (List Int)) (w : World) (hr : RL w v1 L) (hr2 : RL w v2 M) (hlm : L.length = M.length) (hc : ∀ s ∈ L, M.count s = 1) (hL : ∀ s ∈ L, Srt s ∧ s.length ≤ 100000) (hM : ∀ s ∈ M, Srt s ∧ s.length ≤ 100000) (hl : L.length ≤ 100000) :
    Calls Tryd.prog 14 #[v1, v2] w fun e w' => e = .returned (.bool true) ∧ Below w.heap.size w w' := by
  obtain ⟨vs1, A1, c1, rfl, hrd1, hall1⟩ := hr
  obtain ⟨vs2, A2, c2, rfl, hrd2, hall2⟩ := hr2
  have G1 := Lib.hid (fun k hk => RL.get hrd1 hall1 k hk)
  have G2 := Lib.hid (fun k hk => RL.get hrd2 hall2 k hk)
  have HCN := Lib.hid hc
  have HL := Lib.hid hL
  have HM := Lib.hid hM
  have hne : ((L.length : Int) != M.length) = false := by simp; omega
  have hml : M.length ≤ 100000 := by omega
  clear hrd1 hrd2 hall1 hall2 hc hL hM hlm
  go_enter Tryd.func14, Tryd.ntmps14
  go_wp2
  go_loopw [5, 6, 7] (fun v5 v6 v7 wr => ∃ k : Nat, v5 = .int .i64 k ∧ k ≤ L.length ∧ Hid (Below w.heap.size w wr)) (fun v5 _ _ _ => (L.length - (intOf v5)).toNat)
  case atStart => exact ⟨0, rfl, Nat.zero_le _, Lib.hid (Below.refl _ _)⟩
  case round =>
    obtain ⟨k, rfl, hk, HB⟩ := hrel
    by_cases hlt : k < L.length
    · obtain ⟨b, o, A3, c3, rfl, hb, hc, hR⟩ := G1.out k hlt
      have hS := HL.out _ (List.getElem_mem hlt)
      have HCK := Lib.hid (HCN.out _ (List.getElem_mem hlt))
      have HB1 := Lib.hid hb
      have HC1 := Lib.hid hc
      have HR1 := Lib.hid hR
      generalize L[k] = s at *
      obtain ⟨wq, e⟩ : ∃ wq, wq = wr := ⟨_, rfl⟩
      subst e
      clear hb hc hR
      go_wp2
      go_loopw [6, 7] (fun v6 v7 wr => ∃ j : Nat, v7 = .int .i64 j ∧ j ≤ M.length ∧ v6 = .int .i64 ((M.take j).count s : Nat) ∧ Hid (Below w.heap.size w wr)) (fun _ v7 _ => (M.length - (intOf v7)).toNat)
      case atStart => exact ⟨0, rfl, Nat.zero_le _, rfl, HB⟩
      case round =>
        obtain ⟨j, rfl, hj, rfl, HBr⟩ := hrel
        have hcl : (M.take j).count s ≤ 100000 := Nat.le_trans List.count_le_length (by rw [List.length_take]; omega)
        by_cases hjt : j < M.length
        · obtain ⟨b2, o2, A4, c4, rfl, hb2, hc2, hR2⟩ := G2.out j hjt
          have hS2 := HM.out _ (List.getElem_mem hjt)
          have HTK := Lib.hid (show (M.take (j + 1)).count s = (M.take j).count s + (if M[j] = s then 1 else 0) from by rw [List.take_succ_eq_append_getElem hjt, List.count_append, List.count_singleton]; congr 1; by_cases h : M[j] = s <;> simp [h])
          have HB2 := Lib.hid hb2
          have HC2 := Lib.hid hc2
          have HR2 := Lib.hid hR2
          generalize M[j] = t at *
          clear hb2 hc2 hR2
          have K1 := Lib.hid (fun W (hW : Below w.heap.size w W) => (show W.cell? ⟨b, o + k, none⟩ = some (.slice A3 s.length c3) from (hW.cell (p := ⟨b, o + k, none⟩) HB1.out).trans HC1.out))
          have K2 := Lib.hid (fun W (hW : Below w.heap.size w W) => (show W.cell? ⟨b2, o2 + j, none⟩ = some (.slice A4 t.length c4) from (hW.cell (p := ⟨b2, o2 + j, none⟩) HB2.out).trans HC2.out))
          have f1 := K1.out _ HBr.out
          have f2 := K2.out _ HBr.out
          have I1 := Lib.hid (fun W (hW : Below w.heap.size w W) => isOf_r _ s W (HR1.out.below hW) hS.1 hS.2)
          have I2 := Lib.hid (fun W (hW : Below w.heap.size w W) => isOf_r _ t W (HR2.out.below hW) hS2.1 hS2.2)
          have SS := Lib.hid (fun W v v' (h1 : Rd W 1 v s.length (nums s)) (h2 : Rd W 1 v' t.length (nums t)) => isSame_r v v' s t (decide (s = t)) W h1 h2 hS.2 hS2.2 rfl)
          clear hS hS2
          by_cases hst : s = t
          · have SS := Lib.hid (fun W v v' (h1 : Rd W 1 v s.length (nums s)) (h2 : Rd W 1 v' t.length (nums t)) => (by have h := SS.out W v v' h1 h2; rw [decide_eq_true hst] at h; exact h))
            have HTK2 : Hid ((M.take (j + 1)).count s = (M.take j).count s + 1) := Lib.hid (by rw [HTK.out, if_pos hst.symm])
            clear hst
            generalize (M.take j).count s = cc at *
            go_wp2
            go_region_with (first
              | (go_at_call 28; (with_reducible refine (I1.out _ (HBr.out.trans ((by first | exact Dr.refl _ | exact (Dr.refl _).drew | exact (Dr.refl _).drewN _ : Dr _ _).below _))).mono ?_); rintro e w5 ⟨A5, c5, rfl, h5, hb5⟩; have HR5 := Lib.hid h5; have HB5 := Lib.hid (HBr.out.trans (((by first | exact Dr.refl _ | exact (Dr.refl _).drew | exact (Dr.refl _).drewN _ : Dr _ _).below _).trans (hb5.mono HBr.out.size))); have f5 := K2.out _ HB5.out; clear h5 hb5)
              | (go_at_call 28; (with_reducible refine (I2.out _ HB5.out).mono ?_); rintro e w6 ⟨A6, c6, rfl, h6, hb6⟩; have HR6 := Lib.hid h6; have HR56 := Lib.hid (HR5.out.below hb6); have HB6 := Lib.hid (HB5.out.trans (hb6.mono HB5.out.size)); clear h6 hb6)
              | (go_at_call 18; (with_reducible refine (SS.out _ _ _ HR56.out HR6.out).mono ?_); rintro e w7 ⟨rfl, hb7⟩; have HB7 := Lib.hid (HB6.out.trans (hb7.mono HB6.out.size)); clear hb7))
            all_goals
              go_wp2
              go_roundw
              case rel => exact ⟨j + 1, by go_num, by omega, by rw [HTK2.out]; go_num, HB7⟩
              case measure => simp [intOf]; omega
          · have SS := Lib.hid (fun W v v' (h1 : Rd W 1 v s.length (nums s)) (h2 : Rd W 1 v' t.length (nums t)) => (by have h := SS.out W v v' h1 h2; rw [decide_eq_false hst] at h; exact h))
            have HTK2 : Hid ((M.take (j + 1)).count s = (M.take j).count s) := Lib.hid (by rw [HTK.out, if_neg (fun h => hst h.symm), Nat.add_zero])
            clear hst
            generalize (M.take j).count s = cc at *
            go_wp2
            go_region_with (first
              | (go_at_call 28; (with_reducible refine (I1.out _ (HBr.out.trans ((by first | exact Dr.refl _ | exact (Dr.refl _).drew | exact (Dr.refl _).drewN _ : Dr _ _).below _))).mono ?_); rintro e w5 ⟨A5, c5, rfl, h5, hb5⟩; have HR5 := Lib.hid h5; have HB5 := Lib.hid (HBr.out.trans (((by first | exact Dr.refl _ | exact (Dr.refl _).drew | exact (Dr.refl _).drewN _ : Dr _ _).below _).trans (hb5.mono HBr.out.size))); have f5 := K2.out _ HB5.out; clear h5 hb5)
              | (go_at_call 28; (with_reducible refine (I2.out _ HB5.out).mono ?_); rintro e w6 ⟨A6, c6, rfl, h6, hb6⟩; have HR6 := Lib.hid h6; have HR56 := Lib.hid (HR5.out.below hb6); have HB6 := Lib.hid (HB5.out.trans (hb6.mono HB5.out.size)); clear h6 hb6)
              | (go_at_call 18; (with_reducible refine (SS.out _ _ _ HR56.out HR6.out).mono ?_); rintro e w7 ⟨rfl, hb7⟩; have HB7 := Lib.hid (HB6.out.trans (hb7.mono HB6.out.size)); clear hb7))
            all_goals
              go_wp2
              go_roundw
              case rel => exact ⟨j + 1, by go_num, by omega, by rw [HTK2.out], HB7⟩
              case measure => simp [intOf]; omega
        · obtain rfl : j = M.length := by omega
          have h1 : (M.take M.length).count s = 1 := by rw [List.take_length]; exact HCK.out
          rw [h1]
          clear h1 hcl
          go_wp2
          go_roundw
          case rel => exact ⟨k + 1, by go_num, by omega, HBr⟩
          case measure => simp [intOf]; omega
    · obtain rfl : k = L.length := by omega
      go_wp2
      go_ret
      exact ⟨rfl, HB.out⟩
end Go.Proofs.YtbhlhgfgkiclgaaDoor.Set

/- The law FnCSAsks, walked. Conditions: the listed table of math/bits reads as listed. -/
import Derived.Test.YtbhlhgfgkiclgaaDoorSfs
set_option linter.unusedVariables false
set_option linter.unusedSimpArgs false
set_option maxRecDepth 100000
set_option maxHeartbeats 8000000
namespace Go.Proofs.YtbhlhgfgkiclgaaDoor.Set
open Go.RowKit Go.Proofs.YtbhlhgfgkiclgaaDoor.B
attribute [local go_sem ↓] run_tail1

/-- The five rows that the last comparisons read. -/
structure Five (W : World) (v7 v8 v13 v14 v15 : Value) (a b u i d : List Int) : Prop where
  r7 : Rd W 1 v7 a.length (nums a)
  r8 : Rd W 1 v8 b.length (nums b)
  r13 : Rd W 1 v13 u.length (nums u)
  r14 : Rd W 1 v14 i.length (nums i)
  r15 : Rd W 1 v15 d.length (nums d)
theorem Five.below {W W1 : World} {v7 v8 v13 v14 v15 : Value} {a b u i d : List Int} (h : Five W v7 v8 v13 v14 v15 a b u i d) (hb : Below W.heap.size W W1) : Five W1 v7 v8 v13 v14 v15 a b u i d :=
  ⟨h.r7.below hb, h.r8.below hb, h.r13.below hb, h.r14.below hb, h.r15.below hb⟩

theorem cs_any (va vb : Value) (l0 m0 : List Int) (f : Int) (w : World) (hr : Rd w 1 va l0.length (nums l0)) (hr2 : Rd w 1 vb m0.length (nums m0)) (hl : l0.length ≤ 2147483647) (hm : m0.length ≤ 2147483647) (hf : 0 ≤ f ∧ f ≤ 255) (hT : Tab w) (hw0 : 0 < w.heap.size) :
    Calls Tryd.prog 5 #[va, vb, .int .u8 f] w fun e w' => e = .returned (.bool true) ∧ Below w.heap.size w w' := by
  obtain ⟨A0, c0, rfl, _⟩ := hr.shape
  obtain ⟨B0, d0, rfl, _⟩ := hr2.shape
  have IS1 := Lib.hid (isSet_r _ l0 w hr hl)
  have IS2 := Lib.hid (fun W (hW : Below w.heap.size w W) => isSet_r _ m0 W (hr2.below hW) hm)
  obtain ⟨asr, ab⟩ := isL_ok (l0.take 40)
  obtain ⟨ms, mb⟩ := isL_ok (m0.take 40)
  have alen := isL_len (l0.take 40)
  have mlen := isL_len (m0.take 40)
  generalize isL (l0.take 40) = xs at *
  generalize isL (m0.take 40) = zs at *
  have PU := Lib.hid (fun W v (hr : Rd W 1 v zs.length (nums zs)) => isPut_r v zs 63 W hr ms (by omega))
  have ys_s := srt_ins ms 63
  have ys_b : ∀ u ∈ ins zs 63, 0 ≤ u ∧ u ≤ 200 := fun u hu => by
    rcases (mem_ins ms 63 u).1 hu with h | h
    · exact mb u h
    · omega
  have ys_63 : 63 ∈ ins zs 63 := (mem_ins ms 63 63).2 (.inr rfl)
  generalize ins zs 63 = ys at *
  have ylen := srt_len ys_s 200 ys_b
  have ASK := Lib.hid (fun W v1 v2 (hW : Below w.heap.size w W) (h1 : Rd W 1 v1 (up xs).length (nums (up xs))) (h2 : Rd W 1 v2 (up ys).length (nums (up ys))) => ask_r v1 v2 xs ys W (tab_below hT hW) (Nat.lt_of_lt_of_le hw0 hW.size) h1 h2 asr ys_s ab ys_b)
  obtain ⟨x, hx, hx0, hx1⟩ : ∃ x : Int, x = 1 + f % 201 ∧ 1 ≤ x ∧ x ≤ 201 := ⟨1 + f % 201, rfl, by omega, by omega⟩
  have NX := Lib.hid (fun W v (hW : Below w.heap.size w W) (h2 : Rd W 1 v (up ys).length (nums (up ys))) => csnext_any v ys x W (tab_below hT hW) h2 ys_s ys_b hx0 (by omega))
  have ulen := uni_len xs ys
  have flen1 : (xs.filter fun u => hasB ys u == true).length ≤ 201 := Nat.le_trans (List.length_filter_le _ _) alen
  have flen2 : (xs.filter fun u => hasB ys u == false).length ≤ 201 := Nat.le_trans (List.length_filter_le _ _) alen
  have AL := Lib.hid (fun W v7 v8 (h7 : Rd W 1 v7 (up xs).length (nums (up xs))) (h8 : Rd W 1 v8 (up ys).length (nums (up ys))) => isAll_r v7 v8 _ _ (up (uni xs ys)) W h7 h8 (srt_up asr) (by rw [up_len, up_len]; omega) (uni_up asr ys_s))
  have BT := Lib.hid (fun W v7 v8 (h7 : Rd W 1 v7 (up xs).length (nums (up xs))) (h8 : Rd W 1 v8 (up ys).length (nums (up ys))) => isBoth_r v7 v8 _ _ _ true W h7 h8 (by rw [up_len]; omega) (by rw [up_len]; omega) (flt_up ys_s true))
  have BF := Lib.hid (fun W v7 v8 (h7 : Rd W 1 v7 (up xs).length (nums (up xs))) (h8 : Rd W 1 v8 (up ys).length (nums (up ys))) => isBoth_r v7 v8 _ _ _ false W h7 h8 (by rw [up_len]; omega) (by rw [up_len]; omega) (flt_up ys_s false))
  have BN := Lib.hid (fun W v8 (h8 : Rd W 1 v8 (up ys).length (nums (up ys))) => isBoth_r v8 (.slice none 0 0) _ [] _ false W h8 (Rd.nil W 1) (by rw [up_len]; omega) (by simp) (flt_nil (up ys)))
  have S1 := Lib.hid (fun W v v' (h7 : Rd W 1 v (up (uni xs ys)).length (nums (up (uni xs ys)))) (h8 : Rd W 1 v' (up (uni xs ys)).length (nums (up (uni xs ys)))) => isSame_r v v' _ _ true W h7 h8 (by rw [up_len]; omega) (by rw [up_len]; omega) (decide_eq_true rfl))
  have S2 := Lib.hid (fun W v v' (h7 : Rd W 1 v (up (xs.filter fun u => hasB ys u == true)).length (nums (up (xs.filter fun u => hasB ys u == true)))) (h8 : Rd W 1 v' (up (xs.filter fun u => hasB ys u == true)).length (nums (up (xs.filter fun u => hasB ys u == true)))) => isSame_r v v' _ _ true W h7 h8 (by rw [up_len]; omega) (by rw [up_len]; omega) (decide_eq_true rfl))
  have S3 := Lib.hid (fun W v v' (h7 : Rd W 1 v (up (xs.filter fun u => hasB ys u == false)).length (nums (up (xs.filter fun u => hasB ys u == false)))) (h8 : Rd W 1 v' (up (xs.filter fun u => hasB ys u == false)).length (nums (up (xs.filter fun u => hasB ys u == false)))) => isSame_r v v' _ _ true W h7 h8 (by rw [up_len]; omega) (by rw [up_len]; omega) (decide_eq_true rfl))
  have S4 := Lib.hid (fun W v v' (h7 : Rd W 1 v (up xs).length (nums (up xs))) (h8 : Rd W 1 v' (up ys).length (nums (up ys))) => isSame_r v v' _ _ (decide (xs = ys)) W h7 h8 (by rw [up_len]; omega) (by rw [up_len]; omega) (eq_up xs ys))
  have hE5 := sub_len (xs := xs) (ys := ys)
  have hE6 := int_len (xs := xs) (ys := ys)
  have hE7 : 0 < (up (uni xs ys)).length := by rw [up_len]; exact List.length_pos_iff_exists_mem.2 ⟨63, ((srt_uni asr ys).2 63).2 (.inr ys_63)⟩
  have NU := Lib.hid (fun k hk h1 h2 => nx_up (ys := ys) x k hk h1 h2)
  have CN := Lib.hid (fun v (h : nx ys (x - 1) = some v) (hv : v ∈ ys) => cn_some h (ys_b v hv).1 (ys_b v hv).2)
  have UYL := Lib.hid (up_len ys)
  have UX := Lib.hid (fun k h => up_snoc xs k h)
  have UY := Lib.hid (fun k h => up_snoc ys k h)
  have XB := Lib.hid ab
  have YB := Lib.hid ys_b
  have UG := Lib.hid (fun k h h2 => up_get ys k h h2)
  have HW0 := Lib.hid hr
  have HX := Lib.hid hx
  clear hr hr2 hT asr ab ms mb ys_s ys_b ys_63 ulen flen1 flen2 hx
  generalize decide (xs = ys) = e4 at *
  generalize xs.all (hasB ys) = e5 at *
  generalize xs.any (hasB ys) = e6 at *
  generalize up (xs.filter fun u => hasB ys u == true) = fI at *
  generalize up (xs.filter fun u => hasB ys u == false) = fD at *
  generalize up (uni xs ys) = fU at *
  have q4 := eq_bb e4
  have q5 := eq_bb e5
  have q6 := eq_bb e6
  go_enter Tryd.func5, Tryd.ntmps5
  go_wp2_with (first
    | (go_at_call 7; (with_reducible refine IS1.out.mono ?_); rintro e w1 ⟨A1, c1, rfl, hr1, hb1⟩; have R1 := Lib.hid hr1; have HB1 := Lib.hid hb1; clear hr1 hb1))
  go_loopw [7, 10, 34] (fun v7 v10 v34 wr => ∃ k : Nat, v34 = .int .i64 k ∧ k ≤ xs.length ∧ Hid (wr.ownsRow w1.heap.size 3 1 v7 (up (xs.take k)).length (nums (up (xs.take k)))) ∧ Below w1.heap.size w1 wr) (fun _ _ v34 _ => (xs.length - (intOf v34)).toNat)
  case atStart => exact ⟨0, rfl, Nat.zero_le _, Lib.hid (World.ownsRow_nil _ _ _ _), Below.refl _ _⟩
  case round =>
    obtain ⟨k, rfl, hk, HO, hbel⟩ := hrel
    have hbs := hbel.size
    have hul : (up (xs.take k)).length ≤ k := by rw [up_len, List.length_take]; omega
    by_cases hlt : k < xs.length
    · obtain ⟨g, o, rfl, hb, hc⟩ := rd_num R1.out k hlt
      have hcw : wr.cell? ⟨g, o + k, none⟩ = some (.int .i64 xs[k]) := (hbel.cell (p := ⟨g, o + k, none⟩) hb).trans hc
      have HU := Lib.hid (UX.out k hlt)
      have hyb := XB.out _ (List.getElem_mem hlt)
      clear hc
      generalize xs[k] = y at *
      go_wp2_with (first
        | (at_builtin; refine app1 (w0 := w1) w1.heap.size rfl (.tmp 38) (.tmp 41) 22 3 (.int .i64 0) 1 8 rfl Tryd.underlying22 info3 rfl (by omega) (by omega) u7 _ _ _ rfl rfl rfl (one1 rfl) HO.out hbel hbs (by omega) ?_; intro v1 w2 hown1 hb1 _ _; have HO1 := Lib.hid hown1; clear hown1))
      go_roundw
      case rel => exact ⟨k + 1, by go_num, by omega, Lib.hid (by rw [HU.out]; have h := HO1.out; simpa [nums] using h), hb1⟩
      case measure => simp [intOf]; omega
    · obtain rfl : k = xs.length := by omega
      rw [List.take_length] at HO
      obtain ⟨A7, c7, rfl, _⟩ := (Rd.of_own HO.out).shape
      have R7 := Lib.hid (Rd.of_own HO.out)
      obtain ⟨wq, e⟩ : ∃ wq, wq = wr := ⟨_, rfl⟩
      subst e
      have HBq := Lib.hid (HB1.out.trans (hbel.mono HB1.out.size))
      clear hbel hbs HO R1
      go_wp2_with (first
        | (go_at_call 7; (with_reducible refine (IS2.out _ HBq.out).mono ?_); rintro e w2 ⟨A2, c2, rfl, hr2, hb2⟩; have R2 := Lib.hid hr2; have HB2 := Lib.hid (HBq.out.trans (hb2.mono HBq.out.size)); have R72 := Lib.hid (R7.out.below hb2); clear hr2 hb2)
        | (go_at_call 6; (with_reducible refine (PU.out _ _ R2.out).mono ?_); rintro e w3 ⟨A3, c3, rfl, hr3, hb3⟩; have R3 := Lib.hid hr3; have HB3 := Lib.hid (HB2.out.trans (hb3.mono HB2.out.size)); have R73 := Lib.hid (R72.out.below hb3); clear hr3 hb3))
      go_loopw [8, 12, 48] (fun v8 v12 v48 wr => ∃ k : Nat, v48 = .int .i64 k ∧ k ≤ ys.length ∧ Hid (wr.ownsRow w3.heap.size 3 1 v8 (up (ys.take k)).length (nums (up (ys.take k)))) ∧ Below w3.heap.size w3 wr) (fun _ _ v48 _ => (ys.length - (intOf v48)).toNat)
      case atStart => exact ⟨0, rfl, Nat.zero_le _, Lib.hid (World.ownsRow_nil _ _ _ _), Below.refl _ _⟩
      case round =>
        obtain ⟨k, rfl, hk, HO, hbel⟩ := hrel
        have hbs := hbel.size
        have hul : (up (ys.take k)).length ≤ k := by rw [up_len, List.length_take]; omega
        by_cases hlt : k < ys.length
        · obtain ⟨g, o, rfl, hb, hc⟩ := rd_num R3.out k hlt
          have hcw : wr.cell? ⟨g, o + k, none⟩ = some (.int .i64 ys[k]) := (hbel.cell (p := ⟨g, o + k, none⟩) hb).trans hc
          have HU := Lib.hid (UY.out k hlt)
          have hyb := YB.out _ (List.getElem_mem hlt)
          clear hc
          generalize ys[k] = y at *
          go_wp2_with (first
            | (at_builtin; refine app1 (w0 := w3) w3.heap.size rfl (.tmp 52) (.tmp 55) 22 3 (.int .i64 0) 1 8 rfl Tryd.underlying22 info3 rfl (by omega) (by omega) u8 _ _ _ rfl rfl rfl (one1 rfl) HO.out hbel hbs (by omega) ?_; intro v1 w4 hown1 hb1 _ _; have HO1 := Lib.hid hown1; clear hown1))
          go_roundw
          case rel => exact ⟨k + 1, by go_num, by omega, Lib.hid (by rw [HU.out]; have h := HO1.out; simpa [nums] using h), hb1⟩
          case measure => simp [intOf]; omega
        · obtain rfl : k = ys.length := by omega
          rw [List.take_length] at HO
          obtain ⟨A8, c8, rfl, _⟩ := (Rd.of_own HO.out).shape
          have R8 := Lib.hid (Rd.of_own HO.out)
          have R7r := Lib.hid (R73.out.below hbel)
          have HBr := Lib.hid (HB3.out.trans (hbel.mono HB3.out.size))
          clear hbel hbs HO R3 R2 R72 R73
          go_wp2_with (first
            | (go_at_call 15; (with_reducible refine (ASK.out _ _ _ HBr.out R7r.out R8.out).mono ?_); rintro e w5 ⟨A13, c13, A14, c14, A15, c15, rfl, h13, h14, h15, hb5⟩; have FV5 := Lib.hid (Five.mk (R7r.out.below hb5) (R8.out.below hb5) h13 h14 h15); have HB5 := Lib.hid (HBr.out.trans (hb5.mono HBr.out.size)); clear h13 h14 h15 hb5)
            | (go_at_call 16; (rw [← HX.out]); (with_reducible refine (NX.out _ _ HB5.out FV5.out.r8).mono ?_); rintro e w6 ⟨rfl, hb6⟩; have FV6 := Lib.hid (FV5.out.below hb6); have HB6 := Lib.hid (HB5.out.trans (hb6.mono HB5.out.size)); clear hb6)
            | (go_at_call 17; (with_reducible refine (BN.out _ _ FV6.out.r8).mono ?_); rintro e w7 ⟨A22, c22, rfl, h22, hb7⟩; have R22 := Lib.hid h22; have FV7 := Lib.hid (FV6.out.below hb7); have HB7 := Lib.hid (HB6.out.trans (hb7.mono HB6.out.size)); clear h22 hb7))
          go_loop [22] (fun v22 => ∃ (k r : Nat) (A : Option Addr) (c : Nat), v22 = .slice A r c ∧ r + k = (up ys).length ∧ r ≤ c ∧ Hid (Rd w7 1 (.slice A r c) r (nums ((up ys).drop k))) ∧ Hid (∀ u ∈ (up ys).take k, u < x)) (fun v22 => match v22 with | .slice _ r _ => r | _ => 0)
          case atStart => exact ⟨0, (up ys).length, A22, c22, rfl, by omega, (by obtain ⟨_, _, e, h, _⟩ := R22.out.shape; injection e with _ _ e; omega), Lib.hid (by rw [List.drop_zero]; exact R22.out), Lib.hid (by simp)⟩
          case round =>
            obtain ⟨k, r, A9, c9, rfl, hrk, hrc, RK, LK⟩ := hrel
            have uyl := UYL.out
            rcases Nat.eq_zero_or_pos r with hr0 | hr0
            · subst hr0
              have hnx : nx ys (x - 1) = none := by
                rw [NU.out k (by omega) LK.out (fun h => by omega)]
                exact List.getElem?_eq_none (by omega)
              rw [hnx]
              clear hnx uyl
              go_wp2_with (first
                | (go_at_call 19; (with_reducible refine (AL.out _ _ _ FV7.out.r7 FV7.out.r8).mono ?_); rintro e w8 ⟨A110, c110, rfl, h1, hb8⟩; have R110 := Lib.hid h1; have FV8 := Lib.hid (FV7.out.below hb8); have HB8 := Lib.hid (HB7.out.trans (hb8.mono HB7.out.size)); clear h1 hb8)
                | (go_at_call 18; (with_reducible refine (S1.out _ _ _ FV8.out.r13 R110.out).mono ?_); rintro e w9 ⟨rfl, hb9⟩; have FV9 := Lib.hid (FV8.out.below hb9); have HB9 := Lib.hid (HB8.out.trans (hb9.mono HB8.out.size)); clear hb9)
                | (go_at_call 17; (with_reducible refine (BT.out _ _ _ FV9.out.r7 FV9.out.r8).mono ?_); rintro e w10 ⟨A116, c116, rfl, h1, hb10⟩; have R116 := Lib.hid h1; have FV10 := Lib.hid (FV9.out.below hb10); have HB10 := Lib.hid (HB9.out.trans (hb10.mono HB9.out.size)); clear h1 hb10)
                | (go_at_call 18; (with_reducible refine (S2.out _ _ _ FV10.out.r14 R116.out).mono ?_); rintro e w11 ⟨rfl, hb11⟩; have FV11 := Lib.hid (FV10.out.below hb11); have HB11 := Lib.hid (HB10.out.trans (hb11.mono HB10.out.size)); clear hb11)
                | (go_at_call 17; (with_reducible refine (BF.out _ _ _ FV11.out.r7 FV11.out.r8).mono ?_); rintro e w12 ⟨A123, c123, rfl, h1, hb12⟩; have R123 := Lib.hid h1; have FV12 := Lib.hid (FV11.out.below hb12); have HB12 := Lib.hid (HB11.out.trans (hb12.mono HB11.out.size)); clear h1 hb12)
                | (go_at_call 18; (with_reducible refine (S3.out _ _ _ FV12.out.r15 R123.out).mono ?_); rintro e w13 ⟨rfl, hb13⟩; have FV13 := Lib.hid (FV12.out.below hb13); have HB13 := Lib.hid (HB12.out.trans (hb13.mono HB12.out.size)); clear hb13)
                | (go_at_call 18; (with_reducible refine (S4.out _ _ _ FV13.out.r7 FV13.out.r8).mono ?_); rintro e w14 ⟨rfl, hb14⟩; have FV14 := Lib.hid (FV13.out.below hb14); have HB14 := Lib.hid (HB13.out.trans (hb14.mono HB13.out.size)); clear hb14)
                | (go_at_call 17; (with_reducible refine (BF.out _ _ _ FV14.out.r7 FV14.out.r8).mono ?_); rintro e w15 ⟨A137, c137, rfl, h1, hb15⟩; have HBf := Lib.hid (HB14.out.trans (hb15.mono HB14.out.size)); clear h1 hb15))
              go_ret
              exact ⟨rfl, HBf.out⟩
            · obtain ⟨j, rfl⟩ : ∃ j, r = j + 1 := ⟨r - 1, by omega⟩
              have hk1 : k < (up ys).length := by omega
              have hk2 : k < ys.length := by omega
              obtain ⟨g, o, rfl, hb, hc⟩ := rd_num (l := (up ys).drop k) RK.out 0 (by rw [List.length_drop]; omega)
              have hc0 : w7.cell? ⟨g, o, none⟩ = some (.int .i64 (ys[k] + 1)) := by
                have h := hc
                rw [List.getElem_drop] at h
                have h2 := UG.out (k + 0) (by omega) (by omega)
                rw [h2] at h
                exact h
              have hyb := YB.out _ (List.getElem_mem hk2)
              by_cases hlt : ys[k] + 1 < x
              · have RT := Lib.hid (show Rd w7 1 (.slice (tlA (some ⟨g, o, none⟩) c9 1) j (c9 - 1)) j (nums ((up ys).drop (k + 1))) from by
                  have h := rd_tail RK.out (m := 1) (by omega) hrc
                  rw [show j + 1 - 1 = j by omega] at h
                  have e : (nums ((up ys).drop k)).drop 1 = nums ((up ys).drop (k + 1)) := by
                    unfold nums
                    rw [← List.map_drop, List.drop_drop]
                  rwa [e] at h)
                have LT := Lib.hid (show ∀ u ∈ (up ys).take (k + 1), u < x from fun u hu => by
                  rw [List.take_succ_eq_append_getElem hk1, List.mem_append] at hu
                  rcases hu with hu | hu
                  · exact LK.out u hu
                  · rw [List.mem_singleton.1 hu, UG.out k hk1 hk2]; exact hlt)
                have hjk : j + (k + 1) = (up ys).length := by omega
                clear hc uyl
                generalize ys[k] = y at *
                go_wp2
                go_round
                case rel => exact ⟨k + 1, j, tlA (some ⟨g, o, none⟩) c9 1, c9 - 1, rfl, hjk, by omega, RT, LT⟩
                case measure => show j < j + 1; omega
              · have hnx : nx ys (x - 1) = some ys[k] := by
                  rw [NU.out k (by omega) LK.out (fun h => by omega)]
                  exact List.getElem?_eq_getElem hk2
                have hcn := CN.out _ hnx (List.getElem_mem hk2)
                rw [hnx, hcn]
                clear hnx hcn hc uyl
                generalize ys[k] = y at *
                go_wp2_with (first
                  | (go_at_call 19; (with_reducible refine (AL.out _ _ _ FV7.out.r7 FV7.out.r8).mono ?_); rintro e w8 ⟨A110, c110, rfl, h1, hb8⟩; have R110 := Lib.hid h1; have FV8 := Lib.hid (FV7.out.below hb8); have HB8 := Lib.hid (HB7.out.trans (hb8.mono HB7.out.size)); clear h1 hb8)
                  | (go_at_call 18; (with_reducible refine (S1.out _ _ _ FV8.out.r13 R110.out).mono ?_); rintro e w9 ⟨rfl, hb9⟩; have FV9 := Lib.hid (FV8.out.below hb9); have HB9 := Lib.hid (HB8.out.trans (hb9.mono HB8.out.size)); clear hb9)
                  | (go_at_call 17; (with_reducible refine (BT.out _ _ _ FV9.out.r7 FV9.out.r8).mono ?_); rintro e w10 ⟨A116, c116, rfl, h1, hb10⟩; have R116 := Lib.hid h1; have FV10 := Lib.hid (FV9.out.below hb10); have HB10 := Lib.hid (HB9.out.trans (hb10.mono HB9.out.size)); clear h1 hb10)
                  | (go_at_call 18; (with_reducible refine (S2.out _ _ _ FV10.out.r14 R116.out).mono ?_); rintro e w11 ⟨rfl, hb11⟩; have FV11 := Lib.hid (FV10.out.below hb11); have HB11 := Lib.hid (HB10.out.trans (hb11.mono HB10.out.size)); clear hb11)
                  | (go_at_call 17; (with_reducible refine (BF.out _ _ _ FV11.out.r7 FV11.out.r8).mono ?_); rintro e w12 ⟨A123, c123, rfl, h1, hb12⟩; have R123 := Lib.hid h1; have FV12 := Lib.hid (FV11.out.below hb12); have HB12 := Lib.hid (HB11.out.trans (hb12.mono HB11.out.size)); clear h1 hb12)
                  | (go_at_call 18; (with_reducible refine (S3.out _ _ _ FV12.out.r15 R123.out).mono ?_); rintro e w13 ⟨rfl, hb13⟩; have FV13 := Lib.hid (FV12.out.below hb13); have HB13 := Lib.hid (HB12.out.trans (hb13.mono HB12.out.size)); clear hb13)
                  | (go_at_call 18; (with_reducible refine (S4.out _ _ _ FV13.out.r7 FV13.out.r8).mono ?_); rintro e w14 ⟨rfl, hb14⟩; have FV14 := Lib.hid (FV13.out.below hb14); have HB14 := Lib.hid (HB13.out.trans (hb14.mono HB13.out.size)); clear hb14)
                  | (go_at_call 17; (with_reducible refine (BF.out _ _ _ FV14.out.r7 FV14.out.r8).mono ?_); rintro e w15 ⟨A137, c137, rfl, h1, hb15⟩; have HBf := Lib.hid (HB14.out.trans (hb15.mono HB14.out.size)); clear h1 hb15))
                go_ret
                exact ⟨rfl, HBf.out⟩
end Go.Proofs.YtbhlhgfgkiclgaaDoor.Set

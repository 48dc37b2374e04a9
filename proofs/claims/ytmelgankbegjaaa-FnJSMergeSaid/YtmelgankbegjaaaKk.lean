/- Whether two values overlap, as the code has it. Conditions: those written at each lemma. -/
import Derived.Test.YtmelgankbegjaaaKj
set_option linter.unusedVariables false
set_option linter.unusedSimpArgs false
set_option maxRecDepth 100000
set_option maxHeartbeats 8000000
namespace Go.Proofs.Ytmelgankbegjaaa.Js
open Go.RowKit Go.Proofs.Ytmelgankbegjaaa.B

attribute [local go_sem] as4_4 as4_65 as4_9 as4_67 as4_68 as65_4 as65_65 as65_9 as65_67 as65_68 as9_4 as9_65 as9_9 as9_67 as9_68 as67_4 as67_65 as67_9 as67_67 as67_68 as68_4 as68_65 as68_9 as68_67 as68_68 atn_67 atn_68 atn_4 atn_65 atn_9 eqn_4 eqn_65 eqn_9 eqn_67 eqn_68 eqn_n
theorem ovl_mm (t1 t2 : J) (p q : Nat → Prop) (u1 u2 : Value) (w : World) (hw1 : Wf t1) (hw2 : Wf t2) (h1 : IV p w t1 u1) (h2 : IV q w t2 u2) (k1 : t1.k = 5) (k2 : t2.k = 5) : Calls Try.prog 30 #[u1, u2] w fun e w' => e = .returned (.bool (mtJ t1 t2)) ∧ Below w.heap.size w w' := by
  obtain ⟨k1', n1, s1, ns1, is1⟩ := t1
  obtain ⟨k2', n2, s2, ns2, is2⟩ := t2
  have e1 : k1' = 5 := k1
  have e2 : k2' = 5 := k2
  subst e1 e2
  obtain ⟨b1, vs1, rfl, r1, i1⟩ : ∃ b vs, u1 = .iface 68 (.map (some b)) ∧ w.ownsMap Try.prog 9 RH b ns1.length (dat ns1 vs) ∧ IVs p w is1 vs := by
    rcases h1 with ⟨h, _⟩ | ⟨h, _⟩ | ⟨h, _⟩ | ⟨h, _⟩ | ⟨h, _⟩ | ⟨_, b1, vs1, e, ⟨_, r1⟩, i1⟩ <;> first | omega | skip
    exact ⟨b1, vs1, e, r1, i1⟩
  obtain ⟨b2, vs2, rfl, r2, i2⟩ : ∃ b vs, u2 = .iface 68 (.map (some b)) ∧ w.ownsMap Try.prog 9 RH b ns2.length (dat ns2 vs) ∧ IVs q w is2 vs := by
    rcases h2 with ⟨h, _⟩ | ⟨h, _⟩ | ⟨h, _⟩ | ⟨h, _⟩ | ⟨h, _⟩ | ⟨_, b1, vs1, e, ⟨_, r1⟩, i1⟩ <;> first | omega | skip
    exact ⟨b1, vs1, e, r1, i1⟩
  obtain ⟨hk1, hn1⟩ := hw1.kids
  obtain ⟨hk2, hn2⟩ := hw2.kids
  obtain ⟨la1, hd1⟩ : ns1.length = is1.length ∧ ns1.Nodup := hn1 rfl
  obtain ⟨la2, hd2⟩ : ns2.length = is2.length ∧ ns2.Nodup := hn2 rfl
  have lv1 : vs1.length = ns1.length := i1.len.trans la1.symm
  have lv2 : vs2.length = ns2.length := i2.len.trans la2.symm
  have HK1 := Lib.hid hk1
  have HK2 := Lib.hid hk2
  have LA1 := Lib.hid la1
  have LA2 := Lib.hid la2
  have LV1 := Lib.hid lv1
  have LV2 := Lib.hid lv2
  have HD1 := Lib.hid hd1
  have HD2 := Lib.hid hd2
  have R1 := Lib.hid r1
  have R2 := Lib.hid r2
  have I1 := Lib.hid i1
  have I2 := Lib.hid i2
  have HI := Lib.hid (fun i (hi : i < is1.length) => it_obj (a := .mk 5 n1 s1 ns1 is1) (b := .mk 5 n2 s2 ns2 is2) rfl LA1.out LA2.out i hi)
  have HM := Lib.hid (show mtJ (.mk 5 n1 s1 ns1 is1) (.mk 5 n2 s2 ns2 is2) = ((List.range is1.length).any fun i => it (.mk 5 n1 s1 ns1 is1) (.mk 5 n2 s2 ns2 is2) i) from by unfold mtJ; rw [if_pos ⟨rfl, rfl⟩])
  clear hk1 hk2 hw1 hw2 h1 h2 k1 k2 r1 r2 i1 i2 hn1 hn2 la1 la2 lv1 lv2 hd1 hd2
  generalize mtJ (.mk 5 n1 s1 ns1 is1) (.mk 5 n2 s2 ns2 is2) = ans at *
  go_enter Try.func30, Try.ntmps30
  go_wp2_with (first
    | (at_range; refine wpList_range_own _ rfl _ 68 rfl 9 20 law9 Try.underlying68 RH b1 ns1.length _ rfl R1.out ?_; intro w0 hrg0 hg0 hs0)
    | go_in)
  try go_frame
  have HB0 := Lib.hid ((Below.refl w.heap.size w).grown hg0 (Nat.le_refl _) (fun j hj => by cases hj))
  have HRG0 := Lib.hid hrg0
  clear hrg0 hg0
  go_loopw [13, 14, 15] (fun v13 v14 v15 wr => ∃ (left : Lit → Bool) (cnt : Nat), Hid (wr.ranges Try.prog 9 RH b1 w.heap.size ns1.length (dat ns1 vs1) left cnt) ∧ Hid (Come ns1 vs1 left (fun i => it (.mk 5 n1 s1 ns1 is1) (.mk 5 n2 s2 ns2 is2) i = false)) ∧ Hid (Below w.heap.size w wr)) (fun _ _ _ wr => wr.rangeLeft b1 w.heap.size)
  case atStart => exact ⟨_, _, HRG0, Lib.hid (Come.start LV1.out HD1.out), HB0⟩
  case round =>
    obtain ⟨left, cnt, HRG, HC, HXB⟩ := hrel
    clear HRG0 HB0
    go_wp2_with (first
      | (at_next; refine wpList_next_ranges _ rfl _ rfl 9 law9 RH Value.string id (fun key kl h => by obtain ⟨s, e, _⟩ := WideMaps.string_of_keyOf Try.underlying9 h; exact ⟨s, e⟩) (fun v y _ => ⟨v, rfl⟩) b1 w.heap.size ns1.length _ _ _ rfl HRG.out ?_ ?_)
      | go_in)
    · intro hc0 hl0
      have HL0 := Lib.hid hl0
      clear hl0 hc0
      go_wp2
      go_ret
      refine ⟨?_, HXB.out⟩
      have : ans = false := by
        rw [HM.out, Bool.eq_false_iff]
        intro h
        obtain ⟨i, hi, e⟩ := List.any_eq_true.1 h
        have hi := List.mem_range.1 hi
        rw [HC.out.done HL0.out i (by have := LA1.out; omega)] at e
        cases e
      rw [this]
      rfl
    · intro x c kl' y ps w1 cnt1 hkey hlx hR hat hrg1 hlt hg1 hs1' hen
      obtain ⟨s, e1, e2, hsx⟩ := WideMaps.string_of_keyOf Try.underlying9 hkey
      injection e1 with e1
      subst e1 e2
      obtain ⟨i, hi, hx⟩ := HC.out.at LV1.out HD1.out hlx
      have HB1 := Lib.hid (HXB.out.grown hg1 HXB.out.size (fun j hj => by cases hj; exact Nat.le_refl _))
      have HRG1 := Lib.hid hrg1
      have HLT := Lib.hid (And.intro hlt HRG.out.left_eq)
      have HIL := Lib.hid hi
      have HIX : Hid (ns1[i]'HIL.out = x) := Lib.hid hx
      have hi1 : i < is1.length := by have := LA1.out; omega
      have hv1 : i < vs1.length := by have := LV1.out; omega
      have HIT := Lib.hid (HI.out i hi1)
      have HSX := Lib.hid hsx
      clear hkey hlx hR hat hrg1 hg1 hs1' hlt hx hsx hi
      by_cases hm : x ∈ ns2
      case neg =>
        have lk0 := look_ok_no (R2.out |> fun h => map_below h (HB1.out)) LV2.out HD2.out hm HSX.out
        have HNO := Lib.hid (show it (.mk 5 n1 s1 ns1 is1) (.mk 5 n2 s2 ns2 is2) i = false from by
          rw [Bool.eq_false_iff]
          intro h
          obtain ⟨j, hj, ej, _⟩ := HIT.out.1 h
          refine hm ?_
          rw [← HIX.out]
          exact ej ▸ List.getElem_mem hj)
        clear hm
        go_wp2
        go_roundw
        case rel =>
          refine ⟨_, cnt1, HRG1, Lib.hid ?_, HB1⟩
          have hz := Come.step HC.out HD1.out HIL.out HNO.out
          rw [HIX.out] at hz
          exact hz
        case measure => rw [HRG1.out.left_eq, HLT.out.2]; exact HLT.out.1
      obtain ⟨j, hj, hjx⟩ := List.getElem_of_mem hm
      have hj2 : j < is2.length := by have := LA2.out; omega
      have hv2 : j < vs2.length := by have := LV2.out; omega
      have hb2 := map_below R2.out HB1.out
      have lk0 := look_ok_at hb2 LV2.out HD2.out j hj (by rw [hjx]; exact HSX.out)
      rw [hjx] at lk0
      have lk1 := look_at HRG1.out.owns LV1.out HD1.out i HIL.out (by rw [HIX.out]; exact HSX.out)
      have lk2 := look_at hb2 LV2.out HD2.out j hj (by rw [hjx]; exact HSX.out)
      rw [HIX.out] at lk1
      rw [hjx] at lk2
      have IH := Lib.hid (jseq_any is1[i] is2[j] p q _ _ w1 (HK1.out.get _ (List.getElem_mem hi1)) (HK2.out.get _ (List.getElem_mem hj2)) ((I1.out.get i hi1 hv1).below HB1.out) ((I2.out.get j hj2 hv2).below HB1.out))
      have HEQ := Lib.hid (show it (.mk 5 n1 s1 ns1 is1) (.mk 5 n2 s2 ns2 is2) i = eqJ is1[i] is2[j] from by
        rw [Bool.eq_iff_iff, HIT.out]
        constructor
        · rintro ⟨j', hj', ej, e, _⟩
          have : j' = j := nd_inj HD2.out hj' hj (ej.trans (HIX.out.trans hjx.symm))
          subst this
          exact e
        · intro e
          refine ⟨j, hj, hjx.trans HIX.out.symm, e, ?_⟩
          have : ns1[i]'HIL.out = ns2[j] := HIX.out.trans hjx.symm
          show idx (ns1[i]'_) ns2 0 = _
          rw [this]
          exact idx_at HD2.out hj)
      clear hb2 HIT hm
      generalize vs1[i] = u1 at *
      generalize vs2[j] = u2 at *
      generalize eqJ is1[i] is2[j] = r at *
      have HRG2 := Lib.hid (fun (W : World) (hb : Below w1.heap.size w1 W) => HRG1.out.kept (grown_of_below hb none) (by simp) (by simp))
      cases r
      · go_wp2_with (go_at_call 39; (with_reducible refine IH.out.mono ?_); rintro e w2 ⟨rfl, hb⟩; have HXW := Lib.hid (HB1.out.trans (hb.mono HB1.out.size)); have HRG2 := Lib.hid (HRG2.out w2 hb); clear hb)
        go_roundw
        case rel =>
          refine ⟨_, cnt1, HRG2, Lib.hid ?_, HXW⟩
          have hz := Come.step HC.out HD1.out HIL.out HEQ.out
          rw [HIX.out] at hz
          exact hz
        case measure => rw [HRG2.out.left_eq, HLT.out.2]; exact HLT.out.1
      · go_wp2_with (go_at_call 39; (with_reducible refine IH.out.mono ?_); rintro e w2 ⟨rfl, hb⟩; have HXW := Lib.hid (HB1.out.trans (hb.mono HB1.out.size)); have HRG2 := Lib.hid (HRG2.out w2 hb); clear hb)
        go_ret
        refine ⟨?_, HXW.out⟩
        have : ans = true := by
          rw [HM.out]
          exact List.any_eq_true.2 ⟨i, List.mem_range.2 hi1, HEQ.out⟩
        rw [this]
        rfl
theorem arr_open {p : Nat → Prop} {w : World} {t : J} {u : Value} (h : IV p w t u) (hk : t.k = 4) : ∃ A c vs, u = .iface 67 (.slice A t.is.length c) ∧ Rp p w 1 (.slice A t.is.length c) t.is.length vs ∧ IVs p w t.is vs := by
  obtain ⟨k2, n2, s2, ns2, is2⟩ := t
  have hk2 : k2 = 4 := hk
  subst hk2
  rcases h with ⟨h, _⟩ | ⟨h, _⟩ | ⟨h, _⟩ | ⟨h, _⟩ | ⟨_, h⟩ | ⟨h, _⟩
  · omega
  · omega
  · omega
  · omega
  · exact h
  · omega
theorem ovl_aa (t1 t2 : J) (p q : Nat → Prop) (u1 u2 : Value) (w : World) (hw1 : Wf t1) (hw2 : Wf t2) (h1 : IV p w t1 u1) (h2 : IV q w t2 u2) (k1 : t1.k = 4) (k2 : t2.k = 4) : Calls Try.prog 30 #[u1, u2] w fun e w' => e = .returned (.bool (mtJ t1 t2)) ∧ Below w.heap.size w w' := by
  obtain ⟨A, c, vs1, rfl, r1, i1⟩ := arr_open h1 k1
  obtain ⟨B, d, vs2, rfl, r2, i2⟩ := arr_open h2 k2
  have hm : mtJ t1 t2 = t1.is.any fun x => t2.is.any fun y => eqJ x y := by
    unfold mtJ lsJ
    rw [if_neg (by omega), if_pos k1, if_pos k2]
  rw [hm]
  have hk1 := hw1.kids.1
  have hk2 := hw2.kids.1
  have hs1 : t1.is.length ≤ 4 := hw1.short.1
  have hs2 : t2.is.length ≤ 4 := hw2.short.1
  generalize t1.is = is1 at *
  generalize t2.is = is2 at *
  have HK1 := Lib.hid hk1
  have HK2 := Lib.hid hk2
  have R1 := Lib.hid r1.1
  have R2 := Lib.hid r2.1
  have I1 := Lib.hid i1
  have I2 := Lib.hid i2
  clear hk1 hk2 r1 r2 i1 i2 h1 h2 hw1 hw2 hm k1 k2
  go_enter Try.func30, Try.ntmps30
  go_upto_region 51 with fail
  go_loopw [24, 26, 164] (fun va vb vc wr => ∃ (i : Nat), vc = .int .i64 (i : Int) ∧ i ≤ is1.length ∧ Hid (∀ j, j < i → ∀ (hj : j < is1.length), (is2.any fun y => eqJ is1[j] y) = false) ∧ Hid (Below w.heap.size w wr)) (fun _ _ vc _ => (is1.length - (intOf vc)).toNat)
  case atStart => exact ⟨0, rfl, Nat.zero_le _, Lib.hid (fun j hj => absurd hj (Nat.not_lt_zero j)), Lib.hid (Below.refl _ _)⟩
  case round =>
    obtain ⟨i, rfl, hi, HAL, HXB⟩ := hrel
    by_cases hlt : i < is1.length
    · have hv : i < vs1.length := by have := I1.out.len; omega
      obtain ⟨bi, oi, ci, e1, _, _, hbi, hci⟩ := R1.out.open (by omega)
      injection e1 with ea _ ec
      subst ea ec
      have xc := (HXB.out.cell hbi).trans (hci i vs1[i] (List.getElem?_eq_getElem hv))
      have IV1 := Lib.hid (I1.out.get i hlt hv)
      have HW1 := Lib.hid (HK1.out.get _ (List.getElem_mem hlt))
      have HN := Lib.hid (fun (h : (is2.any fun y => eqJ is1[i] y) = true) => show (is1.any fun x => is2.any fun y => eqJ x y) = true from List.any_eq_true.2 ⟨_, List.getElem_mem hlt, h⟩)
      have HF := Lib.hid (show (is2.any fun y => eqJ is1[i] y) = false → ∀ j, j < i + 1 → ∀ (hj : j < is1.length), (is2.any fun y => eqJ is1[j] y) = false from fun e j hj hj2 => by
        rcases Nat.lt_succ_iff_lt_or_eq.1 hj with h | h
        · exact HAL.out j h hj2
        · subst h; exact e)
      clear hci hbi
      generalize vs1[i] = x at *
      generalize is1[i] = ti at *
      go_upto_region 54 with fail
      clear xc
      generalize wr = w9 at *
      go_loopw [26, 170] (fun vb vc wr => ∃ (j : Nat), vc = .int .i64 (j : Int) ∧ j ≤ is2.length ∧ Hid (∀ l, l < j → ∀ (hl : l < is2.length), eqJ ti is2[l] = false) ∧ Hid (Below w.heap.size w wr)) (fun _ vc _ => (is2.length - (intOf vc)).toNat)
      case atStart => exact ⟨0, rfl, Nat.zero_le _, Lib.hid (fun j hj => absurd hj (Nat.not_lt_zero j)), HXB⟩
      case round =>
        obtain ⟨j, rfl, hj, HBL, HYB⟩ := hrel
        by_cases hjt : j < is2.length
        · have hv2 : j < vs2.length := by have := I2.out.len; omega
          obtain ⟨bj, oj, cj, e2, _, _, hbj, hcj⟩ := R2.out.open (by omega)
          injection e2 with eb _ ed
          subst eb ed
          have xc := (HYB.out.cell hbj).trans (hcj j vs2[j] (List.getElem?_eq_getElem hv2))
          have JE := Lib.hid (jseq_any ti is2[j] p q x vs2[j] wr HW1.out (HK2.out.get _ (List.getElem_mem hjt)) (IV1.out.below HYB.out) ((I2.out.get j hjt hv2).below HYB.out))
          have HN2 := Lib.hid (fun (h : eqJ ti is2[j] = true) => HN.out (List.any_eq_true.2 ⟨_, List.getElem_mem hjt, h⟩))
          have HF2 := Lib.hid (show eqJ ti is2[j] = false → ∀ l, l < j + 1 → ∀ (hl : l < is2.length), eqJ ti is2[l] = false from fun e l hl hl2 => by
            rcases Nat.lt_succ_iff_lt_or_eq.1 hl with h | h
            · exact HBL.out l h hl2
            · subst h; exact e)
          clear hcj hbj
          generalize vs2[j] = y at *
          generalize eqJ ti is2[j] = r at *
          cases r
          · go_wp2_with (go_at_call 39; (with_reducible refine JE.out.mono ?_); rintro e w1 ⟨rfl, hb⟩; have HB := Lib.hid (HYB.out.trans (hb.mono HYB.out.size)); clear hb)
            go_roundw
            case rel => exact ⟨j + 1, by go_num, by omega, Lib.hid (HF2.out (by trivial)), HB⟩
            case measure => simp [intOf]; omega
          · go_wp2_with (go_at_call 39; (with_reducible refine JE.out.mono ?_); rintro e w1 ⟨rfl, hb⟩; have HB := Lib.hid (HYB.out.trans (hb.mono HYB.out.size)); clear hb)
            go_ret
            refine ⟨?_, HB.out⟩
            rw [HN2.out (by trivial)]
            rfl
        · obtain rfl : j = is2.length := by omega
          have HE := Lib.hid (HF.out (by
            rw [Bool.eq_false_iff]
            intro h
            obtain ⟨y, hy, h2⟩ := List.any_eq_true.1 h
            obtain ⟨l, hl, rfl⟩ := List.getElem_of_mem hy
            rw [HBL.out l hl hl] at h2
            cases h2))
          go_wp2
          go_roundw
          case rel => exact ⟨i + 1, by go_num, by omega, HE, HYB⟩
          case measure => simp [intOf]; omega
    · obtain rfl : i = is1.length := by omega
      go_wp2
      go_ret
      refine ⟨?_, HXB.out⟩
      rw [show (is1.any fun x => is2.any fun y => eqJ x y) = false from by
        rw [Bool.eq_false_iff]
        intro h
        obtain ⟨y, hy, h2⟩ := List.any_eq_true.1 h
        obtain ⟨j, hj, rfl⟩ := List.getElem_of_mem hy
        rw [HAL.out j hj hj] at h2
        cases h2]
      rfl
theorem ovl_turn (t1 t2 : J) (u1 u2 : Value) (w : World) (hw1 : Wf t1) (hw2 : Wf t2) (h1 : (∃ v, u1 = .iface 67 v) ∨ (∃ v, u1 = .iface 68 v)) (h2 : u2 = .nilIface ∨ (∃ v, u2 = .iface 4 v) ∨ (∃ v, u2 = .iface 65 v) ∨ (∃ v, u2 = .iface 9 v) ∨ ((∃ v, u1 = .iface 67 v) ∧ ∃ v, u2 = .iface 68 v))
    (H : Calls Try.prog 30 #[u2, u1] w fun e w' => e = .returned (.bool (mtJ t2 t1)) ∧ Below w.heap.size w w') : Calls Try.prog 30 #[u1, u2] w fun e w' => e = .returned (.bool (mtJ t1 t2)) ∧ Below w.heap.size w w' := by
  rw [mt_comm t1 t2 hw1 hw2]
  generalize mtJ t2 t1 = ans at *
  have JE := Lib.hid H
  clear H hw1 hw2
  rcases h2 with rfl | ⟨v, rfl⟩ | ⟨v, rfl⟩ | ⟨v, rfl⟩ | ⟨⟨u, rfl⟩, v, rfl⟩
  case inr.inr.inr.inr =>
    clear h1
    go_enter Try.func30, Try.ntmps30
    go_wp2_with (go_at_call 30; (with_reducible refine JE.out.mono ?_); rintro e w1 ⟨rfl, hb⟩; have HB := Lib.hid hb; clear hb)
    go_ret
    exact ⟨rfl, HB.out⟩
  all_goals
    rcases h1 with ⟨u, rfl⟩ | ⟨u, rfl⟩
    all_goals
      go_enter Try.func30, Try.ntmps30
      go_wp2_with (go_at_call 30; (with_reducible refine JE.out.mono ?_); rintro e w1 ⟨rfl, hb⟩; have HB := Lib.hid hb; clear hb)
      go_ret
      exact ⟨rfl, HB.out⟩
theorem ovl_any (t1 t2 : J) (p q : Nat → Prop) (u1 u2 : Value) (w : World) (hw1 : Wf t1) (hw2 : Wf t2) (h1 : IV p w t1 u1) (h2 : IV q w t2 u2) : Calls Try.prog 30 #[u1, u2] w fun e w' => e = .returned (.bool (mtJ t1 t2)) ∧ Below w.heap.size w w' := by
  have ka := kind_range hw1
  have kb := kind_range hw2
  by_cases a1 : t1.k < 4
  · by_cases b1 : t2.k = 4
    · exact ovl_sa t1 t2 p q u1 u2 w hw1 hw2 h1 h2 a1 b1
    · exact ovl_flat t1 t2 p q u1 u2 w hw1 hw2 h1 h2 a1 b1
  have f1 : (∃ v, u1 = .iface 67 v) ∨ (∃ v, u1 = .iface 68 v) := by
    by_cases h : t1.k = 4
    · exact .inl (arr_form h1 h)
    · obtain ⟨b, e⟩ := map_form h1 (by omega)
      exact .inr ⟨_, e⟩
  by_cases b1 : t2.k < 4
  · refine ovl_turn t1 t2 u1 u2 w hw1 hw2 f1 ?_ ?_
    · rcases sc_form h2 b1 with h | h | h | h
      · exact .inl h
      · exact .inr (.inl h)
      · exact .inr (.inr (.inl h))
      · exact .inr (.inr (.inr (.inl h)))
    · by_cases c1 : t1.k = 4
      · exact ovl_sa t2 t1 q p u2 u1 w hw2 hw1 h2 h1 b1 c1
      · exact ovl_flat t2 t1 q p u2 u1 w hw2 hw1 h2 h1 b1 c1
  by_cases c1 : t1.k = 4
  · by_cases d1 : t2.k = 4
    · exact ovl_aa t1 t2 p q u1 u2 w hw1 hw2 h1 h2 c1 d1
    · obtain ⟨b, e⟩ := map_form h2 (by omega)
      exact ovl_turn t1 t2 u1 u2 w hw1 hw2 f1 (.inr (.inr (.inr (.inr ⟨arr_form h1 c1, _, e⟩)))) (ovl_ma t2 t1 q p u2 u1 w hw2 hw1 h2 h1 (by omega) c1)
  · by_cases d1 : t2.k = 4
    · exact ovl_ma t1 t2 p q u1 u2 w hw1 hw2 h1 h2 (by omega) d1
    · exact ovl_mm t1 t2 p q u1 u2 w hw1 hw2 h1 h2 (by omega) (by omega)
theorem door_any (t1 t2 : J) (p q : Nat → Prop) (u1 u2 : Value) (w : World) (hw1 : Wf t1) (hw2 : Wf t2) (h1 : IV p w t1 u1) (h2 : IV q w t2 u2) (c1 : u1.cells = #[u1] ∧ u1.oneCell' = true) (c2 : u2.cells = #[u2] ∧ u2.oneCell' = true) : Calls Try.prog 19 #[u1, u2] w fun e w' => e = .returned (.bool (mtJ t1 t2)) ∧ Below w.heap.size w w' := by
  have JE := Lib.hid (ovl_any t1 t2 p q u1 u2 w hw1 hw2 h1 h2)
  clear h1 h2 hw1 hw2
  go_enter Try.func19, Try.ntmps19
  go_wp2_with (go_at_call 30; (with_reducible refine JE.out.mono ?_); rintro e w1 ⟨rfl, hb⟩; have HB := Lib.hid hb; clear hb)
  go_ret
  exact ⟨rfl, HB.out⟩
end Go.Proofs.Ytmelgankbegjaaa.Js

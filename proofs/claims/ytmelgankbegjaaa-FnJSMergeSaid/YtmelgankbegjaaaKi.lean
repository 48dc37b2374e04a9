/- When two maps are equal, as the code has it. Conditions: those written at each lemma. -/
import Derived.Test.YtmelgankbegjaaaKg
import Derived.Test.YtmelgankbegjaaaKh
import Derived.Maps.RangeWalk
set_option linter.unusedVariables false
set_option linter.unusedSimpArgs false
set_option maxRecDepth 100000
set_option maxHeartbeats 8000000
namespace Go.Proofs.Ytmelgankbegjaaa.Js
open Go.RowKit Go.Proofs.Ytmelgankbegjaaa.B

attribute [local go_sem] at67_67 at67_68 at68_67 at68_68
theorem zero20 (W : World) : (zeroValue 20).run Try.prog W = .ok .nilIface W := by kernel_rfl
theorem key9 {x : ByteArray} (h : x.size ≤ maxLen) : keyOf Try.prog 9 (.string x) = some (kl x) := WideMaps.keyOf_string_mk Try.underlying9 h
section
variable {W : World} {b n : Nat} {ns : List ByteArray} {vs : List Value}
theorem look_at (h : W.ownsMap Try.prog 9 RH b n (dat ns vs)) (hl : vs.length = ns.length) (hd : ns.Nodup) (i : Nat) (hi : i < ns.length) (hs : (ns[i]).size ≤ maxLen) :
    (Instr.lookup 68 (.map (some b)) (.string ns[i]) false).run Try.prog W = .ok (vs[i]'(by omega)) W := by
  obtain ⟨v, ps, hrun, hv⟩ := h.lookup law9 Try.underlying68 (zero20 W) (zd := .held .nilIface) (zp := []) rfl (key9 hs)
  rw [(dat_facts _ ns vs rfl hl hd).2.2.2 i hi (by omega)] at hv
  injection hv with hv
  injection hv with hv _
  injection hv with hv
  rw [hrun, hv]
theorem look_ok_at (h : W.ownsMap Try.prog 9 RH b n (dat ns vs)) (hl : vs.length = ns.length) (hd : ns.Nodup) (i : Nat) (hi : i < ns.length) (hs : (ns[i]).size ≤ maxLen) :
    (Instr.lookup 68 (.map (some b)) (.string ns[i]) true).run Try.prog W = .ok (.tuple #[vs[i]'(by omega), .bool true]) W := by
  obtain ⟨v, ps, hrun, hv⟩ := h.look_ok law9 Try.underlying68 (zero20 W) (zd := .held .nilIface) (zp := []) rfl (key9 hs)
  rw [(dat_facts _ ns vs rfl hl hd).2.2.2 i hi (by omega)] at hv
  injection hv with hv
  injection hv with hv _
  injection hv with hv
  rw [hrun, hv, ((dat_facts _ ns vs rfl hl hd).2.2.1 ns[i]).2 (List.getElem_mem hi)]
theorem look_ok_no (h : W.ownsMap Try.prog 9 RH b n (dat ns vs)) (hl : vs.length = ns.length) (hd : ns.Nodup) {x : ByteArray} (hx : x ∉ ns) (hs : x.size ≤ maxLen) :
    (Instr.lookup 68 (.map (some b)) (.string x) true).run Try.prog W = .ok (.tuple #[.nilIface, .bool false]) W := by
  obtain ⟨v, ps, hrun, hv⟩ := h.look_ok law9 Try.underlying68 (zero20 W) (zd := .held .nilIface) (zp := []) rfl (key9 hs)
  have hno : Maps.has (dat ns vs) (kl x) = false := Bool.eq_false_iff.2 (fun e => hx (((dat_facts _ ns vs rfl hl hd).2.2.1 x).1 e))
  rw [Maps.atKey_of_not_has hno] at hv
  injection hv with hv
  injection hv with hv _
  injection hv with hv
  rw [hrun, hv, hno]
end
/-- What has come of a map's keys. -/
def Come (ns : List ByteArray) (vs : List Value) (left : Lit → Bool) (R : Nat → Prop) : Prop := (∀ z, left z = true → Maps.has (dat ns vs) z = true) ∧ ∀ i (h : i < ns.length), left (kl ns[i]) = false → R i
section
variable {ns : List ByteArray} {vs : List Value} {left : Lit → Bool} {R : Nat → Prop}
theorem Come.start (hl : vs.length = ns.length) (hd : ns.Nodup) : Come ns vs (Maps.has (dat ns vs)) R := ⟨fun z h => h, fun i h e => by
  rw [((dat_facts _ ns vs rfl hl hd).2.2.1 ns[i]).2 (List.getElem_mem h)] at e
  cases e⟩
theorem Come.done (h : Come ns vs left R) (hl : ∀ z, left z = false) : ∀ i, i < ns.length → R i := fun i hi => h.2 i hi (hl _)
theorem Come.at (h : Come ns vs left R) (hl : vs.length = ns.length) (hd : ns.Nodup) {x : ByteArray} (hx : left (kl x) = true) : ∃ i, ∃ hi : i < ns.length, ns[i] = x :=
  List.getElem_of_mem (((dat_facts _ ns vs rfl hl hd).2.2.1 x).1 (h.1 _ hx))
theorem Come.step (h : Come ns vs left R) (hd : ns.Nodup) {i : Nat} (hi : i < ns.length) (hr : R i) : Come ns vs (fun z => left z && !z.sameKey (kl ns[i])) R := by
  refine ⟨fun z hz => h.1 z ?_, fun j hj e => ?_⟩
  · rw [Bool.and_eq_true] at hz
    exact hz.1
  · rw [Bool.and_eq_false_iff] at e
    rcases e with e | e
    · exact h.2 j hj e
    · have e2 : (kl ns[j]).sameKey (kl ns[i]) = true := by
        cases hh : (kl ns[j]).sameKey (kl ns[i])
        · rw [hh] at e; cases e
        · rfl
      have e3 := kl_inj (WideAt.sameKey_eq e2)
      have := nd_inj hd hj hi e3
      subst this
      exact hr
end
theorem jseq_map (n1 n2 : Int) (s1 s2 : ByteArray) (ns1 ns2 : List ByteArray) (is1 is2 : List J) (IH0 : ∀ t ∈ is1, ∀ (t2 : J) (p q : Nat → Prop) (u1 u2 : Value) (w : World), Wf t → Wf t2 → IV p w t u1 → IV q w t2 u2 → Calls Try.prog 39 #[u1, u2] w fun e w' => e = .returned (.bool (eqJ t t2)) ∧ Below w.heap.size w w')
    (p q : Nat → Prop) (b1 b2 : Nat) (vs1 vs2 : List Value) (w : World) (hw1 : Wf (.mk 5 n1 s1 ns1 is1)) (hw2 : Wf (.mk 5 n2 s2 ns2 is2)) (r1 : w.ownsMap Try.prog 9 RH b1 ns1.length (dat ns1 vs1)) (i1 : IVs p w is1 vs1) (r2 : w.ownsMap Try.prog 9 RH b2 ns2.length (dat ns2 vs2)) (i2 : IVs q w is2 vs2) :
    Calls Try.prog 39 #[.iface 68 (.map (some b1)), .iface 68 (.map (some b2))] w fun e w' => e = .returned (.bool (eqJ (.mk 5 n1 s1 ns1 is1) (.mk 5 n2 s2 ns2 is2))) ∧ Below w.heap.size w w' := by
  have hns : n1 = n2 ∧ s1 = s2 := by
    rcases hw1 with ⟨h, _⟩ | ⟨h, _⟩ | ⟨h, _⟩ | ⟨h, _⟩ | ⟨h, _⟩ | ⟨_, a1, b1, _⟩ <;> first | omega | skip
    rcases hw2 with ⟨h, _⟩ | ⟨h, _⟩ | ⟨h, _⟩ | ⟨h, _⟩ | ⟨h, _⟩ | ⟨_, a2, b2, _⟩ <;> first | omega | skip
    exact ⟨a1.trans a2.symm, b1.trans b2.symm⟩
  obtain ⟨hk1, hn1⟩ := hw1.kids
  obtain ⟨hk2, hn2⟩ := hw2.kids
  obtain ⟨la1, hd1⟩ : ns1.length = is1.length ∧ ns1.Nodup := hn1 rfl
  obtain ⟨la2, hd2⟩ : ns2.length = is2.length ∧ ns2.Nodup := hn2 rfl
  have lv1 : vs1.length = ns1.length := i1.len.trans la1.symm
  have lv2 : vs2.length = ns2.length := i2.len.trans la2.symm
  have hs1 : is1.length ≤ 4 := hw1.short.1
  have hs2 : is2.length ≤ 4 := hw2.short.1
  have he1 := r1.len Try.underlying68 3
  have he2 := r2.len Try.underlying68 3
  rw [(dat_facts _ ns1 vs1 rfl lv1 hd1).2.1, la1] at he1
  rw [(dat_facts _ ns2 vs2 rfl lv2 hd2).2.1, la2] at he2
  have HNS := Lib.hid hns
  have HK1 := Lib.hid hk1
  have HK2 := Lib.hid hk2
  have LA1 := Lib.hid la1
  have LA2 := Lib.hid la2
  have LV1 := Lib.hid lv1
  have LV2 := Lib.hid lv2
  have HD1 := Lib.hid hd1
  have HD2 := Lib.hid hd2
  have R1 := Lib.hid r1
  have R2 := Lib.hid r2
  have I1 := Lib.hid i1
  have I2 := Lib.hid i2
  have IH0 := Lib.hid IH0
  have HE := Lib.hid (eqJ_iff (.mk 5 n1 s1 ns1 is1) (.mk 5 n2 s2 ns2 is2))
  have HI := Lib.hid (fun i (hi : i < is1.length) => it_obj (a := .mk 5 n1 s1 ns1 is1) (b := .mk 5 n2 s2 ns2 is2) rfl LA1.out LA2.out i hi)
  clear hns hk1 hk2 hw1 hw2 r1 r2 i1 i2 hn1 hn2 la1 la2 lv1 lv2 hd1 hd2
  generalize eqJ (.mk 5 n1 s1 ns1 is1) (.mk 5 n2 s2 ns2 is2) = ans at *
  by_cases hl : is1.length = is2.length
  case neg =>
    have hlb : ((is1.length : Int) == (is2.length : Int)) = false := by
      rw [beq_eq_false_iff_ne]
      omega
    have HL := Lib.hid hl
    clear hl
    go_enter Try.func39, Try.ntmps39
    go_wp2
    go_ret
    refine ⟨?_, Below.refl _ _⟩
    have : ans = false := by
      rw [Bool.eq_false_iff]
      intro h
      exact HL.out (HE.out.1 h).2.2.2.1
    rw [this]
    rfl
  have hlb : ((is1.length : Int) == (is2.length : Int)) = true := by
    rw [beq_iff_eq]
    omega
  have HL := Lib.hid hl
  clear hl
  go_enter Try.func39, Try.ntmps39
  go_wp2_with (first
    | (at_range; refine wpList_range_own _ rfl _ 68 rfl 9 20 law9 Try.underlying68 RH b1 ns1.length _ rfl R1.out ?_; intro w0 hrg0 hg0 hs0)
    | go_in)
  try go_frame
  clear hlb he1 he2
  have HB0 := Lib.hid ((Below.refl w.heap.size w).grown hg0 (Nat.le_refl _) (fun j hj => by cases hj))
  have HRG0 := Lib.hid hrg0
  clear hrg0 hg0
  go_loopw [14, 15, 16] (fun v14 v15 v16 wr => ∃ (left : Lit → Bool) (cnt : Nat), Hid (wr.ranges Try.prog 9 RH b1 w.heap.size ns1.length (dat ns1 vs1) left cnt) ∧ Hid (Come ns1 vs1 left (fun i => it (.mk 5 n1 s1 ns1 is1) (.mk 5 n2 s2 ns2 is2) i = true)) ∧ Hid (Below w.heap.size w wr)) (fun _ _ _ wr => wr.rangeLeft b1 w.heap.size)
  case atStart => exact ⟨_, _, HRG0, Lib.hid (Come.start LV1.out HD1.out), HB0⟩
  case round =>
    obtain ⟨left, cnt, HRG, HC, HXB⟩ := hrel
    clear HRG0 HB0
    go_wp2_with (first
      | (at_next; refine wpList_next_ranges _ rfl _ rfl 9 law9 RH Value.string id (fun key kl h => by obtain ⟨s, e, _⟩ := WideMaps.string_of_keyOf Try.underlying9 h; exact ⟨s, e⟩) (fun v y _ => ⟨v, rfl⟩) b1 w.heap.size ns1.length _ _ _ rfl HRG.out ?_ ?_)
      | go_in)
    · intro hc0 hl0
      have HL0 := Lib.hid hl0
      clear hl0 hc0
      go_wp2
      go_ret
      refine ⟨?_, HXB.out⟩
      have : ans = true := HE.out.2 ⟨by first | rfl | trivial, HNS.out.1, HNS.out.2, HL.out, fun i hi => HC.out.done HL0.out i (by have := LA1.out; exact this.symm ▸ hi)⟩
      rw [this]
      rfl
    · intro x c kl' y ps w1 cnt1 hkey hlx hR hat hrg1 hlt hg1 hs1' hen
      obtain ⟨s, e1, e2, hsx⟩ := WideMaps.string_of_keyOf Try.underlying9 hkey
      injection e1 with e1
      subst e1 e2
      obtain ⟨i, hi, hx⟩ := HC.out.at LV1.out HD1.out hlx
      have HB1 := Lib.hid (HXB.out.grown hg1 HXB.out.size (fun j hj => by cases hj; exact Nat.le_refl _))
      have HRG1 := Lib.hid hrg1
      have HLT := Lib.hid (And.intro hlt HRG.out.left_eq)
      have HIL := Lib.hid hi
      have HIX : Hid (ns1[i]'HIL.out = x) := Lib.hid hx
      have hi1 : i < is1.length := by have := LA1.out; omega
      have hv1 : i < vs1.length := by have := LV1.out; omega
      have HIT := Lib.hid (HI.out i hi1)
      have HSX := Lib.hid hsx
      clear hkey hlx hR hat hrg1 hg1 hs1' hlt hx hsx hi
      by_cases hm : x ∈ ns2
      case neg =>
        have lk0 := look_ok_no (R2.out |> fun h => map_below h (HB1.out)) LV2.out HD2.out hm HSX.out
        have HM := Lib.hid hm
        clear hm
        go_wp2
        go_ret
        refine ⟨?_, HB1.out⟩
        have : ans = false := by
          rw [Bool.eq_false_iff]
          intro h
          obtain ⟨j, hj, ej, _⟩ := HIT.out.1 ((HE.out.1 h).2.2.2.2 i (by have := LA1.out; have := HIL.out; show i < is1.length; omega))
          refine HM.out ?_
          rw [← HIX.out]
          exact ej ▸ List.getElem_mem hj
        rw [this]
        rfl
      obtain ⟨j, hj, hjx⟩ := List.getElem_of_mem hm
      have hj2 : j < is2.length := by have := LA2.out; omega
      have hv2 : j < vs2.length := by have := LV2.out; omega
      have hb2 := map_below R2.out HB1.out
      have lk0 := look_ok_at hb2 LV2.out HD2.out j hj (by rw [hjx]; exact HSX.out)
      rw [hjx] at lk0
      have LK := Lib.hid (fun (W : World) (hb : Below w1.heap.size w1 W) => by
        have a1 := look_at (map_below HRG1.out.owns hb) LV1.out HD1.out i HIL.out (by rw [HIX.out]; exact HSX.out)
        have a2 := look_at (map_below hb2 hb) LV2.out HD2.out j hj (by rw [hjx]; exact HSX.out)
        rw [HIX.out] at a1
        rw [hjx] at a2
        exact And.intro a1 a2)
      have IH := Lib.hid (fun (W : World) (hb : Below w1.heap.size w1 W) => IH0.out is1[i] (List.getElem_mem hi1) is2[j] p q _ _ W (HK1.out.get _ (List.getElem_mem hi1)) (HK2.out.get _ (List.getElem_mem hj2)) ((I1.out.get i hi1 hv1).below (HB1.out.trans (hb.mono HB1.out.size))) ((I2.out.get j hj2 hv2).below (HB1.out.trans (hb.mono HB1.out.size))))
      have HEQ := Lib.hid (show eqJ is1[i] is2[j] = true ↔ it (.mk 5 n1 s1 ns1 is1) (.mk 5 n2 s2 ns2 is2) i = true from by
        rw [HIT.out]
        constructor
        · intro e
          refine ⟨j, hj, hjx.trans HIX.out.symm, e, ?_⟩
          have : ns1[i]'HIL.out = ns2[j] := HIX.out.trans hjx.symm
          show idx (ns1[i]'_) ns2 0 = _
          rw [this]
          exact idx_at HD2.out hj
        · rintro ⟨j', hj', ej, e, _⟩
          have : j' = j := nd_inj HD2.out hj' hj (ej.trans (HIX.out.trans hjx.symm))
          subst this
          exact e)
      clear hb2 HIT hm
      generalize vs1[i] = u1 at *
      generalize vs2[j] = u2 at *
      generalize eqJ is1[i] is2[j] = r at *
      obtain ⟨lk1, lk2⟩ := LK.out w1 (Below.refl _ _)
      have IH := Lib.hid (IH.out w1 (Below.refl _ _))
      have HRG2 := Lib.hid (fun (W : World) (hb : Below w1.heap.size w1 W) => HRG1.out.kept (grown_of_below hb none) (by simp) (by simp))
      clear LK
      cases r
      · go_wp2_with (go_at_call 39; (with_reducible refine IH.out.mono ?_); rintro e w2 ⟨rfl, hb⟩; have HXW := Lib.hid (HB1.out.trans (hb.mono HB1.out.size)); have HRG2 := Lib.hid (HRG2.out w2 hb); clear hb)
        go_ret
        refine ⟨?_, HXW.out⟩
        have : ans = false := by
          rw [Bool.eq_false_iff]
          intro h
          have h2 := HEQ.out.2 ((HE.out.1 h).2.2.2.2 i (by have := LA1.out; have := HIL.out; show i < is1.length; omega))
          cases h2
        rw [this]
        rfl
      · go_wp2_with (go_at_call 39; (with_reducible refine IH.out.mono ?_); rintro e w2 ⟨rfl, hb⟩; have HXW := Lib.hid (HB1.out.trans (hb.mono HB1.out.size)); have HRG2 := Lib.hid (HRG2.out w2 hb); clear hb)
        go_roundw
        case rel =>
          refine ⟨_, cnt1, HRG2, Lib.hid ?_, HXW⟩
          have hz := Come.step HC.out HD1.out HIL.out (HEQ.out.1 (by first | rfl | trivial))
          rw [HIX.out] at hz
          exact hz
        case measure => rw [HRG2.out.left_eq, HLT.out.2]; exact HLT.out.1
end Go.Proofs.Ytmelgankbegjaaa.Js

/- Whether two values overlap, as the code has it. Conditions: those written at each lemma. -/
import Derived.Test.YtmelgankbegjaaaKi
import Derived.Test.YtmelgankbegjaaaJl
set_option linter.unusedVariables false
set_option linter.unusedSimpArgs false
set_option maxRecDepth 100000
set_option maxHeartbeats 8000000
namespace Go.Proofs.Ytmelgankbegjaaa.Js
open Go.RowKit Go.Proofs.Ytmelgankbegjaaa.B

attribute [local go_sem] as4_4 as4_65 as4_9 as4_67 as4_68 as65_4 as65_65 as65_9 as65_67 as65_68 as9_4 as9_65 as9_9 as9_67 as9_68 as67_4 as67_65 as67_9 as67_67 as67_68 as68_4 as68_65 as68_9 as68_67 as68_68 atn_67 atn_68
@[local go_sem] theorem atn_4 (W : World) : (Instr.typeAssert .nilIface 20 4 true).run Try.prog W = .ok (.tuple #[.bool false, .bool false]) W := by kernel_rfl
@[local go_sem] theorem atn_65 (W : World) : (Instr.typeAssert .nilIface 20 65 true).run Try.prog W = .ok (.tuple #[.float .f64 0, .bool false]) W := by kernel_rfl
@[local go_sem] theorem atn_9 (W : World) : (Instr.typeAssert .nilIface 20 9 true).run Try.prog W = .ok (.tuple #[.string ⟨#[]⟩, .bool false]) W := by kernel_rfl
@[local go_sem] theorem eqn_4 (v : Value) (W : World) : (binOp .eql 20 (.iface 4 v) .nilIface).run Try.prog W = .ok (.bool false) W := by kernel_rfl
@[local go_sem] theorem eqn_65 (v : Value) (W : World) : (binOp .eql 20 (.iface 65 v) .nilIface).run Try.prog W = .ok (.bool false) W := by kernel_rfl
@[local go_sem] theorem eqn_9 (v : Value) (W : World) : (binOp .eql 20 (.iface 9 v) .nilIface).run Try.prog W = .ok (.bool false) W := by kernel_rfl
@[local go_sem] theorem eqn_67 (v : Value) (W : World) : (binOp .eql 20 (.iface 67 v) .nilIface).run Try.prog W = .ok (.bool false) W := by kernel_rfl
@[local go_sem] theorem eqn_68 (v : Value) (W : World) : (binOp .eql 20 (.iface 68 v) .nilIface).run Try.prog W = .ok (.bool false) W := by kernel_rfl
@[local go_sem] theorem eqn_n (W : World) : (binOp .eql 20 .nilIface .nilIface).run Try.prog W = .ok (.bool true) W := by kernel_rfl
theorem jseq_any (t1 t2 : J) (p q : Nat → Prop) (u1 u2 : Value) (w : World) (hw1 : Wf t1) (hw2 : Wf t2) (h1 : IV p w t1 u1) (h2 : IV q w t2 u2) : Calls Try.prog 39 #[u1, u2] w fun e w' => e = .returned (.bool (eqJ t1 t2)) ∧ Below w.heap.size w w' := by
  by_cases h4 : t1.k = 4 ∧ t2.k = 4
  · have IH : ∀ t ∈ t1.is, ∀ (t2 : J) (p q : Nat → Prop) (u1 u2 : Value) (w : World), Wf t → Wf t2 → IV p w t u1 → IV q w t2 u2 → Calls Try.prog 39 #[u1, u2] w fun e w' => e = .returned (.bool (eqJ t t2)) ∧ Below w.heap.size w w' := fun t ht t2 p q u1 u2 w a b c d => jseq_any t t2 p q u1 u2 w a b c d
    obtain ⟨k1, n1, s1, ns1, is1⟩ := t1
    obtain ⟨k2, n2, s2, ns2, is2⟩ := t2
    obtain ⟨e1, e2⟩ := h4
    have e1 : k1 = 4 := e1
    have e2 : k2 = 4 := e2
    subst e1 e2
    rcases h1 with ⟨h, _⟩ | ⟨h, _⟩ | ⟨h, _⟩ | ⟨h, _⟩ | ⟨_, A, c, vs1, rfl, r1, i1⟩ | ⟨h, _⟩ <;> first | omega | skip
    rcases h2 with ⟨h, _⟩ | ⟨h, _⟩ | ⟨h, _⟩ | ⟨h, _⟩ | ⟨_, B, d, vs2, rfl, r2, i2⟩ | ⟨h, _⟩ <;> first | omega | skip
    exact jseq_arr n1 n2 s1 s2 ns1 ns2 is1 is2 IH p q A B c d vs1 vs2 w hw1 hw2 r1 i1 r2 i2
  by_cases h5 : t1.k = 5 ∧ t2.k = 5
  · have IH : ∀ t ∈ t1.is, ∀ (t2 : J) (p q : Nat → Prop) (u1 u2 : Value) (w : World), Wf t → Wf t2 → IV p w t u1 → IV q w t2 u2 → Calls Try.prog 39 #[u1, u2] w fun e w' => e = .returned (.bool (eqJ t t2)) ∧ Below w.heap.size w w' := fun t ht t2 p q u1 u2 w a b c d => jseq_any t t2 p q u1 u2 w a b c d
    obtain ⟨k1, n1, s1, ns1, is1⟩ := t1
    obtain ⟨k2, n2, s2, ns2, is2⟩ := t2
    obtain ⟨e1, e2⟩ := h5
    have e1 : k1 = 5 := e1
    have e2 : k2 = 5 := e2
    subst e1 e2
    rcases h1 with ⟨h, _⟩ | ⟨h, _⟩ | ⟨h, _⟩ | ⟨h, _⟩ | ⟨h, _⟩ | ⟨_, b1, vs1, rfl, ⟨_, r1⟩, i1⟩ <;> first | omega | skip
    rcases h2 with ⟨h, _⟩ | ⟨h, _⟩ | ⟨h, _⟩ | ⟨h, _⟩ | ⟨h, _⟩ | ⟨_, b2, vs2, rfl, ⟨_, r2⟩, i2⟩ <;> first | omega | skip
    exact jseq_map n1 n2 s1 s2 ns1 ns2 is1 is2 IH p q b1 b2 vs1 vs2 w hw1 hw2 r1 i1 r2 i2
  · exact (jseq_flat t1 t2 p q u1 u2 w hw1 hw2 h1 h2 h4 h5).mono fun e w' ⟨he, hw⟩ => ⟨he, by rw [hw]; exact Below.refl _ _⟩
termination_by SizeOf.sizeOf t1
decreasing_by
  all_goals
    obtain ⟨i, hi, rfl⟩ := List.getElem_of_mem ht
    exact size_item t1 i hi
theorem sc_form {p : Nat → Prop} {W : World} {t : J} {u : Value} (h : IV p W t u) (hk : t.k < 4) : u = .nilIface ∨ (∃ v, u = .iface 4 v) ∨ (∃ v, u = .iface 65 v) ∨ (∃ v, u = .iface 9 v) := by
  obtain ⟨k, n, s, ns, is⟩ := t
  have hk : k < 4 := hk
  rcases h with ⟨_, h⟩ | ⟨_, h⟩ | ⟨_, h⟩ | ⟨_, h⟩ | ⟨h, _⟩ | ⟨h, _⟩
  · exact .inl h
  · exact .inr (.inl ⟨_, h⟩)
  · exact .inr (.inr (.inl ⟨_, h⟩))
  · exact .inr (.inr (.inr ⟨_, h⟩))
  · omega
  · omega
theorem map_form {p : Nat → Prop} {W : World} {t : J} {u : Value} (h : IV p W t u) (hk : t.k = 5) : ∃ b, u = .iface 68 (.map (some b)) := by
  obtain ⟨k, n, s, ns, is⟩ := t
  have hk : k = 5 := hk
  rcases h with ⟨h, _⟩ | ⟨h, _⟩ | ⟨h, _⟩ | ⟨h, _⟩ | ⟨h, _⟩ | ⟨_, b, vs, h, _⟩
  · omega
  · omega
  · omega
  · omega
  · omega
  · exact ⟨b, h⟩
theorem arr_form {p : Nat → Prop} {W : World} {t : J} {u : Value} (h : IV p W t u) (hk : t.k = 4) : ∃ v, u = .iface 67 v := by
  obtain ⟨k, n, s, ns, is⟩ := t
  have hk : k = 4 := hk
  rcases h with ⟨h, _⟩ | ⟨h, _⟩ | ⟨h, _⟩ | ⟨h, _⟩ | ⟨_, A, c, vs, h, _⟩ | ⟨h, _⟩
  · omega
  · omega
  · omega
  · omega
  · exact ⟨_, h⟩
  · omega
theorem mt_flat {a b : J} (h : ¬ (a.k = 5 ∧ b.k = 5)) (ha : a.k ≠ 4) (hb : b.k ≠ 4) : mtJ a b = eqJ a b := by
  unfold mtJ lsJ
  rw [if_neg h, if_neg ha, if_neg hb]
  simp
theorem mt_list {a b : J} (ha : a.k ≠ 4) (hb : b.k = 4) : mtJ a b = b.is.any (eqJ a) := by
  unfold mtJ lsJ
  rw [if_neg (by omega), if_neg ha, if_pos hb]
  simp
theorem ls_wf {a : J} (h : Wf a) : ∀ x ∈ lsJ a, Wf x := by
  intro x hx
  unfold lsJ at hx
  by_cases hk : a.k = 4
  · rw [if_pos hk] at hx
    exact h.kids.1.get _ hx
  · rw [if_neg hk] at hx
    rw [List.mem_singleton.1 hx]
    exact h
theorem mt_sym (a b : J) (ha : Wf a) (hb : Wf b) (h : mtJ a b = true) : mtJ b a = true := by
  unfold mtJ at h ⊢
  by_cases h5 : a.k = 5 ∧ b.k = 5
  · rw [if_pos h5] at h
    rw [if_pos ⟨h5.2, h5.1⟩]
    obtain ⟨i, hi, hit⟩ := List.any_eq_true.1 h
    have hi := List.mem_range.1 hi
    obtain ⟨ka, na⟩ := ha.kids
    obtain ⟨kb, nb⟩ := hb.kids
    obtain ⟨la, da⟩ := na h5.1
    obtain ⟨lb, db⟩ := nb h5.2
    obtain ⟨j, hj, e1, e2, _⟩ := (it_obj h5.1 la lb i hi).1 hit
    refine List.any_eq_true.2 ⟨j, List.mem_range.2 (by omega), (it_obj h5.2 lb la j (by omega)).2 ⟨i, by omega, e1.symm, ?_, ?_⟩⟩
    · rw [eqJ_comm _ _ (kb.get _ (List.getElem_mem _)) (ka.get _ (List.getElem_mem _))]
      exact e2
    · rw [e1]
      exact idx_at da (by omega)
  · rw [if_neg h5] at h
    rw [if_neg (fun e => h5 ⟨e.2, e.1⟩)]
    obtain ⟨x, hx, h⟩ := List.any_eq_true.1 h
    obtain ⟨y, hy, h⟩ := List.any_eq_true.1 h
    refine List.any_eq_true.2 ⟨y, hy, List.any_eq_true.2 ⟨x, hx, ?_⟩⟩
    rw [eqJ_comm _ _ (ls_wf hb y hy) (ls_wf ha x hx)]
    exact h
theorem mt_comm (a b : J) (ha : Wf a) (hb : Wf b) : mtJ a b = mtJ b a := by
  rw [Bool.eq_iff_iff]
  exact ⟨mt_sym a b ha hb, mt_sym b a hb ha⟩
section
variable (t1 t2 : J) (p q : Nat → Prop) (u1 u2 : Value) (w : World) (hw1 : Wf t1) (hw2 : Wf t2) (h1 : IV p w t1 u1) (h2 : IV q w t2 u2)
include hw1 hw2 h1 h2
theorem ovl_flat (hk1 : t1.k < 4) (hk2 : t2.k ≠ 4) : Calls Try.prog 30 #[u1, u2] w fun e w' => e = .returned (.bool (mtJ t1 t2)) ∧ Below w.heap.size w w' := by
  have JE := Lib.hid (jseq_any t1 t2 p q u1 u2 w hw1 hw2 h1 h2)
  rw [mt_flat (by omega) (by omega) hk2]
  generalize eqJ t1 t2 = ans at *
  have hb : t2.k < 4 ∨ t2.k = 5 := by
    have := kind_range hw2
    omega
  rcases hb with hb | hb
  · rcases sc_form h1 hk1 with rfl | ⟨v, rfl⟩ | ⟨v, rfl⟩ | ⟨v, rfl⟩ <;> rcases sc_form h2 hb with rfl | ⟨v', rfl⟩ | ⟨v', rfl⟩ | ⟨v', rfl⟩
    all_goals
      clear hw1 hw2 h1 h2 hk1 hk2 hb
      go_enter Try.func30, Try.ntmps30
      go_wp2_with (go_at_call 39; (with_reducible refine JE.out.mono ?_); rintro e w1 ⟨rfl, hb⟩; have HB := Lib.hid hb; clear hb)
      go_ret
      exact ⟨rfl, HB.out⟩
  · obtain ⟨b, rfl⟩ := map_form h2 hb
    rcases sc_form h1 hk1 with rfl | ⟨v, rfl⟩ | ⟨v, rfl⟩ | ⟨v, rfl⟩
    all_goals
      clear hw1 hw2 h1 h2 hk1 hk2 hb
      go_enter Try.func30, Try.ntmps30
      go_wp2_with (go_at_call 39; (with_reducible refine JE.out.mono ?_); rintro e w1 ⟨rfl, hb⟩; have HB := Lib.hid hb; clear hb)
      go_ret
      exact ⟨rfl, HB.out⟩
theorem ovl_sa (hk1 : t1.k < 4) (hk2 : t2.k = 4) : Calls Try.prog 30 #[u1, u2] w fun e w' => e = .returned (.bool (mtJ t1 t2)) ∧ Below w.heap.size w w' := by
  rw [mt_list (by omega) hk2]
  obtain ⟨k2, n2, s2, ns2, is2⟩ := t2
  have hk2 : k2 = 4 := hk2
  subst hk2
  obtain ⟨A, c, vs2, rfl, r2, i2⟩ : ∃ A c vs, u2 = .iface 67 (.slice A is2.length c) ∧ Rp q w 1 (.slice A is2.length c) is2.length vs ∧ IVs q w is2 vs := by
    rcases h2 with ⟨h, _⟩ | ⟨h, _⟩ | ⟨h, _⟩ | ⟨h, _⟩ | ⟨_, h⟩ | ⟨h, _⟩
    · omega
    · omega
    · omega
    · omega
    · exact h
    · omega
  have hks := hw2.kids.1
  have hs2 : is2.length ≤ 4 := hw2.short.1
  have HLV := Lib.hid i2.len
  have R2 := Lib.hid r2.1
  have JE := Lib.hid (fun (i : Nat) (hi : i < is2.length) (hv : i < vs2.length) (W : World) (hb : Below w.heap.size w W) => jseq_any t1 is2[i] p q u1 vs2[i] W hw1 (hks.get _ (List.getElem_mem hi)) (h1.below hb) ((i2.get i hi hv).below hb))
  generalize eqJ t1 = E at *
  show Calls Try.prog 30 _ w fun e w' => e = .returned (.bool (is2.any E)) ∧ Below w.heap.size w w'
  rcases sc_form h1 hk1 with rfl | ⟨v, rfl⟩ | ⟨v, rfl⟩ | ⟨v, rfl⟩
  all_goals
    clear hw1 hw2 h1 h2 hk1 hks r2 i2
    go_enter Try.func30, Try.ntmps30
    go_upto_region 11 with fail
    go_loopw [9, 67] (fun va vc wr => ∃ (i : Nat), vc = .int .i64 (i : Int) ∧ i ≤ is2.length ∧ Hid (∀ j, j < i → ∀ (hj : j < is2.length), E is2[j] = false) ∧ Hid (Below w.heap.size w wr)) (fun _ vc _ => (is2.length - (intOf vc)).toNat)
    case atStart => exact ⟨0, rfl, Nat.zero_le _, Lib.hid (fun j hj => absurd hj (Nat.not_lt_zero j)), Lib.hid (Below.refl _ _)⟩
    case round =>
      obtain ⟨i, rfl, hi, HAL, HXB⟩ := hrel
      by_cases hlt : i < is2.length
      · have hv : i < vs2.length := by have := HLV.out; omega
        obtain ⟨bi, oi, ci, e1, _, _, hbi, hci⟩ := R2.out.open (by omega)
        injection e1 with ea _ ec
        subst ea ec
        have xc := (HXB.out.cell hbi).trans (hci i vs2[i] (List.getElem?_eq_getElem hv))
        have JE := Lib.hid (JE.out i hlt hv wr HXB.out)
        have HN := Lib.hid (fun (h : E is2[i] = true) => show is2.any E = true from List.any_eq_true.2 ⟨_, List.getElem_mem hlt, h⟩)
        have HF := Lib.hid (show E is2[i] = false → ∀ j, j < i + 1 → ∀ (hj : j < is2.length), E is2[j] = false from fun e j hj hj2 => by
          rcases Nat.lt_succ_iff_lt_or_eq.1 hj with h | h
          · exact HAL.out j h hj2
          · subst h; exact e)
        clear hci hbi
        generalize vs2[i] = x at *
        generalize E is2[i] = r at *
        cases r
        · go_wp2_with (go_at_call 39; (with_reducible refine JE.out.mono ?_); rintro e w1 ⟨rfl, hb⟩; have HB := Lib.hid (HXB.out.trans (hb.mono HXB.out.size)); clear hb)
          go_roundw
          case rel => exact ⟨i + 1, by go_num, by omega, Lib.hid (HF.out (by trivial)), HB⟩
          case measure => simp [intOf]; omega
        · go_wp2_with (go_at_call 39; (with_reducible refine JE.out.mono ?_); rintro e w1 ⟨rfl, hb⟩; have HB := Lib.hid (HXB.out.trans (hb.mono HXB.out.size)); clear hb)
          go_ret
          refine ⟨?_, HB.out⟩
          rw [HN.out (by trivial)]
          rfl
      · obtain rfl : i = is2.length := by omega
        go_wp2
        go_ret
        refine ⟨?_, HXB.out⟩
        rw [show is2.any E = false from by
          rw [Bool.eq_false_iff]
          intro h
          obtain ⟨y, hy, h2⟩ := List.any_eq_true.1 h
          obtain ⟨j, hj, rfl⟩ := List.getElem_of_mem hy
          rw [HAL.out j hj hj] at h2
          cases h2]
        rfl
theorem ovl_ma (hk1 : t1.k = 5) (hk2 : t2.k = 4) : Calls Try.prog 30 #[u1, u2] w fun e w' => e = .returned (.bool (mtJ t1 t2)) ∧ Below w.heap.size w w' := by
  rw [mt_list (by omega) hk2]
  obtain ⟨k2, n2, s2, ns2, is2⟩ := t2
  have hk2 : k2 = 4 := hk2
  subst hk2
  obtain ⟨A, c, vs2, rfl, r2, i2⟩ : ∃ A c vs, u2 = .iface 67 (.slice A is2.length c) ∧ Rp q w 1 (.slice A is2.length c) is2.length vs ∧ IVs q w is2 vs := by
    rcases h2 with ⟨h, _⟩ | ⟨h, _⟩ | ⟨h, _⟩ | ⟨h, _⟩ | ⟨_, h⟩ | ⟨h, _⟩
    · omega
    · omega
    · omega
    · omega
    · exact h
    · omega
  have hks := hw2.kids.1
  have hs2 : is2.length ≤ 4 := hw2.short.1
  have HLV := Lib.hid i2.len
  have R2 := Lib.hid r2.1
  have JE := Lib.hid (fun (i : Nat) (hi : i < is2.length) (hv : i < vs2.length) (W : World) (hb : Below w.heap.size w W) => jseq_any t1 is2[i] p q u1 vs2[i] W hw1 (hks.get _ (List.getElem_mem hi)) (h1.below hb) ((i2.get i hi hv).below hb))
  generalize eqJ t1 = E at *
  show Calls Try.prog 30 _ w fun e w' => e = .returned (.bool (is2.any E)) ∧ Below w.heap.size w w'
  obtain ⟨b, rfl⟩ := map_form h1 hk1
  clear hw1 hw2 h1 h2 hk1 hks r2 i2
  go_enter Try.func30, Try.ntmps30
  go_upto_region 34 with fail
  go_loopw [18, 124] (fun va vc wr => ∃ (i : Nat), vc = .int .i64 (i : Int) ∧ i ≤ is2.length ∧ Hid (∀ j, j < i → ∀ (hj : j < is2.length), E is2[j] = false) ∧ Hid (Below w.heap.size w wr)) (fun _ vc _ => (is2.length - (intOf vc)).toNat)
  case atStart => exact ⟨0, rfl, Nat.zero_le _, Lib.hid (fun j hj => absurd hj (Nat.not_lt_zero j)), Lib.hid (Below.refl _ _)⟩
  case round =>
    obtain ⟨i, rfl, hi, HAL, HXB⟩ := hrel
    by_cases hlt : i < is2.length
    · have hv : i < vs2.length := by have := HLV.out; omega
      obtain ⟨bi, oi, ci, e1, _, _, hbi, hci⟩ := R2.out.open (by omega)
      injection e1 with ea _ ec
      subst ea ec
      have xc := (HXB.out.cell hbi).trans (hci i vs2[i] (List.getElem?_eq_getElem hv))
      have JE := Lib.hid (JE.out i hlt hv wr HXB.out)
      have HN := Lib.hid (fun (h : E is2[i] = true) => show is2.any E = true from List.any_eq_true.2 ⟨_, List.getElem_mem hlt, h⟩)
      have HF := Lib.hid (show E is2[i] = false → ∀ j, j < i + 1 → ∀ (hj : j < is2.length), E is2[j] = false from fun e j hj hj2 => by
        rcases Nat.lt_succ_iff_lt_or_eq.1 hj with h | h
        · exact HAL.out j h hj2
        · subst h; exact e)
      clear hci hbi
      generalize vs2[i] = x at *
      generalize E is2[i] = r at *
      cases r
      · go_wp2_with (go_at_call 39; (with_reducible refine JE.out.mono ?_); rintro e w1 ⟨rfl, hb⟩; have HB := Lib.hid (HXB.out.trans (hb.mono HXB.out.size)); clear hb)
        go_roundw
        case rel => exact ⟨i + 1, by go_num, by omega, Lib.hid (HF.out (by trivial)), HB⟩
        case measure => simp [intOf]; omega
      · go_wp2_with (go_at_call 39; (with_reducible refine JE.out.mono ?_); rintro e w1 ⟨rfl, hb⟩; have HB := Lib.hid (HXB.out.trans (hb.mono HXB.out.size)); clear hb)
        go_ret
        refine ⟨?_, HB.out⟩
        rw [HN.out (by trivial)]
        rfl
    · obtain rfl : i = is2.length := by omega
      go_wp2
      go_ret
      refine ⟨?_, HXB.out⟩
      rw [show is2.any E = false from by
        rw [Bool.eq_false_iff]
        intro h
        obtain ⟨y, hy, h2⟩ := List.any_eq_true.1 h
        obtain ⟨j, hj, rfl⟩ := List.getElem_of_mem hy
        rw [HAL.out j hj hj] at h2
        cases h2]
      rfl
end
end Go.Proofs.Ytmelgankbegjaaa.Js

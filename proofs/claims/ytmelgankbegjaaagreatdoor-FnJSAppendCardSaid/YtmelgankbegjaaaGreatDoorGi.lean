/- Part i of the chain. Conditions: those written at each lemma. -/
import Derived.Test.YtmelgankbegjaaaGreatDoorGh
set_option linter.unusedVariables false
set_option linter.unusedSimpArgs false
set_option maxRecDepth 100000
set_option maxHeartbeats 8000000
namespace Go.Proofs.YtmelgankbegjaaaGreatDoor.Js
open Go.RowKit Go.Proofs.YtmelgankbegjaaaGreatDoor.B

attribute [local go_sem] as4_4 as4_65 as4_9 as4_67 as4_68 as65_4 as65_65 as65_9 as65_67 as65_68 as9_4 as9_65 as9_9 as9_67 as9_68 as67_4 as67_65 as67_9 as67_67 as67_68 as68_4 as68_65 as68_9 as68_67 as68_68 atn_67 atn_68
@[local go_sem] theorem atn_4 (W : World) : (Instr.typeAssert .nilIface 20 4 true).run Tryz.prog W = .ok (.tuple #[.bool false, .bool false]) W := by kernel_rfl
@[local go_sem] theorem atn_65 (W : World) : (Instr.typeAssert .nilIface 20 72 true).run Tryz.prog W = .ok (.tuple #[.float .f64 0, .bool false]) W := by kernel_rfl
@[local go_sem] theorem atn_9 (W : World) : (Instr.typeAssert .nilIface 20 9 true).run Tryz.prog W = .ok (.tuple #[.string ⟨#[]⟩, .bool false]) W := by kernel_rfl
@[local go_sem] theorem eqn_4 (v : Value) (W : World) : (binOp .eql 20 (.iface 4 v) .nilIface).run Tryz.prog W = .ok (.bool false) W := by kernel_rfl
@[local go_sem] theorem eqn_65 (v : Value) (W : World) : (binOp .eql 20 (.iface 72 v) .nilIface).run Tryz.prog W = .ok (.bool false) W := by kernel_rfl
@[local go_sem] theorem eqn_9 (v : Value) (W : World) : (binOp .eql 20 (.iface 9 v) .nilIface).run Tryz.prog W = .ok (.bool false) W := by kernel_rfl
@[local go_sem] theorem eqn_67 (v : Value) (W : World) : (binOp .eql 20 (.iface 74 v) .nilIface).run Tryz.prog W = .ok (.bool false) W := by kernel_rfl
@[local go_sem] theorem eqn_68 (v : Value) (W : World) : (binOp .eql 20 (.iface 75 v) .nilIface).run Tryz.prog W = .ok (.bool false) W := by kernel_rfl
@[local go_sem] theorem eqn_n (W : World) : (binOp .eql 20 .nilIface .nilIface).run Tryz.prog W = .ok (.bool true) W := by kernel_rfl
theorem sc_form {p : Nat → Prop} {W : World} {t : J} {u : Value} (h : IV p W t u) (hk : t.k < 4) : u = .nilIface ∨ (∃ v, u = .iface 4 v) ∨ (∃ v, u = .iface 72 v) ∨ (∃ v, u = .iface 9 v) := by
  obtain ⟨k, n, s, ns, is⟩ := t
  have hk : k < 4 := hk
  rcases h with ⟨_, h⟩ | ⟨_, h⟩ | ⟨_, h⟩ | ⟨_, h⟩ | ⟨h, _⟩ | ⟨h, _⟩
  · exact .inl h
  · exact .inr (.inl ⟨_, h⟩)
  · exact .inr (.inr (.inl ⟨_, h⟩))
  · exact .inr (.inr (.inr ⟨_, h⟩))
  · omega
  · omega
theorem map_form {p : Nat → Prop} {W : World} {t : J} {u : Value} (h : IV p W t u) (hk : t.k = 5) : ∃ b, u = .iface 75 (.map (some b)) := by
  obtain ⟨k, n, s, ns, is⟩ := t
  have hk : k = 5 := hk
  rcases h with ⟨h, _⟩ | ⟨h, _⟩ | ⟨h, _⟩ | ⟨h, _⟩ | ⟨h, _⟩ | ⟨_, b, vs, h, _⟩
  · omega
  · omega
  · omega
  · omega
  · omega
  · exact ⟨b, h⟩
theorem arr_form {p : Nat → Prop} {W : World} {t : J} {u : Value} (h : IV p W t u) (hk : t.k = 4) : ∃ v, u = .iface 74 v := by
  obtain ⟨k, n, s, ns, is⟩ := t
  have hk : k = 4 := hk
  rcases h with ⟨h, _⟩ | ⟨h, _⟩ | ⟨h, _⟩ | ⟨h, _⟩ | ⟨_, A, c, vs, h, _⟩ | ⟨h, _⟩
  · omega
  · omega
  · omega
  · omega
  · exact ⟨_, h⟩
  · omega
theorem mt_flat {a b : J} (h : ¬ (a.k = 5 ∧ b.k = 5)) (ha : a.k ≠ 4) (hb : b.k ≠ 4) : mtJ a b = eqJ a b := by
  unfold mtJ lsJ
  rw [if_neg h, if_neg ha, if_neg hb]
  simp
theorem mt_list {a b : J} (ha : a.k ≠ 4) (hb : b.k = 4) : mtJ a b = b.is.any (eqJ a) := by
  unfold mtJ lsJ
  rw [if_neg (by omega), if_neg ha, if_pos hb]
  simp
theorem ls_wf {a : J} (h : Wf a) : ∀ x ∈ lsJ a, Wf x := by
  intro x hx
  unfold lsJ at hx
  by_cases hk : a.k = 4
  · rw [if_pos hk] at hx
    exact h.kids.1.get _ hx
  · rw [if_neg hk] at hx
    rw [List.mem_singleton.1 hx]
    exact h
theorem mt_sym (a b : J) (ha : Wf a) (hb : Wf b) (h : mtJ a b = true) : mtJ b a = true := by
  unfold mtJ at h ⊢
  by_cases h5 : a.k = 5 ∧ b.k = 5
  · rw [if_pos h5] at h
    rw [if_pos ⟨h5.2, h5.1⟩]
    obtain ⟨i, hi, hit⟩ := List.any_eq_true.1 h
    have hi := List.mem_range.1 hi
    obtain ⟨ka, na⟩ := ha.kids
    obtain ⟨kb, nb⟩ := hb.kids
    obtain ⟨la, da⟩ := na h5.1
    obtain ⟨lb, db⟩ := nb h5.2
    obtain ⟨j, hj, e1, e2, _⟩ := (it_obj h5.1 la lb i hi).1 hit
    refine List.any_eq_true.2 ⟨j, List.mem_range.2 (by omega), (it_obj h5.2 lb la j (by omega)).2 ⟨i, by omega, e1.symm, ?_, ?_⟩⟩
    · rw [eqJ_comm _ _ (kb.get _ (List.getElem_mem _)) (ka.get _ (List.getElem_mem _))]
      exact e2
    · rw [e1]
      exact idx_at da (by omega)
  · rw [if_neg h5] at h
    rw [if_neg (fun e => h5 ⟨e.2, e.1⟩)]
    obtain ⟨x, hx, h⟩ := List.any_eq_true.1 h
    obtain ⟨y, hy, h⟩ := List.any_eq_true.1 h
    refine List.any_eq_true.2 ⟨y, hy, List.any_eq_true.2 ⟨x, hx, ?_⟩⟩
    rw [eqJ_comm _ _ (ls_wf hb y hy) (ls_wf ha x hx)]
    exact h
theorem mt_comm (a b : J) (ha : Wf a) (hb : Wf b) : mtJ a b = mtJ b a := by
  rw [Bool.eq_iff_iff]
  exact ⟨mt_sym a b ha hb, mt_sym b a hb ha⟩
section
variable (t1 t2 : J) (p q : Nat → Prop) (u1 u2 : Value) (w : World) (hw1 : Wf t1) (hw2 : Wf t2) (h1 : IV p w t1 u1) (h2 : IV q w t2 u2)
include hw1 hw2 h1 h2
end
end Go.Proofs.YtmelgankbegjaaaGreatDoor.Js

set_option linter.unusedVariables false
set_option linter.unusedSimpArgs false
set_option maxRecDepth 100000
set_option maxHeartbeats 4000000
namespace Go.Proofs.YtmelgankbegjaaaGreatDoor.Js
open Go.RowKit Go.Proofs.YtmelgankbegjaaaGreatDoor.B

attribute [local go_sem] as67_67 as68_68
/-- What a change answers. -/
def Out (m : Int) (l : List Sp) (t tx : J) (p q : Nat → Prop) (u : Value) (w : World) (cb B : Nat) (e : Ending) (w' : World) : Prop := ∃ u' ch, e = .returned (.tuple #[u', .bool ch, .pointer none]) ∧ Res m l t tx p q u w cb B u' ch w'
/-- Changes at a path are made as said. -/
def Upd (m : Int) (r : List Sp) : Prop := ∀ (t tx : J) (p q : Nat → Prop) (u ux : Value) (w : World) (cb B : Nat), Way t r → Ask t tx p q u ux w cb B →
  Calls Tryz.prog 28 #[.string (bs (segs r)), u, ux, .int .i64 m, .pointer (some ⟨cb, 0, none⟩)] w (Out m r t tx p q u w cb B)
theorem nil_text : (bs (segs [])).toList.isEmpty = true := by
  have h : (bs []).toList = [] := by simp [bs, ByteArray.toList, ByteArray.toList.loop, ByteArray.size]
  exact congrArg List.isEmpty h
theorem upd_nil_set (m : Int) (hm : m = 0 ∨ m = 2) : Upd m [] := by
  intro t tx p q u ux w cb B _ ha
  have hr : Res m [] t tx p q u w cb B ux true w := ⟨by
      have e : upd m tx [] t = tx := by
        show fm m tx t = tx
        unfold fm
        rw [if_neg (by omega)]
      rw [e]
      exact ha.ix.mono (fun x hx => .inr (.inl hx)), fun h => (by cases h), ha.cur, ⟨Nat.le_refl _, fun _ _ _ => rfl⟩, Below.refl _ _⟩
  have HR := Lib.hid hr
  have hne := nil_text
  generalize bs (segs []) = s at *
  clear ha hr
  rcases hm with rfl | rfl
  all_goals
    go_enter Tryz.func28, Tryz.ntmps28
    go_wp2
    refine bodyPost_ret (v := .tuple #[ux, .bool true, .pointer none]) ?_ rfl ⟨_, _, rfl, HR.out⟩
    simp only [results, show Tryz.f28.results = #[.tmp 10, .tmp 11, .tmp 12] by kernel_rfl]
    go_simp
theorem upd_nil_app : Upd 4 [] := by
  intro t tx p q u ux w cb B _ ha
  have hne := nil_text
  obtain ⟨z, hz⟩ := ha.cur
  have HZ := Lib.hid hz
  have HA := Lib.hid ha
  generalize bs (segs []) = s at *
  have hux := ha.ix.cell
  have hux3 := hux.1
  unfold Value.cells at hux3
  by_cases hk : t.k = 4
  · obtain ⟨A, c, vs, rfl, hown, hbl, hi⟩ := ha.io.arr hk
    have hl8 : t.is.length ≤ 8 := ha.wf.wg.kids.2.2.1
    have e1 : upd 4 tx [] t = .mk 4 0 .empty [] (t.is ++ [tx]) := by
      show fm 4 tx t = _
      unfold fm lsJ
      rw [if_pos rfl, if_pos hk]
    have HO := Lib.hid hown
    have HI := Lib.hid hi
    have HBL := Lib.hid hbl
    clear ha hown hi hbl hz hk
    go_enter Tryz.func28, Tryz.ntmps28
    go_wp2_with (at_builtin; refine app1 (w0 := w) 0 rfl (.tmp 45) (.tmp 47) 74 20 .nilIface 1 16 rfl Tryz.underlying74 info20 rfl (by omega) (by omega) _ _ _ _ rfl rfl rfl (by intro x hx; rw [List.mem_singleton.1 hx]; exact hux.2) HO.out (Below.refl _ _) (Nat.zero_le _) (by omega) ?_; intro v1 w1 hown1 hb1 hg1 hat1; obtain ⟨A1, c1, hv, -, -⟩ := (Rd.of_own hown1).shape; subst hv; have HO1 := Lib.hid hown1; have HG1 := Lib.hid hg1; have HAT := Lib.hid hat1; have HB1 := Lib.hid hb1; clear hown1 hb1 hg1 hat1)
    have hrow : ∀ k, (Value.slice A t.is.length c).ownBlock = some k → p k ∧ k < w.heap.size := fun k hk => ⟨HBL.out k hk, (HO.out.lt k hk).2⟩
    have hlen : (t.is ++ [tx]).length = t.is.length + 1 := by simp
    have HF := mia_fin (p := p) (q := q) (P := fun x => p x ∧ some x ≠ (Value.slice A t.is.length c).ownBlock) (w := w) (W := w) (W' := w1) (ts := t.is) (us := [tx]) (v5 := .slice A t.is.length c) (A := A1) (c := c1) (vs := vs) (ws := [ux]) HA.out.apart
      ⟨Nat.le_refl _, fun _ _ _ => rfl⟩ HI.out (fun x hx => hx) (io_one HA.out.ix) (fun k hk => ⟨HA.out.apart k (hrow k hk).1, .inl (hrow k hk).1⟩) HG1.out (by rw [hlen]; exact row_base HO1.out 0 (fun k _ => Nat.zero_le _)) (by rw [hlen]; exact HAT.out)
    rw [hlen] at HF
    refine bodyPost_ret (v := .tuple #[.iface 74 (.slice A1 (t.is.length + 1) c1), .bool true, .pointer none]) ?_ rfl ⟨_, _, rfl, ⟨by rw [e1]; exact HF.1, fun h => (by cases h), ⟨z, (HG1.out.block cb (Rv.lt_of_blk HZ.out) (fun e => (HA.out.pB cb (HBL.out cb e.symm)).2 rfl)).trans HZ.out⟩,
      .grown HG1.out (fun b hb e => hb.1 (HBL.out b e.symm)), ⟨HG1.out.os, HG1.out.tape, HG1.out.output, HG1.out.size, fun k hk => HG1.out.block k (Nat.lt_of_lt_of_le hk HA.out.sB) (fun e => by have := (HA.out.pB k (HBL.out k e.symm)).1; omega)⟩⟩⟩
    simp only [results, show Tryz.f28.results = #[.tmp 10, .tmp 11, .tmp 12] by kernel_rfl]
    go_simp
  · have hta := not_arr ha.io hk
    have e1 : upd 4 tx [] t = .mk 4 0 .empty [] [t, tx] := by
      show fm 4 tx t = _
      unfold fm lsJ
      rw [if_pos rfl, if_neg hk]
      rfl
    have hal : Below w.heap.size w (w.alloc (.cells #[u, ux] 20)) := (Below.refl _ _).alloc (Nat.le_refl _) _
    have HRW := Lib.hid (World.ownsRow_lit (base := 0) (e := 20) (size := 1) w #[u, ux] 2 (Nat.zero_le _) (by simp [maxLen]) rfl)
    have hu3 := ha.io.cell.1
    unfold Value.cells at hu3
    have HAL := Lib.hid hal
    have HII := Lib.hid (((io_one ha.io.bound).append (io_one ha.ix.bound) (fun x h1 h2 => ha.apart x h1.1 h2.1)).below hal)
    clear ha hal hz
    go_enter Tryz.func28, Tryz.ntmps28
    go_wp2
    refine bodyPost_ret (v := .tuple #[.iface 74 (.slice (some ⟨w.heap.size, 0, none⟩) 2 2), .bool true, .pointer none]) ?_ rfl ⟨_, _, rfl, ⟨by
        rw [e1]
        refine arr_fin (ts := [t, tx]) (vs := [u, ux]) (W := w.alloc (.cells #[u, ux] 20)) HRW.out (fun k hk => ?_) HII.out (fun x hx => ⟨hx.elim (fun h => .inl h.1) (fun h => .inr (.inl h.1)), fun e => ?_⟩) ⟨Nat.le_refl _, fun _ _ _ => rfl⟩
        · injection hk with hk
          have hk : w.heap.size = k := hk
          exact .inr (.inr (by omega))
        · injection e with e
          have e : _ = w.heap.size := e
          have := hx.elim (fun h => h.2) (fun h => h.2)
          omega, fun h => (by cases h), ⟨z, (HAL.out.block cb (Rv.lt_of_blk HZ.out)).trans HZ.out⟩, .of_below HAL.out, HAL.out.mono HA.out.sB⟩⟩
    simp only [results, show Tryz.f28.results = #[.tmp 10, .tmp 11, .tmp 12] by kernel_rfl]
    go_simp
theorem upd_nil (m : Int) (hm : m = 0 ∨ m = 2 ∨ m = 4) : Upd m [] := by
  rcases hm with h | h | rfl
  · exact upd_nil_set m (.inl h)
  · exact upd_nil_set m (.inr h)
  · exact upd_nil_app
end Go.Proofs.YtmelgankbegjaaaGreatDoor.Js

set_option linter.unusedVariables false
set_option linter.unusedSimpArgs false
set_option maxRecDepth 100000
set_option maxHeartbeats 8000000
namespace Go.Proofs.YtmelgankbegjaaaGreatDoor.Js
open Go.RowKit Go.Proofs.YtmelgankbegjaaaGreatDoor.B

theorem Res.map {m : Int} {l : List Sp} {t tx : J} {p q : Nat → Prop} {b : Nat} {ux : Value} {w w2 w3 : World} {cb B : Nat} {ns : List ByteArray} {ts : List J} {vs : List Value} (hu : upd m tx l t = .mk t.k t.n t.s ns ts) (k5 : t.k = 5) (pb : p b)
    (hlt : b < w.heap.size) (hm : w3.ownsMap Tryz.prog 9 RH b ns.length (dat ns vs)) (hi : IOs (fun x => (p x ∧ x ≠ b) ∨ q x ∨ w.heap.size ≤ x) w2 ts vs) (ha : Ask t tx p q (.iface 75 (.map (some b))) ux w cb B)
    (hc : ∃ z : Int, w2.heap[cb]? = some (.cells #[.int .i64 z] 3 (0, 0))) (hs : Same (fun x => ¬ p x ∧ x ≠ cb) w w2) (hb : Below B w w2) (hg : w2.grownBy w3 (some b)) :
    Res m l t tx p q (.iface 75 (.map (some b))) w cb B (.iface 75 (.map (some b))) true w3 where
  io := by
    rw [hu, k5]
    exact obj_fin (.inl pb) hm hi (fun x hx => ⟨hx.imp (fun h => h.1) id, fun e => by
      subst e
      rcases hx with h | h | h
      · exact h.2 rfl
      · exact ha.apart x pb h
      · omega⟩) hg
  no := fun h => by cases h
  cur := hc.imp fun z hz => (hg.block cb (Rv.lt_of_blk hz) (fun e => by injection e with e; exact (ha.pB b pb).2 e.symm)).trans hz
  same := hs.trans (.grown hg (fun x hx e => by injection e with e; subst e; exact hx.1 pb))
  below := hb.grown hg (Nat.le_trans ha.sB hb.size) (fun k hk => by injection hk with hk; subst hk; exact (ha.pB b pb).1)
theorem Res.idle {m : Int} {l : List Sp} {t tx : J} {p q : Nat → Prop} {u ux : Value} {w w1 : World} {cb B : Nat} (hu : upd m tx l t = t) (ha : Ask t tx p q u ux w cb B) (hn : Nx cb B w w1) : Res m l t tx p q u w cb B u false w1 where
  io := by
    rw [hu]
    exact (ha.next hn).io.mono (fun x hx => .inl hx)
  no := fun _ => ⟨rfl, hu⟩
  cur := hn.cur
  same := hn.same.mono (fun x hx => hx.2)
  below := hn.below
theorem own_map_len {W : World} {b n : Nat} {ns : List ByteArray} {vs : List Value} (h : W.ownsMap Tryz.prog 9 RH b n (dat ns vs)) (hl : vs.length = ns.length) (hd : ns.Nodup) : W.ownsMap Tryz.prog 9 RH b ns.length (dat ns vs) := by
  have h2 := own_tight h
  rwa [(dat_facts _ ns vs rfl hl hd).2.1] at h2
theorem nodup_push {ns : List ByteArray} {x : ByteArray} (hd : ns.Nodup) (hx : x ∉ ns) : (ns ++ [x]).Nodup := by
  rw [List.nodup_append]
  exact ⟨hd, by simp, fun a ha b hb => by rw [List.mem_singleton.1 hb]; exact fun e => hx (e ▸ ha)⟩
theorem Ask.put_val {t tx : J} {p q P : Nat → Prop} {u ux : Value} {w1 : World} {cb B n0 : Nat} {vs : List Value} (h : Ask t tx p q u ux w1 cb B) (hn : n0 ≤ w1.heap.size) (hi : IOs P w1 t.is vs) (hP : ∀ x, P x → p x) (k : Nat) :
    IOs (fun x => P x ∨ q x ∨ n0 ≤ x) w1 (t.is.set k tx) (vs.set k ux) := by
  obtain ⟨o, oa, ob⟩ := hi.owner
  exact (IOs.put (q := q) (cb := cb) hi.len oa ob (h.ix.mono (fun x hx => .inr (.inl hx))) ⟨Nat.le_refl _, fun _ _ _ => rfl⟩ (fun e => (h.pB cb (hP _ e)).2 rfl) (fun x hx => h.apart x (hP x hx))).mono (fun x hx => hx.imp id (Or.imp id (Nat.le_trans hn)))
theorem look_sp {W : World} {b n : Nat} {ns : List ByteArray} {vs : List Value} (h : W.ownsMap Tryz.prog 9 RH b n (dat ns vs)) (hl : vs.length = ns.length) (hd : ns.Nodup) (i : Nat) (hi : i < ns.length) (x : ByteArray) (hx : ns[i] = x) (hs : x.size ≤ maxLen) :
    (Instr.lookup 75 (.map (some b)) (.string x) false).run Tryz.prog W = .ok (vs[i]'(by omega)) W ∧ (Instr.lookup 75 (.map (some b)) (.string x) true).run Tryz.prog W = .ok (.tuple #[vs[i]'(by omega), .bool true]) W := by
  subst hx
  exact ⟨look_at h hl hd i hi hs, look_ok_at h hl hd i hi hs⟩
theorem obj_no (m : Int) (hm : m = 0 ∨ m = 2 ∨ m = 4) (s : Sp) (r : List Sp) (hs : s.b = false) (hL : Ltr s) (hr : (segs r).length ≤ 1000) (t tx : J) (p q : Nat → Prop) (ux : Value) (w : World) (cb B : Nat) (b : Nat) (k5 : t.k = 5) (hf : fI t s = -1) (hr0 : r = []) (ha : Ask t tx p q (.iface 75 (.map (some b))) ux w cb B) :
    Calls Tryz.prog 33 #[.string (bs (34 :: (s.x.data.toList ++ 34 :: segs r))), .map (some b), ux, .int .i64 m, .pointer (some ⟨cb, 0, none⟩)] w (Out m (s :: r) t tx p q (.iface 75 (.map (some b))) w cb B) := by
  have NM : Hid (Calls Tryz.prog 38 #[.string (bs (34 :: (s.x.data.toList ++ 34 :: segs r))), .pointer (some ⟨cb, 0, none⟩)] w fun e w' => e = .returned (.tuple #[.string s.x, .string (bs (segs r)), .pointer none]) ∧ Nx cb B w w') := Lib.hid (by
    obtain ⟨z, hz⟩ := ha.cur
    refine (name_any s.x.data.toList (segs r) hL.2.2 (by have := hL.2.1; rw [Array.length_toList]; show s.x.size ≤ 1000; omega) hr cb z w hz).mono ?_
    rintro e w' ⟨rfl, z', w1, hb, rfl⟩
    rw [bs_list]
    exact ⟨rfl, .set hz hb ha.cB ha.sB⟩)
  have HA := Lib.hid ha
  have LN := Lib.hid (ha.wf.wg.kids.2.1 k5).1
  have ND := Lib.hid (ha.wf.wg.kids.2.1 k5).2
  have L8 := Lib.hid ha.wf.wg.kids.2.2.1
  have HBW : Hid (b < w.heap.size) := Lib.hid (by
    obtain ⟨b', vs, eb, pb, hm, hi⟩ := ha.io.map k5
    injection eb with _ e
    injection e with e
    injection e with e
    subst e
    exact hm.lt)
  have HSX : Hid (s.x.size ≤ maxLen) := Lib.hid (by have := hL.2.1; unfold maxLen; omega)
  generalize bs (34 :: (s.x.data.toList ++ 34 :: segs r)) = T at *
  clear ha hr
  subst hr0
  have hx : s.x ∉ t.ns := by
    unfold fI at hf
    rw [hs, if_neg (by simp), if_pos k5] at hf
    rcases idx_range (x := s.x) (l := t.ns) (i := 0) (Int.le_refl _) with h | ⟨k, h1, _⟩
    · exact h.2
    · omega
  have HX := Lib.hid hx
  have hne := nil_text
  have U0 : Hid (upd 0 tx [s] t = .mk t.k t.n t.s (t.ns ++ [s.x]) (t.is ++ [tx])) := Lib.hid (by
    show updJ _ _ [s] t = _
    rw [updJ_no _ _ _ _ _ hf]
    show addJ t s tx = _
    unfold addJ
    rw [hs, k5]
    simp)
  have UN : Hid (∀ m, m ≠ 0 → upd m tx [s] t = t) := Lib.hid (fun m hm => by
    show updJ _ _ [s] t = _
    rw [updJ_no _ _ _ _ _ hf]
    unfold am
    rw [if_neg hm])
  generalize s.x = sx at *
  generalize bs (segs []) = sr at *
  clear hL hf hx
  rcases hm with rfl | rfl | rfl
  · go_enter Tryz.func33, Tryz.ntmps33
    go_wp2_with (first
      | (go_at_call 38; (with_reducible refine NM.out.mono ?_); rintro e w1 ⟨rfl, hn⟩; have HN1 := Lib.hid hn; have HA1 := Lib.hid (HA.out.next hn); obtain ⟨b', vs, eb, pb, hm, hi⟩ := (HA.out.next hn).io.map k5; (injection eb with eb1 eb2); (injection eb2 with eb2); (injection eb2 with eb2); subst eb2; clear eb1; have HM1 := Lib.hid hm; have HI1 := Lib.hid hi; have HVL := Lib.hid (hi.len.trans LN.out.symm); have PB := Lib.hid pb; clear hn hm hi pb; have hlk := look_ok_no HM1.out HVL.out ND.out HX.out HSX.out)
      | (at_mapUpdate; refine wpList_mapUpdate_own _ rfl _ _ _ 75 rfl 9 20 law9 Tryz.underlying75 RH b t.ns.length _ rfl HM1.out (by have := L8.out; have := LN.out; unfold maxLen; omega) _ _ _ rfl rfl (key9 HSX.out) _ [] rfl ?_; intro w3 hm3 hg3; have HM3 := Lib.hid hm3; have HG3 := Lib.hid hg3; clear hm3 hg3; (try go_frame)))
    refine bodyPost_ret (v := .tuple #[.iface 75 (.map (some b)), .bool true, .pointer none]) ?_ rfl ⟨_, _, rfl, .map U0.out k5 PB.out HBW.out (by
          have h := HM3.out
          exact own_map_len (by rw [dat_push HVL.out.symm]; exact h) (by rw [List.length_append, List.length_append, HVL.out]; rfl) (nodup_push ND.out HX.out)) ((HI1.out.push HA1.out.ix (fun x h1 h2 => HA.out.apart x h1.1 h2)).mono (fun x hx => hx.imp id .inl)) HA.out HN1.out.cur (HN1.out.same.mono (fun x hx => hx.2)) HN1.out.below HG3.out⟩
    simp only [results, show Tryz.f33.results = #[.tmp 10, .tmp 11, .tmp 12] by kernel_rfl]
    go_simp
  · go_enter Tryz.func33, Tryz.ntmps33
    go_wp2_with (go_at_call 38; (with_reducible refine NM.out.mono ?_); rintro e w1 ⟨rfl, hn⟩; have HN1 := Lib.hid hn; have HA1 := Lib.hid (HA.out.next hn); obtain ⟨b', vs, eb, pb, hm, hi⟩ := (HA.out.next hn).io.map k5; (injection eb with eb1 eb2); (injection eb2 with eb2); (injection eb2 with eb2); subst eb2; clear eb1; have HM1 := Lib.hid hm; have HI1 := Lib.hid hi; have HVL := Lib.hid (hi.len.trans LN.out.symm); have PB := Lib.hid pb; clear hn hm hi pb; have hlk := look_ok_no HM1.out HVL.out ND.out HX.out HSX.out)
    refine bodyPost_ret (v := .tuple #[.iface 75 (.map (some b)), .bool false, .pointer none]) ?_ rfl ⟨_, _, rfl, .idle (UN.out 2 (by decide)) HA.out HN1.out⟩
    simp only [results, show Tryz.f33.results = #[.tmp 10, .tmp 11, .tmp 12] by kernel_rfl]
    go_simp
  · go_enter Tryz.func33, Tryz.ntmps33
    go_wp2_with (go_at_call 38; (with_reducible refine NM.out.mono ?_); rintro e w1 ⟨rfl, hn⟩; have HN1 := Lib.hid hn; have HA1 := Lib.hid (HA.out.next hn); obtain ⟨b', vs, eb, pb, hm, hi⟩ := (HA.out.next hn).io.map k5; (injection eb with eb1 eb2); (injection eb2 with eb2); (injection eb2 with eb2); subst eb2; clear eb1; have HM1 := Lib.hid hm; have HI1 := Lib.hid hi; have HVL := Lib.hid (hi.len.trans LN.out.symm); have PB := Lib.hid pb; clear hn hm hi pb; have hlk := look_ok_no HM1.out HVL.out ND.out HX.out HSX.out)
    refine bodyPost_ret (v := .tuple #[.iface 75 (.map (some b)), .bool false, .pointer none]) ?_ rfl ⟨_, _, rfl, .idle (UN.out 4 (by decide)) HA.out HN1.out⟩
    simp only [results, show Tryz.f33.results = #[.tmp 10, .tmp 11, .tmp 12] by kernel_rfl]
    go_simp
theorem obj_set (m : Int) (hm : m = 0 ∨ m = 2 ∨ m = 4) (s : Sp) (r : List Sp) (hs : s.b = false) (hL : Ltr s) (hr : (segs r).length ≤ 1000) (t tx : J) (p q : Nat → Prop) (ux : Value) (w : World) (cb B : Nat) (b : Nat) (k5 : t.k = 5) (hr0 : r = []) (hm2 : m ≠ 4) (k : Nat) (hf : fI t s = (k : Int)) (hk : k < t.is.length) (ha : Ask t tx p q (.iface 75 (.map (some b))) ux w cb B) :
    Calls Tryz.prog 33 #[.string (bs (34 :: (s.x.data.toList ++ 34 :: segs r))), .map (some b), ux, .int .i64 m, .pointer (some ⟨cb, 0, none⟩)] w (Out m (s :: r) t tx p q (.iface 75 (.map (some b))) w cb B) := by
  have NM : Hid (Calls Tryz.prog 38 #[.string (bs (34 :: (s.x.data.toList ++ 34 :: segs r))), .pointer (some ⟨cb, 0, none⟩)] w fun e w' => e = .returned (.tuple #[.string s.x, .string (bs (segs r)), .pointer none]) ∧ Nx cb B w w') := Lib.hid (by
    obtain ⟨z, hz⟩ := ha.cur
    refine (name_any s.x.data.toList (segs r) hL.2.2 (by have := hL.2.1; rw [Array.length_toList]; show s.x.size ≤ 1000; omega) hr cb z w hz).mono ?_
    rintro e w' ⟨rfl, z', w1, hb, rfl⟩
    rw [bs_list]
    exact ⟨rfl, .set hz hb ha.cB ha.sB⟩)
  have HA := Lib.hid ha
  have LN := Lib.hid (ha.wf.wg.kids.2.1 k5).1
  have ND := Lib.hid (ha.wf.wg.kids.2.1 k5).2
  have L8 := Lib.hid ha.wf.wg.kids.2.2.1
  have HBW : Hid (b < w.heap.size) := Lib.hid (by
    obtain ⟨b', vs, eb, pb, hm, hi⟩ := ha.io.map k5
    injection eb with _ e
    injection e with e
    injection e with e
    subst e
    exact hm.lt)
  have HSX : Hid (s.x.size ≤ maxLen) := Lib.hid (by have := hL.2.1; unfold maxLen; omega)
  generalize bs (34 :: (s.x.data.toList ++ 34 :: segs r)) = T at *
  clear ha hr
  have hfk : k < t.ns.length ∧ t.ns[k]? = some s.x := by
    unfold fI at hf
    rw [hs, if_neg (by simp), if_pos k5] at hf
    rcases idx_range (x := s.x) (l := t.ns) (i := 0) (Int.le_refl _) with h | ⟨j, h1, h2, _⟩
    · omega
    · have : j = k := by omega
      subst this
      exact ⟨(List.getElem?_eq_some_iff.1 h2).1, h2⟩
  have HKX : Hid (t.ns[k]'hfk.1 = s.x) := Lib.hid (by have h := hfk.2; rw [List.getElem?_eq_getElem hfk.1] at h; injection h)
  have hkn := hfk.1
  subst hr0
  have hne := nil_text
  have U0 : Hid (upd m tx [s] t = .mk t.k t.n t.s t.ns (t.is.set k tx)) := Lib.hid (by
    show updJ _ _ [s] t = _
    rw [updJ_at _ _ _ _ _ k hf hk]
    show J.mk t.k t.n t.s t.ns (t.is.set k (fm m tx _)) = _
    unfold fm
    rw [if_neg hm2])
  generalize s.x = sx at *
  generalize bs (segs []) = sr at *
  clear hL hf
  have hm : m = 0 ∨ m = 2 := by omega
  clear hm2
  rcases hm with rfl | rfl
  · go_enter Tryz.func33, Tryz.ntmps33
    go_wp2_with (first
      | (go_at_call 38; (with_reducible refine NM.out.mono ?_); rintro e w1 ⟨rfl, hn⟩; have HN1 := Lib.hid hn; have HA1 := Lib.hid (HA.out.next hn); obtain ⟨b', vs, eb, pb, hm, hi⟩ := (HA.out.next hn).io.map k5; (injection eb with eb1 eb2); (injection eb2 with eb2); (injection eb2 with eb2); subst eb2; clear eb1; have HM1 := Lib.hid hm; have HI1 := Lib.hid hi; have HVL := Lib.hid (hi.len.trans LN.out.symm); have PB := Lib.hid pb; clear hn hm hi pb; have hlk := (look_sp HM1.out HVL.out ND.out k hkn _ HKX.out HSX.out).2)
      | (at_mapUpdate; refine wpList_mapUpdate_own _ rfl _ _ _ 75 rfl 9 20 law9 Tryz.underlying75 RH b t.ns.length _ rfl HM1.out (by have := L8.out; have := LN.out; unfold maxLen; omega) _ _ _ rfl rfl (key9 HSX.out) _ [] rfl ?_; intro w3 hm3 hg3; have HM3 := Lib.hid hm3; have HG3 := Lib.hid hg3; clear hm3 hg3; (try go_frame)))
    refine bodyPost_ret (v := .tuple #[.iface 75 (.map (some b)), .bool true, .pointer none]) ?_ rfl ⟨_, _, rfl, .map U0.out k5 PB.out HBW.out (by
          have h := HM3.out
          rw [← HKX.out, dat_set HVL.out ND.out k hkn] at h
          exact own_map_len h (by rw [List.length_set]; exact HVL.out) ND.out) (HA1.out.put_val HN1.out.same.1 HI1.out (fun x hx => hx.1) k) HA.out HN1.out.cur (HN1.out.same.mono (fun x hx => hx.2)) HN1.out.below HG3.out⟩
    simp only [results, show Tryz.f33.results = #[.tmp 10, .tmp 11, .tmp 12] by kernel_rfl]
    go_simp
  · go_enter Tryz.func33, Tryz.ntmps33
    go_wp2_with (first
      | (go_at_call 38; (with_reducible refine NM.out.mono ?_); rintro e w1 ⟨rfl, hn⟩; have HN1 := Lib.hid hn; have HA1 := Lib.hid (HA.out.next hn); obtain ⟨b', vs, eb, pb, hm, hi⟩ := (HA.out.next hn).io.map k5; (injection eb with eb1 eb2); (injection eb2 with eb2); (injection eb2 with eb2); subst eb2; clear eb1; have HM1 := Lib.hid hm; have HI1 := Lib.hid hi; have HVL := Lib.hid (hi.len.trans LN.out.symm); have PB := Lib.hid pb; clear hn hm hi pb; have hlk := (look_sp HM1.out HVL.out ND.out k hkn _ HKX.out HSX.out).2)
      | (at_mapUpdate; refine wpList_mapUpdate_own _ rfl _ _ _ 75 rfl 9 20 law9 Tryz.underlying75 RH b t.ns.length _ rfl HM1.out (by have := L8.out; have := LN.out; unfold maxLen; omega) _ _ _ rfl rfl (key9 HSX.out) _ [] rfl ?_; intro w3 hm3 hg3; have HM3 := Lib.hid hm3; have HG3 := Lib.hid hg3; clear hm3 hg3; (try go_frame)))
    refine bodyPost_ret (v := .tuple #[.iface 75 (.map (some b)), .bool true, .pointer none]) ?_ rfl ⟨_, _, rfl, .map U0.out k5 PB.out HBW.out (by
          have h := HM3.out
          rw [← HKX.out, dat_set HVL.out ND.out k hkn] at h
          exact own_map_len h (by rw [List.length_set]; exact HVL.out) ND.out) (HA1.out.put_val HN1.out.same.1 HI1.out (fun x hx => hx.1) k) HA.out HN1.out.cur (HN1.out.same.mono (fun x hx => hx.2)) HN1.out.below HG3.out⟩
    simp only [results, show Tryz.f33.results = #[.tmp 10, .tmp 11, .tmp 12] by kernel_rfl]
    go_simp
theorem Ask.kid {t tx : J} {p q P : Nat → Prop} {u ux : Value} {w : World} {cb B : Nat} {o : Nat → Option Nat} {vs : List Value} (h : Ask t tx p q u ux w cb B) (oa : ∀ x i, o x = some i → P x) (hP : ∀ x, P x → p x) (k : Nat) (hk : k < t.is.length) (hv : k < vs.length)
    (ob : IO (fun x => o x = some k) w t.is[k] vs[k]) : Ask t.is[k] tx (fun x => o x = some k) q vs[k] ux w cb B :=
  ⟨h.wf.kids.1.get _ (List.getElem_mem hk), ob, h.ix, fun x hx => h.apart x (hP x (oa x k hx)), fun x hx => h.pB x (hP x (oa x k hx)), h.qc, h.cB, h.sB, h.two, h.sp, h.cur⟩
theorem Res.map0 {m : Int} {l : List Sp} {t tx : J} {p q : Nat → Prop} {b : Nat} {ux : Value} {w w2 : World} {cb B : Nat} {vs : List Value} (hu : upd m tx l t = t) (k5 : t.k = 5) (pb : p b)
    (hlt : b < w.heap.size) (hm : w2.ownsMap Tryz.prog 9 RH b t.ns.length (dat t.ns vs)) (hi : IOs (fun x => (p x ∧ x ≠ b) ∨ q x ∨ w.heap.size ≤ x) w2 t.is vs) (ha : Ask t tx p q (.iface 75 (.map (some b))) ux w cb B)
    (hc : ∃ z : Int, w2.heap[cb]? = some (.cells #[.int .i64 z] 3 (0, 0))) (hs : Same (fun x => ¬ p x ∧ x ≠ cb) w w2) (hb : Below B w w2) :
    Res m l t tx p q (.iface 75 (.map (some b))) w cb B (.iface 75 (.map (some b))) false w2 where
  io := by
    rw [hu]
    have h := obj_fin (R := fun x => p x ∨ q x ∨ w.heap.size ≤ x) (n := t.n) (s := t.s) (.inl pb) hm hi (fun x hx => ⟨hx.imp (fun h => h.1) id, fun e => by
      subst e
      rcases hx with h | h | h
      · exact h.2 rfl
      · exact ha.apart x pb h
      · omega⟩) (World.grownBy.refl w2 (some b))
    obtain ⟨k, n, s, ns, is⟩ := t
    have k5 : k = 5 := k5
    subst k5
    exact h
  no := fun _ => ⟨rfl, hu⟩
  cur := hc
  same := hs
  below := hb
theorem J.eta (t : J) : J.mk t.k t.n t.s t.ns t.is = t := by cases t; rfl
theorem segs_text (r : List Sp) (h : r ≠ []) : (bs (segs r)).toList.isEmpty = false := by
  refine bs_ne _ ?_
  obtain ⟨a, r, rfl⟩ := List.exists_cons_of_ne_nil h
  unfold segs seg
  rw [List.flatMap_cons]
  split <;> simp
theorem obj_app (m : Int) (hm : m = 0 ∨ m = 2 ∨ m = 4) (s : Sp) (r : List Sp) (hs : s.b = false) (hL : Ltr s) (hr : (segs r).length ≤ 1000) (IH : Upd m r) (t tx : J) (p q : Nat → Prop) (ux : Value) (w : World) (cb B : Nat) (b : Nat) (k5 : t.k = 5) (hm4 : m = 4) (hr0 : r = []) (k : Nat) (hf : fI t s = (k : Int)) (hk : k < t.is.length) (hw' : Way t.is[k] r) (ha : Ask t tx p q (.iface 75 (.map (some b))) ux w cb B) :
    Calls Tryz.prog 33 #[.string (bs (34 :: (s.x.data.toList ++ 34 :: segs r))), .map (some b), ux, .int .i64 m, .pointer (some ⟨cb, 0, none⟩)] w (Out m (s :: r) t tx p q (.iface 75 (.map (some b))) w cb B) := by
  have NM : Hid (Calls Tryz.prog 38 #[.string (bs (34 :: (s.x.data.toList ++ 34 :: segs r))), .pointer (some ⟨cb, 0, none⟩)] w fun e w' => e = .returned (.tuple #[.string s.x, .string (bs (segs r)), .pointer none]) ∧ Nx cb B w w') := Lib.hid (by
    obtain ⟨z, hz⟩ := ha.cur
    refine (name_any s.x.data.toList (segs r) hL.2.2 (by have := hL.2.1; rw [Array.length_toList]; show s.x.size ≤ 1000; omega) hr cb z w hz).mono ?_
    rintro e w' ⟨rfl, z', w1, hb, rfl⟩
    rw [bs_list]
    exact ⟨rfl, .set hz hb ha.cB ha.sB⟩)
  have HA := Lib.hid ha
  have LN := Lib.hid (ha.wf.wg.kids.2.1 k5).1
  have ND := Lib.hid (ha.wf.wg.kids.2.1 k5).2
  have L8 := Lib.hid ha.wf.wg.kids.2.2.1
  have HBW : Hid (b < w.heap.size) := Lib.hid (by
    obtain ⟨b', vs, eb, pb, hm, hi⟩ := ha.io.map k5
    injection eb with _ e
    injection e with e
    injection e with e
    subst e
    exact hm.lt)
  have HSX : Hid (s.x.size ≤ maxLen) := Lib.hid (by have := hL.2.1; unfold maxLen; omega)
  generalize bs (34 :: (s.x.data.toList ++ 34 :: segs r)) = T at *
  clear ha hr
  have hfk : k < t.ns.length ∧ t.ns[k]? = some s.x := by
    unfold fI at hf
    rw [hs, if_neg (by simp), if_pos k5] at hf
    rcases idx_range (x := s.x) (l := t.ns) (i := 0) (Int.le_refl _) with h | ⟨j, h1, h2, _⟩
    · omega
    · have : j = k := by omega
      subst this
      exact ⟨(List.getElem?_eq_some_iff.1 h2).1, h2⟩
  have HKX : Hid (t.ns[k]'hfk.1 = s.x) := Lib.hid (by have h := hfk.2; rw [List.getElem?_eq_getElem hfk.1] at h; injection h)
  have hkn := hfk.1
  have U0 : Hid (upd m tx (s :: r) t = .mk t.k t.n t.s t.ns (t.is.set k (upd m tx r t.is[k]))) := Lib.hid (updJ_at _ _ _ _ _ k hf hk)
  subst hr0
  have hne := nil_text
  unfold Upd at IH
  have IH := Lib.hid IH
  generalize s.x = sx at *
  generalize bs (segs []) = sr at *
  clear hL hf
  subst hm4
  go_enter Tryz.func33, Tryz.ntmps33
  go_upto_region 12 with (first
    | (go_at_call 38; (with_reducible refine NM.out.mono ?_); rintro e w1 ⟨rfl, hn⟩; have HN1 := Lib.hid hn; have HA1 := Lib.hid (HA.out.next hn); obtain ⟨b', vs, eb, pb, hm, hi⟩ := (HA.out.next hn).io.map k5; (injection eb with eb1 eb2); (injection eb2 with eb2); (injection eb2 with eb2); subst eb2; clear eb1; have HM1 := Lib.hid hm; have HI1 := Lib.hid hi; have HVL := Lib.hid (hi.len.trans LN.out.symm); have PB := Lib.hid pb; clear hn hm hi pb; have hkv : k < vs.length := (by have := HVL.out; omega); have hlk := (look_sp HM1.out HVL.out ND.out k hkn _ HKX.out HSX.out).2; obtain ⟨o, oa, ob⟩ := HI1.out.owner; have HOA := Lib.hid oa; have HOB := Lib.hid ob; have IC := Lib.hid (IH.out t.is[k] tx _ q vs[k] ux w1 cb B hw' (HA1.out.kid oa (fun x hx => hx.1) k hk hkv (ob k hk hkv))); clear oa ob; obtain ⟨v0, hv0⟩ : ∃ v, vs[k] = v := ⟨_, rfl⟩; rw [hv0] at hlk IC; have HV0 := Lib.hid hv0; clear hv0)
    | (go_at_call 28; (with_reducible refine IC.out.mono ?_); rintro e w2 ⟨u2, ch, rfl, hr⟩; have HR := Lib.hid hr; clear hr))
  have HM2 := Lib.hid (map_same (p := fun x => x = b) HM1.out rfl (HR.out.same.mono (fun x hx => ⟨fun e => (HOA.out x k e).2 hx, fun e => (HA.out.pB b PB.out).2 (hx ▸ e)⟩)))
  have HI2 := Lib.hid ((IOs.put HI1.out.len HOA.out HOB.out HR.out.io HR.out.same (fun e => (HA.out.pB cb e.1).2 rfl) (fun x hx => HA.out.apart x hx.1)).mono (q := fun x => (p x ∧ x ≠ b) ∨ q x ∨ w.heap.size ≤ x) (fun x hx => hx.imp id (Or.imp id (Nat.le_trans HN1.out.same.1))))
  have HS2 := Lib.hid ((HN1.out.same.mono (q := fun x => ¬ p x ∧ x ≠ cb) (fun x hx => hx.2)).trans (HR.out.same.mono (fun x hx => ⟨fun e => hx.1 (HOA.out x k e).1, hx.2⟩)))
  cases ch
  · have hno := HR.out.no rfl
    go_wp2
    refine bodyPost_ret (v := .tuple #[.iface 75 (.map (some b)), .bool false, .pointer none]) ?_ rfl ⟨_, _, rfl, .map0 (by rw [U0.out, hno.2, List.set_getElem_self, J.eta]) k5 PB.out HBW.out HM2.out (by
          have h := HI2.out
          rw [hno.2, hno.1, ← HV0.out, List.set_getElem_self, List.set_getElem_self] at h
          exact h) HA.out HR.out.cur HS2.out (HN1.out.below.trans HR.out.below)⟩
    simp only [results, show Tryz.f33.results = #[.tmp 10, .tmp 11, .tmp 12] by kernel_rfl]
    go_simp
  · go_wp2_with (at_mapUpdate; refine wpList_mapUpdate_own _ rfl _ _ _ 75 rfl 9 20 law9 Tryz.underlying75 RH b t.ns.length _ rfl HM2.out (by have := L8.out; have := LN.out; unfold maxLen; omega) _ _ _ rfl rfl (key9 HSX.out) _ [] rfl ?_; intro w3 hm3 hg3; have HM3 := Lib.hid hm3; have HG3 := Lib.hid hg3; clear hm3 hg3; (try go_frame))
    refine bodyPost_ret (v := .tuple #[.iface 75 (.map (some b)), .bool true, .pointer none]) ?_ rfl ⟨_, _, rfl, .map U0.out k5 PB.out HBW.out (by
          have h := HM3.out
          rw [← HKX.out, dat_set HVL.out ND.out k hkn] at h
          exact own_map_len h (by rw [List.length_set]; exact HVL.out) ND.out) HI2.out HA.out HR.out.cur HS2.out (HN1.out.below.trans HR.out.below) HG3.out⟩
    simp only [results, show Tryz.f33.results = #[.tmp 10, .tmp 11, .tmp 12] by kernel_rfl]
    go_simp
theorem obj_deep (m : Int) (hm : m = 0 ∨ m = 2 ∨ m = 4) (s : Sp) (r : List Sp) (hs : s.b = false) (hL : Ltr s) (hr : (segs r).length ≤ 1000) (IH : Upd m r) (t tx : J) (p q : Nat → Prop) (ux : Value) (w : World) (cb B : Nat) (b : Nat) (k5 : t.k = 5) (hr1 : r ≠ []) (k : Nat) (hf : fI t s = (k : Int)) (hk : k < t.is.length) (hw' : Way t.is[k] r) (ha : Ask t tx p q (.iface 75 (.map (some b))) ux w cb B) :
    Calls Tryz.prog 33 #[.string (bs (34 :: (s.x.data.toList ++ 34 :: segs r))), .map (some b), ux, .int .i64 m, .pointer (some ⟨cb, 0, none⟩)] w (Out m (s :: r) t tx p q (.iface 75 (.map (some b))) w cb B) := by
  have NM : Hid (Calls Tryz.prog 38 #[.string (bs (34 :: (s.x.data.toList ++ 34 :: segs r))), .pointer (some ⟨cb, 0, none⟩)] w fun e w' => e = .returned (.tuple #[.string s.x, .string (bs (segs r)), .pointer none]) ∧ Nx cb B w w') := Lib.hid (by
    obtain ⟨z, hz⟩ := ha.cur
    refine (name_any s.x.data.toList (segs r) hL.2.2 (by have := hL.2.1; rw [Array.length_toList]; show s.x.size ≤ 1000; omega) hr cb z w hz).mono ?_
    rintro e w' ⟨rfl, z', w1, hb, rfl⟩
    rw [bs_list]
    exact ⟨rfl, .set hz hb ha.cB ha.sB⟩)
  have HA := Lib.hid ha
  have LN := Lib.hid (ha.wf.wg.kids.2.1 k5).1
  have ND := Lib.hid (ha.wf.wg.kids.2.1 k5).2
  have L8 := Lib.hid ha.wf.wg.kids.2.2.1
  have HBW : Hid (b < w.heap.size) := Lib.hid (by
    obtain ⟨b', vs, eb, pb, hm, hi⟩ := ha.io.map k5
    injection eb with _ e
    injection e with e
    injection e with e
    subst e
    exact hm.lt)
  have HSX : Hid (s.x.size ≤ maxLen) := Lib.hid (by have := hL.2.1; unfold maxLen; omega)
  generalize bs (34 :: (s.x.data.toList ++ 34 :: segs r)) = T at *
  clear ha hr
  have hfk : k < t.ns.length ∧ t.ns[k]? = some s.x := by
    unfold fI at hf
    rw [hs, if_neg (by simp), if_pos k5] at hf
    rcases idx_range (x := s.x) (l := t.ns) (i := 0) (Int.le_refl _) with h | ⟨j, h1, h2, _⟩
    · omega
    · have : j = k := by omega
      subst this
      exact ⟨(List.getElem?_eq_some_iff.1 h2).1, h2⟩
  have HKX : Hid (t.ns[k]'hfk.1 = s.x) := Lib.hid (by have h := hfk.2; rw [List.getElem?_eq_getElem hfk.1] at h; injection h)
  have hkn := hfk.1
  have U0 : Hid (upd m tx (s :: r) t = .mk t.k t.n t.s t.ns (t.is.set k (upd m tx r t.is[k]))) := Lib.hid (updJ_at _ _ _ _ _ k hf hk)
  have hne := segs_text r hr1
  unfold Upd at IH
  have IH := Lib.hid IH
  generalize s.x = sx at *
  generalize bs (segs r) = sr at *
  clear hL hf
  rcases hm with rfl | rfl | rfl
  · go_enter Tryz.func33, Tryz.ntmps33
    go_upto_region 29 with (first
      | (go_at_call 38; (with_reducible refine NM.out.mono ?_); rintro e w1 ⟨rfl, hn⟩; have HN1 := Lib.hid hn; have HA1 := Lib.hid (HA.out.next hn); obtain ⟨b', vs, eb, pb, hm, hi⟩ := (HA.out.next hn).io.map k5; (injection eb with eb1 eb2); (injection eb2 with eb2); (injection eb2 with eb2); subst eb2; clear eb1; have HM1 := Lib.hid hm; have HI1 := Lib.hid hi; have HVL := Lib.hid (hi.len.trans LN.out.symm); have PB := Lib.hid pb; clear hn hm hi pb; have hkv : k < vs.length := (by have := HVL.out; omega); have hlk := (look_sp HM1.out HVL.out ND.out k hkn _ HKX.out HSX.out).1; obtain ⟨o, oa, ob⟩ := HI1.out.owner; have HOA := Lib.hid oa; have HOB := Lib.hid ob; have IC := Lib.hid (IH.out t.is[k] tx _ q vs[k] ux w1 cb B hw' (HA1.out.kid oa (fun x hx => hx.1) k hk hkv (ob k hk hkv))); clear oa ob; obtain ⟨v0, hv0⟩ : ∃ v, vs[k] = v := ⟨_, rfl⟩; rw [hv0] at hlk IC; have HV0 := Lib.hid hv0; clear hv0)
      | (go_at_call 28; (with_reducible refine IC.out.mono ?_); rintro e w2 ⟨u2, ch, rfl, hr⟩; have HR := Lib.hid hr; clear hr))
    have HM2 := Lib.hid (map_same (p := fun x => x = b) HM1.out rfl (HR.out.same.mono (fun x hx => ⟨fun e => (HOA.out x k e).2 hx, fun e => (HA.out.pB b PB.out).2 (hx ▸ e)⟩)))
    have HI2 := Lib.hid ((IOs.put HI1.out.len HOA.out HOB.out HR.out.io HR.out.same (fun e => (HA.out.pB cb e.1).2 rfl) (fun x hx => HA.out.apart x hx.1)).mono (q := fun x => (p x ∧ x ≠ b) ∨ q x ∨ w.heap.size ≤ x) (fun x hx => hx.imp id (Or.imp id (Nat.le_trans HN1.out.same.1))))
    have HS2 := Lib.hid ((HN1.out.same.mono (q := fun x => ¬ p x ∧ x ≠ cb) (fun x hx => hx.2)).trans (HR.out.same.mono (fun x hx => ⟨fun e => hx.1 (HOA.out x k e).1, hx.2⟩)))
    cases ch
    · have hno := HR.out.no rfl
      go_wp2
      refine bodyPost_ret (v := .tuple #[.iface 75 (.map (some b)), .bool false, .pointer none]) ?_ rfl ⟨_, _, rfl, .map0 (by rw [U0.out, hno.2, List.set_getElem_self, J.eta]) k5 PB.out HBW.out HM2.out (by
            have h := HI2.out
            rw [hno.2, hno.1, ← HV0.out, List.set_getElem_self, List.set_getElem_self] at h
            exact h) HA.out HR.out.cur HS2.out (HN1.out.below.trans HR.out.below)⟩
      simp only [results, show Tryz.f33.results = #[.tmp 10, .tmp 11, .tmp 12] by kernel_rfl]
      go_simp
    · go_wp2_with (at_mapUpdate; refine wpList_mapUpdate_own _ rfl _ _ _ 75 rfl 9 20 law9 Tryz.underlying75 RH b t.ns.length _ rfl HM2.out (by have := L8.out; have := LN.out; unfold maxLen; omega) _ _ _ rfl rfl (key9 HSX.out) _ [] rfl ?_; intro w3 hm3 hg3; have HM3 := Lib.hid hm3; have HG3 := Lib.hid hg3; clear hm3 hg3; (try go_frame))
      refine bodyPost_ret (v := .tuple #[.iface 75 (.map (some b)), .bool true, .pointer none]) ?_ rfl ⟨_, _, rfl, .map U0.out k5 PB.out HBW.out (by
            have h := HM3.out
            rw [← HKX.out, dat_set HVL.out ND.out k hkn] at h
            exact own_map_len h (by rw [List.length_set]; exact HVL.out) ND.out) HI2.out HA.out HR.out.cur HS2.out (HN1.out.below.trans HR.out.below) HG3.out⟩
      simp only [results, show Tryz.f33.results = #[.tmp 10, .tmp 11, .tmp 12] by kernel_rfl]
      go_simp
  · go_enter Tryz.func33, Tryz.ntmps33
    go_upto_region 29 with (first
      | (go_at_call 38; (with_reducible refine NM.out.mono ?_); rintro e w1 ⟨rfl, hn⟩; have HN1 := Lib.hid hn; have HA1 := Lib.hid (HA.out.next hn); obtain ⟨b', vs, eb, pb, hm, hi⟩ := (HA.out.next hn).io.map k5; (injection eb with eb1 eb2); (injection eb2 with eb2); (injection eb2 with eb2); subst eb2; clear eb1; have HM1 := Lib.hid hm; have HI1 := Lib.hid hi; have HVL := Lib.hid (hi.len.trans LN.out.symm); have PB := Lib.hid pb; clear hn hm hi pb; have hkv : k < vs.length := (by have := HVL.out; omega); have hlk := (look_sp HM1.out HVL.out ND.out k hkn _ HKX.out HSX.out).1; obtain ⟨o, oa, ob⟩ := HI1.out.owner; have HOA := Lib.hid oa; have HOB := Lib.hid ob; have IC := Lib.hid (IH.out t.is[k] tx _ q vs[k] ux w1 cb B hw' (HA1.out.kid oa (fun x hx => hx.1) k hk hkv (ob k hk hkv))); clear oa ob; obtain ⟨v0, hv0⟩ : ∃ v, vs[k] = v := ⟨_, rfl⟩; rw [hv0] at hlk IC; have HV0 := Lib.hid hv0; clear hv0)
      | (go_at_call 28; (with_reducible refine IC.out.mono ?_); rintro e w2 ⟨u2, ch, rfl, hr⟩; have HR := Lib.hid hr; clear hr))
    have HM2 := Lib.hid (map_same (p := fun x => x = b) HM1.out rfl (HR.out.same.mono (fun x hx => ⟨fun e => (HOA.out x k e).2 hx, fun e => (HA.out.pB b PB.out).2 (hx ▸ e)⟩)))
    have HI2 := Lib.hid ((IOs.put HI1.out.len HOA.out HOB.out HR.out.io HR.out.same (fun e => (HA.out.pB cb e.1).2 rfl) (fun x hx => HA.out.apart x hx.1)).mono (q := fun x => (p x ∧ x ≠ b) ∨ q x ∨ w.heap.size ≤ x) (fun x hx => hx.imp id (Or.imp id (Nat.le_trans HN1.out.same.1))))
    have HS2 := Lib.hid ((HN1.out.same.mono (q := fun x => ¬ p x ∧ x ≠ cb) (fun x hx => hx.2)).trans (HR.out.same.mono (fun x hx => ⟨fun e => hx.1 (HOA.out x k e).1, hx.2⟩)))
    cases ch
    · have hno := HR.out.no rfl
      go_wp2
      refine bodyPost_ret (v := .tuple #[.iface 75 (.map (some b)), .bool false, .pointer none]) ?_ rfl ⟨_, _, rfl, .map0 (by rw [U0.out, hno.2, List.set_getElem_self, J.eta]) k5 PB.out HBW.out HM2.out (by
            have h := HI2.out
            rw [hno.2, hno.1, ← HV0.out, List.set_getElem_self, List.set_getElem_self] at h
            exact h) HA.out HR.out.cur HS2.out (HN1.out.below.trans HR.out.below)⟩
      simp only [results, show Tryz.f33.results = #[.tmp 10, .tmp 11, .tmp 12] by kernel_rfl]
      go_simp
    · go_wp2_with (at_mapUpdate; refine wpList_mapUpdate_own _ rfl _ _ _ 75 rfl 9 20 law9 Tryz.underlying75 RH b t.ns.length _ rfl HM2.out (by have := L8.out; have := LN.out; unfold maxLen; omega) _ _ _ rfl rfl (key9 HSX.out) _ [] rfl ?_; intro w3 hm3 hg3; have HM3 := Lib.hid hm3; have HG3 := Lib.hid hg3; clear hm3 hg3; (try go_frame))
      refine bodyPost_ret (v := .tuple #[.iface 75 (.map (some b)), .bool true, .pointer none]) ?_ rfl ⟨_, _, rfl, .map U0.out k5 PB.out HBW.out (by
            have h := HM3.out
            rw [← HKX.out, dat_set HVL.out ND.out k hkn] at h
            exact own_map_len h (by rw [List.length_set]; exact HVL.out) ND.out) HI2.out HA.out HR.out.cur HS2.out (HN1.out.below.trans HR.out.below) HG3.out⟩
      simp only [results, show Tryz.f33.results = #[.tmp 10, .tmp 11, .tmp 12] by kernel_rfl]
      go_simp
  · go_enter Tryz.func33, Tryz.ntmps33
    go_upto_region 29 with (first
      | (go_at_call 38; (with_reducible refine NM.out.mono ?_); rintro e w1 ⟨rfl, hn⟩; have HN1 := Lib.hid hn; have HA1 := Lib.hid (HA.out.next hn); obtain ⟨b', vs, eb, pb, hm, hi⟩ := (HA.out.next hn).io.map k5; (injection eb with eb1 eb2); (injection eb2 with eb2); (injection eb2 with eb2); subst eb2; clear eb1; have HM1 := Lib.hid hm; have HI1 := Lib.hid hi; have HVL := Lib.hid (hi.len.trans LN.out.symm); have PB := Lib.hid pb; clear hn hm hi pb; have hkv : k < vs.length := (by have := HVL.out; omega); have hlk := (look_sp HM1.out HVL.out ND.out k hkn _ HKX.out HSX.out).1; obtain ⟨o, oa, ob⟩ := HI1.out.owner; have HOA := Lib.hid oa; have HOB := Lib.hid ob; have IC := Lib.hid (IH.out t.is[k] tx _ q vs[k] ux w1 cb B hw' (HA1.out.kid oa (fun x hx => hx.1) k hk hkv (ob k hk hkv))); clear oa ob; obtain ⟨v0, hv0⟩ : ∃ v, vs[k] = v := ⟨_, rfl⟩; rw [hv0] at hlk IC; have HV0 := Lib.hid hv0; clear hv0)
      | (go_at_call 28; (with_reducible refine IC.out.mono ?_); rintro e w2 ⟨u2, ch, rfl, hr⟩; have HR := Lib.hid hr; clear hr))
    have HM2 := Lib.hid (map_same (p := fun x => x = b) HM1.out rfl (HR.out.same.mono (fun x hx => ⟨fun e => (HOA.out x k e).2 hx, fun e => (HA.out.pB b PB.out).2 (hx ▸ e)⟩)))
    have HI2 := Lib.hid ((IOs.put HI1.out.len HOA.out HOB.out HR.out.io HR.out.same (fun e => (HA.out.pB cb e.1).2 rfl) (fun x hx => HA.out.apart x hx.1)).mono (q := fun x => (p x ∧ x ≠ b) ∨ q x ∨ w.heap.size ≤ x) (fun x hx => hx.imp id (Or.imp id (Nat.le_trans HN1.out.same.1))))
    have HS2 := Lib.hid ((HN1.out.same.mono (q := fun x => ¬ p x ∧ x ≠ cb) (fun x hx => hx.2)).trans (HR.out.same.mono (fun x hx => ⟨fun e => hx.1 (HOA.out x k e).1, hx.2⟩)))
    cases ch
    · have hno := HR.out.no rfl
      go_wp2
      refine bodyPost_ret (v := .tuple #[.iface 75 (.map (some b)), .bool false, .pointer none]) ?_ rfl ⟨_, _, rfl, .map0 (by rw [U0.out, hno.2, List.set_getElem_self, J.eta]) k5 PB.out HBW.out HM2.out (by
            have h := HI2.out
            rw [hno.2, hno.1, ← HV0.out, List.set_getElem_self, List.set_getElem_self] at h
            exact h) HA.out HR.out.cur HS2.out (HN1.out.below.trans HR.out.below)⟩
      simp only [results, show Tryz.f33.results = #[.tmp 10, .tmp 11, .tmp 12] by kernel_rfl]
      go_simp
    · go_wp2_with (at_mapUpdate; refine wpList_mapUpdate_own _ rfl _ _ _ 75 rfl 9 20 law9 Tryz.underlying75 RH b t.ns.length _ rfl HM2.out (by have := L8.out; have := LN.out; unfold maxLen; omega) _ _ _ rfl rfl (key9 HSX.out) _ [] rfl ?_; intro w3 hm3 hg3; have HM3 := Lib.hid hm3; have HG3 := Lib.hid hg3; clear hm3 hg3; (try go_frame))
      refine bodyPost_ret (v := .tuple #[.iface 75 (.map (some b)), .bool true, .pointer none]) ?_ rfl ⟨_, _, rfl, .map U0.out k5 PB.out HBW.out (by
            have h := HM3.out
            rw [← HKX.out, dat_set HVL.out ND.out k hkn] at h
            exact own_map_len h (by rw [List.length_set]; exact HVL.out) ND.out) HI2.out HA.out HR.out.cur HS2.out (HN1.out.below.trans HR.out.below) HG3.out⟩
      simp only [results, show Tryz.f33.results = #[.tmp 10, .tmp 11, .tmp 12] by kernel_rfl]
      go_simp
/-- updateObject. -/
theorem obj_any (m : Int) (hm : m = 0 ∨ m = 2 ∨ m = 4) (s : Sp) (r : List Sp) (hs : s.b = false) (hL : Ltr s) (hr : (segs r).length ≤ 1000) (IH : Upd m r) (t tx : J) (p q : Nat → Prop) (ux : Value) (w : World) (cb B : Nat) (b : Nat) (k5 : t.k = 5) (hw : Way t (s :: r)) (ha : Ask t tx p q (.iface 75 (.map (some b))) ux w cb B) :
    Calls Tryz.prog 33 #[.string (bs (34 :: (s.x.data.toList ++ 34 :: segs r))), .map (some b), ux, .int .i64 m, .pointer (some ⟨cb, 0, none⟩)] w (Out m (s :: r) t tx p q (.iface 75 (.map (some b))) w cb B) := by
  cases hw with
  | cons _ _ _ k hf hk hw' =>
    by_cases hr0 : r = []
    · by_cases hm4 : m = 4
      · exact obj_app m hm s r hs hL hr IH t tx p q ux w cb B b k5 hm4 hr0 k hf hk hw' ha
      · exact obj_set m hm s r hs hL hr t tx p q ux w cb B b k5 hr0 hm4 k hf hk ha
    · exact obj_deep m hm s r hs hL hr IH t tx p q ux w cb B b k5 hr0 k hf hk hw' ha
  | last _ _ hf _ => exact obj_no m hm s [] hs hL hr t tx p q ux w cb B b k5 hf rfl ha
end Go.Proofs.YtmelgankbegjaaaGreatDoor.Js

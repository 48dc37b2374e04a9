/- Part j of the chain. Conditions: those written at each lemma. -/
import Derived.Test.YtmelgankbegjaaaGreatDoorGi
import Derived.Test.YtmelgankbegjaaaGreatDoorGh
set_option linter.unusedVariables false
set_option linter.unusedSimpArgs false
set_option maxRecDepth 100000
set_option maxHeartbeats 8000000
namespace Go.Proofs.YtmelgankbegjaaaGreatDoor.Js
open Go.RowKit Go.Proofs.YtmelgankbegjaaaGreatDoor.B

theorem Res.arr {m : Int} {l : List Sp} {t tx : J} {p q : Nat → Prop} {g c : Nat} {ux : Value} {w w2 w3 : World} {cb B : Nat} {ts : List J} {vs : List Value} (hu : upd m tx l t = .mk t.k t.n t.s t.ns ts) (k4 : t.k = 4) (hlen : ts.length = t.is.length) (pg : p g)
    (hlt : g < w.heap.size) (hr : w3.ownsRow 0 20 1 (.slice (some ⟨g, 0, none⟩) t.is.length c) t.is.length vs) (hi : IOs (fun x => (p x ∧ x ≠ g) ∨ q x ∨ w.heap.size ≤ x) w2 ts vs) (ha : Ask t tx p q (.iface 74 (.slice (some ⟨g, 0, none⟩) t.is.length c)) ux w cb B)
    (hc : ∃ z : Int, w2.heap[cb]? = some (.cells #[.int .i64 z] 3 (0, 0))) (hs : Same (fun x => ¬ p x ∧ x ≠ cb) w w2) (hb : Below B w w2) (hg : w2.grownBy w3 (some g)) :
    Res m l t tx p q (.iface 74 (.slice (some ⟨g, 0, none⟩) t.is.length c)) w cb B (.iface 74 (.slice (some ⟨g, 0, none⟩) t.is.length c)) true w3 where
  io := by
    rw [hu, k4, ← hlen]
    rw [← hlen] at hr
    refine arr_fin hr (fun k hk => ?_) hi (fun x hx => ⟨hx.imp (fun h => h.1) id, fun e => ?_⟩) (.grown hg (fun x hx e => ?_))
    · injection hk with hk
      exact .inl (hk ▸ pg)
    · injection e with e
      have e : x = g := e
      subst e
      rcases hx with h | h | h
      · exact h.2 rfl
      · exact ha.apart x pg h
      · omega
    · injection e with e
      subst e
      rcases hx with h | h | h
      · exact h.2 rfl
      · exact ha.apart x pg h
      · omega
  no := fun h => by cases h
  cur := hc.imp fun z hz => (hg.block cb (Rv.lt_of_blk hz) (fun e => by injection e with e; exact (ha.pB g pg).2 e.symm)).trans hz
  same := hs.trans (.grown hg (fun x hx e => by injection e with e; subst e; exact hx.1 pg))
  below := hb.grown hg (Nat.le_trans ha.sB hb.size) (fun k hk => by injection hk with hk; subst hk; exact (ha.pB g pg).1)
theorem Res.arr0 {m : Int} {l : List Sp} {t tx : J} {p q : Nat → Prop} {g c : Nat} {ux : Value} {w w2 : World} {cb B : Nat} {vs : List Value} (hu : upd m tx l t = t) (k4 : t.k = 4) (pg : p g)
    (hlt : g < w.heap.size) (hr : w2.ownsRow 0 20 1 (.slice (some ⟨g, 0, none⟩) t.is.length c) t.is.length vs) (hi : IOs (fun x => (p x ∧ x ≠ g) ∨ q x ∨ w.heap.size ≤ x) w2 t.is vs) (ha : Ask t tx p q (.iface 74 (.slice (some ⟨g, 0, none⟩) t.is.length c)) ux w cb B)
    (hc : ∃ z : Int, w2.heap[cb]? = some (.cells #[.int .i64 z] 3 (0, 0))) (hs : Same (fun x => ¬ p x ∧ x ≠ cb) w w2) (hb : Below B w w2) :
    Res m l t tx p q (.iface 74 (.slice (some ⟨g, 0, none⟩) t.is.length c)) w cb B (.iface 74 (.slice (some ⟨g, 0, none⟩) t.is.length c)) false w2 where
  io := by
    have h := Res.arr (m := m) (l := l) (t := t) (tx := tx) (p := p) (q := q) (w := w) (w2 := w2) (w3 := w2) (cb := cb) (B := B) (ts := t.is) (vs := vs) (ux := ux) (by rw [hu, J.eta]) k4 rfl pg hlt hr hi ha hc hs hb (World.grownBy.refl w2 _)
    exact h.io
  no := fun _ => ⟨rfl, hu⟩
  cur := hc
  same := hs
  below := hb
theorem arr_no (m : Int) (hm : m = 0 ∨ m = 2 ∨ m = 4) (s : Sp) (r : List Sp) (hs : s.b = true) (hL : Ltr s) (t tx : J) (p q : Nat → Prop) (ux : Value) (w : World) (cb B : Nat) (A : Option Addr) (c : Nat) (k4 : t.k = 4) (hf : fI t s = -1) (hr0 : r = []) (ha : Ask t tx p q (.iface 74 (.slice A t.is.length c)) ux w cb B) :
    Calls Tryz.prog 35 #[.string (bs [dg s.i]), .string (bs (segs r)), .slice A t.is.length c, ux, .int .i64 m, .pointer (some ⟨cb, 0, none⟩)] w (Out m (s :: r) t tx p q (.iface 74 (.slice A t.is.length c)) w cb B) := by
  have L8 := ha.wf.wg.kids.2.2.1
  have hPI := fun (last : Int) h1 h2 => pidx_any s.i hL.1 last h1 h2 cb w ha.sp
  obtain ⟨z, hz⟩ := ha.cur
  have HZ := Lib.hid hz
  have hux3 := ha.ix.cell.1
  have hux := ha.ix.cell.2
  unfold Value.cells at hux3
  have hst := fun W a m => run_store Tryz.prog W a ux m hux
  obtain ⟨A', c', vs, ea, ho, hbl, hi⟩ := ha.io.arr k4
  (injection ea with _ ea); (injection ea with ea1 _ ea2); subst ea1; subst ea2
  subst hr0
  have hge : t.is.length ≤ s.i := by
    unfold fI at hf
    rw [hs, if_pos rfl] at hf
    by_cases h : t.k = 4 ∧ s.i < t.is.length
    · rw [if_pos h] at hf; omega
    · exact Nat.le_of_not_lt (fun e => h ⟨k4, e⟩)
  have PI := Lib.hid (hPI ((t.is.length : Int) - 1) (by omega) (by omega))
  rw [if_pos (by omega : (t.is.length : Int) - 1 < s.i), decide_eq_true (by omega : (t.is.length : Int) - 1 < s.i)] at PI
  have hw4 : t.n = 0 ∧ t.s = .empty ∧ t.ns = [] := by
    have h := ha.wf
    obtain ⟨k, n, s, ns, is⟩ := t
    have k4 : k = 4 := k4
    rcases h with ⟨h, _⟩ | ⟨h, _⟩ | ⟨h, _⟩ | ⟨h, _⟩ | ⟨_, h1, h2, h3, _⟩ | ⟨h, _⟩ <;> first | omega | exact ⟨h1, h2, h3⟩
  have U0 : Hid (upd 0 tx [s] t = .mk 4 0 .empty [] (t.is ++ [tx])) := Lib.hid (by
    show updJ _ _ [s] t = _
    rw [updJ_no _ _ _ _ _ hf]
    show addJ t s tx = _
    unfold addJ
    rw [hs, k4, hw4.1, hw4.2.1, hw4.2.2]
    simp)
  have UN : Hid (∀ m, m ≠ 0 → upd m tx [s] t = t) := Lib.hid (fun m hm => by
    show updJ _ _ [s] t = _
    rw [updJ_no _ _ _ _ _ hf]
    unfold am
    rw [if_neg hm])
  have HA := Lib.hid ha
  have HO := Lib.hid ho
  have HI := Lib.hid hi
  have HBL := Lib.hid hbl
  generalize bs [dg s.i] = sd at *
  generalize bs (segs []) = sr at *
  clear hL hf hPI hw4 ha ho hi hbl hz
  rcases hm with rfl | rfl | rfl
  · go_enter Tryz.func35, Tryz.ntmps35
    go_wp2_with (first
      | (go_at_call 39; (with_reducible refine PI.out.mono ?_); rintro e w1 ⟨kk, rfl, hk1, hk2, hb⟩; have HN1 := Lib.hid (Nx.quiet HZ.out hb HA.out.sB : Nx cb B w w1); have HA1 := Lib.hid (HA.out.next HN1.out); have HKK := Lib.hid hk1; obtain ⟨y0, y1, y2⟩ := Rv.cells3 hk1; have HO1 := Lib.hid (row_same (p := fun _ => True) HO.out (fun _ _ => trivial) (.of_below hb)); have HI1 := Lib.hid (HI.out.below hb); clear hk1 hb; skip)
      | (at_builtin; refine app1 (w0 := w1) 0 rfl (.tmp 173) (.tmp 175) 74 20 .nilIface 1 16 rfl Tryz.underlying74 info20 rfl (by omega) (by omega) _ _ _ _ rfl rfl rfl (by intro x hx; rw [List.mem_singleton.1 hx]; exact hux) HO1.out (Below.refl _ _) (Nat.zero_le _) (by omega) ?_; intro v3 w3 hown1 hb1 hg1 hat1; obtain ⟨A1, c1, hv, -, -⟩ := (Rd.of_own hown1).shape; subst hv; have HO3 := Lib.hid hown1; have HG3 := Lib.hid hg1; have HAT := Lib.hid hat1; clear hown1 hb1 hg1 hat1))
    have hrow : ∀ k, (Value.slice A t.is.length c).ownBlock = some k → p k ∧ k < w.heap.size := fun k hk => ⟨HBL.out k hk, (HO.out.lt k hk).2⟩
    have hlen : (t.is ++ [tx]).length = t.is.length + 1 := by simp
    have HF := mia_fin (p := p) (q := q) (P := fun x => p x ∧ some x ≠ (Value.slice A t.is.length c).ownBlock) (w := w1) (W := w1) (W' := w3) (ts := t.is) (us := [tx]) (v5 := .slice A t.is.length c) (A := A1) (c := c1) (vs := vs) (ws := [ux]) HA.out.apart
      ⟨Nat.le_refl _, fun _ _ _ => rfl⟩ HI1.out (fun x hx => hx) (io_one HA1.out.ix) (fun k hk => ⟨HA.out.apart k (hrow k hk).1, .inl (hrow k hk).1⟩) HG3.out (by rw [hlen]; exact row_base HO3.out 0 (fun k _ => Nat.zero_le _)) (by rw [hlen]; exact HAT.out)
    rw [hlen] at HF
    obtain ⟨z1, hz1⟩ := HN1.out.cur
    refine bodyPost_ret (v := .tuple #[.iface 74 (.slice A1 (t.is.length + 1) c1), .bool true, .pointer none]) ?_ rfl ⟨_, _, rfl, ⟨by rw [U0.out]; exact HF.1.mono (fun x hx => hx.imp id (Or.imp id (Nat.le_trans HN1.out.same.1))), fun h => (by cases h),
          ⟨z1, (HG3.out.block cb (Rv.lt_of_blk hz1) (fun e => (HA.out.pB cb (HBL.out cb e.symm)).2 rfl)).trans hz1⟩,
          (HN1.out.same.mono (fun x hx => hx.2)).trans (.grown HG3.out (fun b hb e => hb.1 (HBL.out b e.symm))), HN1.out.below.grown HG3.out (Nat.le_trans HA.out.sB HN1.out.same.1) (fun k hk => (HA.out.pB k (HBL.out k hk)).1)⟩⟩
    simp only [results, show Tryz.f35.results = #[.tmp 12, .tmp 13, .tmp 14] by kernel_rfl]
    go_simp
  · go_enter Tryz.func35, Tryz.ntmps35
    go_wp2_with (go_at_call 39; (with_reducible refine PI.out.mono ?_); rintro e w1 ⟨kk, rfl, hk1, hk2, hb⟩; have HN1 := Lib.hid (Nx.quiet HZ.out hb HA.out.sB : Nx cb B w w1); have HA1 := Lib.hid (HA.out.next HN1.out); have HKK := Lib.hid hk1; obtain ⟨y0, y1, y2⟩ := Rv.cells3 hk1; have HO1 := Lib.hid (row_same (p := fun _ => True) HO.out (fun _ _ => trivial) (.of_below hb)); have HI1 := Lib.hid (HI.out.below hb); clear hk1 hb; skip)
    refine bodyPost_ret (v := .tuple #[.iface 74 (.slice A t.is.length c), .bool false, .pointer none]) ?_ rfl ⟨_, _, rfl, .idle (UN.out 2 (by decide)) HA.out HN1.out⟩
    simp only [results, show Tryz.f35.results = #[.tmp 12, .tmp 13, .tmp 14] by kernel_rfl]
    go_simp
  · go_enter Tryz.func35, Tryz.ntmps35
    go_wp2_with (go_at_call 39; (with_reducible refine PI.out.mono ?_); rintro e w1 ⟨kk, rfl, hk1, hk2, hb⟩; have HN1 := Lib.hid (Nx.quiet HZ.out hb HA.out.sB : Nx cb B w w1); have HA1 := Lib.hid (HA.out.next HN1.out); have HKK := Lib.hid hk1; obtain ⟨y0, y1, y2⟩ := Rv.cells3 hk1; have HO1 := Lib.hid (row_same (p := fun _ => True) HO.out (fun _ _ => trivial) (.of_below hb)); have HI1 := Lib.hid (HI.out.below hb); clear hk1 hb; skip)
    refine bodyPost_ret (v := .tuple #[.iface 74 (.slice A t.is.length c), .bool false, .pointer none]) ?_ rfl ⟨_, _, rfl, .idle (UN.out 4 (by decide)) HA.out HN1.out⟩
    simp only [results, show Tryz.f35.results = #[.tmp 12, .tmp 13, .tmp 14] by kernel_rfl]
    go_simp
theorem arr_set (m : Int) (hm : m = 0 ∨ m = 2 ∨ m = 4) (s : Sp) (r : List Sp) (hs : s.b = true) (hL : Ltr s) (t tx : J) (p q : Nat → Prop) (ux : Value) (w : World) (cb B : Nat) (A : Option Addr) (c : Nat) (k4 : t.k = 4) (hr0 : r = []) (hm2 : m ≠ 4) (k : Nat) (hf : fI t s = (k : Int)) (hk : k < t.is.length) (ha : Ask t tx p q (.iface 74 (.slice A t.is.length c)) ux w cb B) :
    Calls Tryz.prog 35 #[.string (bs [dg s.i]), .string (bs (segs r)), .slice A t.is.length c, ux, .int .i64 m, .pointer (some ⟨cb, 0, none⟩)] w (Out m (s :: r) t tx p q (.iface 74 (.slice A t.is.length c)) w cb B) := by
  have L8 := ha.wf.wg.kids.2.2.1
  have hPI := fun (last : Int) h1 h2 => pidx_any s.i hL.1 last h1 h2 cb w ha.sp
  obtain ⟨z, hz⟩ := ha.cur
  have HZ := Lib.hid hz
  have hux3 := ha.ix.cell.1
  have hux := ha.ix.cell.2
  unfold Value.cells at hux3
  have hst := fun W a m => run_store Tryz.prog W a ux m hux
  obtain ⟨A', c', vs, ea, ho, hbl, hi⟩ := ha.io.arr k4
  (injection ea with _ ea); (injection ea with ea1 _ ea2); subst ea1; subst ea2
  have hik : s.i = k := by
    unfold fI at hf
    rw [hs, if_pos rfl] at hf
    by_cases h : t.k = 4 ∧ s.i < t.is.length
    · rw [if_pos h] at hf; omega
    · rw [if_neg h] at hf; omega
  have PI := Lib.hid (hPI ((t.is.length : Int) - 1) (by omega) (by omega))
  rw [if_neg (by omega : ¬ (t.is.length : Int) - 1 < s.i), decide_eq_false (by omega : ¬ (t.is.length : Int) - 1 < s.i), show ((s.i : Nat) : Int) = (k : Int) by omega] at PI
  have hg : ∃ g, A = some ⟨g, 0, none⟩ := by
    rcases ho.2 with ⟨e, _⟩ | ⟨g, cap, cur, e, _⟩
    · injection e with _ e _
      omega
    · injection e with e _ _
      exact ⟨g, e⟩
  obtain ⟨g, rfl⟩ := hg
  have PG := Lib.hid (hbl g rfl)
  have HGW := Lib.hid (ho.lt g rfl).2
  have HVL := Lib.hid hi.len
  have HA := Lib.hid ha
  have HO := Lib.hid ho
  have HI := Lib.hid (hi.bound.mono (q := fun x => (p x ∧ x ≠ g) ∧ x < w.heap.size) (fun x hx => ⟨⟨hx.1.1, fun e => hx.1.2 (by rw [e]; rfl)⟩, hx.2⟩))
  clear hPI hi hbl ho ha
  subst hr0
  have hne := nil_text
  have U0 : Hid (upd m tx [s] t = .mk t.k t.n t.s t.ns (t.is.set k tx)) := Lib.hid (by
    show updJ _ _ [s] t = _
    rw [updJ_at _ _ _ _ _ k hf hk]
    show J.mk t.k t.n t.s t.ns (t.is.set k (fm m tx _)) = _
    unfold fm
    rw [if_neg hm2])
  generalize bs [dg s.i] = sd at *
  generalize bs (segs []) = sr at *
  clear hL hf hz
  have hm : m = 0 ∨ m = 2 := by omega
  clear hm2
  rcases hm with rfl | rfl
  · go_enter Tryz.func35, Tryz.ntmps35
    go_wp2_with (go_at_call 39; (with_reducible refine PI.out.mono ?_); rintro e w1 ⟨kk, rfl, hk1, hk2, hb⟩; have HN1 := Lib.hid (Nx.quiet HZ.out hb HA.out.sB : Nx cb B w w1); have HA1 := Lib.hid (HA.out.next HN1.out); have HKK := Lib.hid hk1; obtain ⟨y0, y1, y2⟩ := Rv.cells3 hk1; have HO1 := Lib.hid (row_same (p := fun _ => True) HO.out (fun _ _ => trivial) (.of_below hb)); have HI1 := Lib.hid (HI.out.below hb); clear hk1 hb; have hkv : k < vs.length := (by rw [HVL.out]; exact hk); have yk := HO1.out.cellAt k (by omega); rw [List.getElem?_eq_getElem hkv] at yk; have fk := HO1.out.frozenAt k)
    refine bodyPost_ret (v := .tuple #[.iface 74 (.slice (some ⟨g, 0, none⟩) t.is.length c), .bool true, .pointer none]) ?_ rfl ⟨_, _, rfl, .arr U0.out k4 (List.length_set) PG.out HGW.out (HO1.out.stored k ux).1 (HA1.out.put_val (P := fun x => p x ∧ x ≠ g) HN1.out.same.1 (HI1.out.mono (fun x hx => hx.1)) (fun x hx => hx.1) k) HA.out HN1.out.cur (HN1.out.same.mono (fun x hx => hx.2)) HN1.out.below (grown_set (Below.refl _ w1) g k ux)⟩
    simp only [results, show Tryz.f35.results = #[.tmp 12, .tmp 13, .tmp 14] by kernel_rfl]
    go_simp
  · go_enter Tryz.func35, Tryz.ntmps35
    go_wp2_with (go_at_call 39; (with_reducible refine PI.out.mono ?_); rintro e w1 ⟨kk, rfl, hk1, hk2, hb⟩; have HN1 := Lib.hid (Nx.quiet HZ.out hb HA.out.sB : Nx cb B w w1); have HA1 := Lib.hid (HA.out.next HN1.out); have HKK := Lib.hid hk1; obtain ⟨y0, y1, y2⟩ := Rv.cells3 hk1; have HO1 := Lib.hid (row_same (p := fun _ => True) HO.out (fun _ _ => trivial) (.of_below hb)); have HI1 := Lib.hid (HI.out.below hb); clear hk1 hb; have hkv : k < vs.length := (by rw [HVL.out]; exact hk); have yk := HO1.out.cellAt k (by omega); rw [List.getElem?_eq_getElem hkv] at yk; have fk := HO1.out.frozenAt k)
    refine bodyPost_ret (v := .tuple #[.iface 74 (.slice (some ⟨g, 0, none⟩) t.is.length c), .bool true, .pointer none]) ?_ rfl ⟨_, _, rfl, .arr U0.out k4 (List.length_set) PG.out HGW.out (HO1.out.stored k ux).1 (HA1.out.put_val (P := fun x => p x ∧ x ≠ g) HN1.out.same.1 (HI1.out.mono (fun x hx => hx.1)) (fun x hx => hx.1) k) HA.out HN1.out.cur (HN1.out.same.mono (fun x hx => hx.2)) HN1.out.below (grown_set (Below.refl _ w1) g k ux)⟩
    simp only [results, show Tryz.f35.results = #[.tmp 12, .tmp 13, .tmp 14] by kernel_rfl]
    go_simp
theorem arr_app (m : Int) (hm : m = 0 ∨ m = 2 ∨ m = 4) (s : Sp) (r : List Sp) (hs : s.b = true) (hL : Ltr s) (IH : Upd m r) (t tx : J) (p q : Nat → Prop) (ux : Value) (w : World) (cb B : Nat) (A : Option Addr) (c : Nat) (k4 : t.k = 4) (hm4 : m = 4) (hr0 : r = []) (k : Nat) (hf : fI t s = (k : Int)) (hk : k < t.is.length) (hw' : Way t.is[k] r) (ha : Ask t tx p q (.iface 74 (.slice A t.is.length c)) ux w cb B) :
    Calls Tryz.prog 35 #[.string (bs [dg s.i]), .string (bs (segs r)), .slice A t.is.length c, ux, .int .i64 m, .pointer (some ⟨cb, 0, none⟩)] w (Out m (s :: r) t tx p q (.iface 74 (.slice A t.is.length c)) w cb B) := by
  have L8 := ha.wf.wg.kids.2.2.1
  have hPI := fun (last : Int) h1 h2 => pidx_any s.i hL.1 last h1 h2 cb w ha.sp
  obtain ⟨z, hz⟩ := ha.cur
  have HZ := Lib.hid hz
  have hux3 := ha.ix.cell.1
  have hux := ha.ix.cell.2
  unfold Value.cells at hux3
  have hst := fun W a m => run_store Tryz.prog W a ux m hux
  obtain ⟨A', c', vs, ea, ho, hbl, hi⟩ := ha.io.arr k4
  (injection ea with _ ea); (injection ea with ea1 _ ea2); subst ea1; subst ea2
  have hik : s.i = k := by
    unfold fI at hf
    rw [hs, if_pos rfl] at hf
    by_cases h : t.k = 4 ∧ s.i < t.is.length
    · rw [if_pos h] at hf; omega
    · rw [if_neg h] at hf; omega
  have PI := Lib.hid (hPI ((t.is.length : Int) - 1) (by omega) (by omega))
  rw [if_neg (by omega : ¬ (t.is.length : Int) - 1 < s.i), decide_eq_false (by omega : ¬ (t.is.length : Int) - 1 < s.i), show ((s.i : Nat) : Int) = (k : Int) by omega] at PI
  have hg : ∃ g, A = some ⟨g, 0, none⟩ := by
    rcases ho.2 with ⟨e, _⟩ | ⟨g, cap, cur, e, _⟩
    · injection e with _ e _
      omega
    · injection e with e _ _
      exact ⟨g, e⟩
  obtain ⟨g, rfl⟩ := hg
  have PG := Lib.hid (hbl g rfl)
  have HGW := Lib.hid (ho.lt g rfl).2
  have HVL := Lib.hid hi.len
  have HA := Lib.hid ha
  have HO := Lib.hid ho
  have HI := Lib.hid (hi.bound.mono (q := fun x => (p x ∧ x ≠ g) ∧ x < w.heap.size) (fun x hx => ⟨⟨hx.1.1, fun e => hx.1.2 (by rw [e]; rfl)⟩, hx.2⟩))
  clear hPI hi hbl ho ha
  have U0 : Hid (upd m tx (s :: r) t = .mk t.k t.n t.s t.ns (t.is.set k (upd m tx r t.is[k]))) := Lib.hid (updJ_at _ _ _ _ _ k hf hk)
  subst hr0
  subst hm4
  have hne := nil_text
  unfold Upd at IH
  have IH := Lib.hid IH
  generalize bs [dg s.i] = sd at *
  generalize bs (segs []) = sr at *
  clear hL hf hz
  go_enter Tryz.func35, Tryz.ntmps35
  go_upto_region 26 with (first
    | (go_at_call 39; (with_reducible refine PI.out.mono ?_); rintro e w1 ⟨kk, rfl, hk1, hk2, hb⟩; have HN1 := Lib.hid (Nx.quiet HZ.out hb HA.out.sB : Nx cb B w w1); have HA1 := Lib.hid (HA.out.next HN1.out); have HKK := Lib.hid hk1; obtain ⟨y0, y1, y2⟩ := Rv.cells3 hk1; have HO1 := Lib.hid (row_same (p := fun _ => True) HO.out (fun _ _ => trivial) (.of_below hb)); have HI1 := Lib.hid (HI.out.below hb); clear hk1 hb; have hkv : k < vs.length := (by rw [HVL.out]; exact hk); have yk := HO1.out.cellAt k (by omega); rw [List.getElem?_eq_getElem hkv] at yk; have fk := HO1.out.frozenAt k; obtain ⟨o, oa, ob⟩ := HI1.out.owner; have HOA := Lib.hid oa; have HOB := Lib.hid ob; have IC := Lib.hid (IH.out t.is[k] tx _ q vs[k] ux w1 cb B hw' (HA1.out.kid oa (fun x hx => hx.1.1) k hk hkv (ob k hk hkv))); clear oa ob; obtain ⟨v0, hv0⟩ : ∃ v, vs[k] = v := ⟨_, rfl⟩; rw [hv0] at yk IC; have HV0 := Lib.hid hv0; clear hv0)
    | (go_at_call 28; (with_reducible refine IC.out.mono ?_); rintro e w2 ⟨u2, ch, rfl, hr⟩; have HR := Lib.hid hr; clear hr; have hKB := (HR.out.same.2 kk (Rv.lt_of_blk HKK.out) ⟨fun e => by have := (HOA.out kk k e).2; omega, fun e => by have := Rv.lt_of_blk HZ.out; omega⟩).trans HKK.out; obtain ⟨x0, x1, x2⟩ := Rv.cells3 hKB; clear hKB; have HO2 := Lib.hid (row_same (p := fun x => x = g) HO1.out (fun k hk => by injection hk with hk; exact hk.symm) (HR.out.same.mono (fun x hx => ⟨fun e => (HOA.out x k e).1.2 hx, fun e => (HA.out.pB g PG.out).2 (hx ▸ e)⟩))); have zk := HO2.out.cellAt k (by omega); rw [List.getElem?_eq_getElem hkv] at zk; have gk := HO2.out.frozenAt k))
  have HI2 := Lib.hid ((IOs.put HI1.out.len HOA.out HOB.out HR.out.io HR.out.same (fun e => (HA.out.pB cb e.1.1).2 rfl) (fun x hx => HA.out.apart x hx.1.1)).mono (q := fun x => (p x ∧ x ≠ g) ∨ q x ∨ w.heap.size ≤ x) (fun x hx => hx.imp (fun h => h.1) (Or.imp id (Nat.le_trans HN1.out.same.1))))
  have HS2 := Lib.hid ((HN1.out.same.mono (q := fun x => ¬ p x ∧ x ≠ cb) (fun x hx => hx.2)).trans (HR.out.same.mono (fun x hx => ⟨fun e => hx.1 (HOA.out x k e).1.1, hx.2⟩)))
  have hst2 := fun W a m => run_store Tryz.prog W a u2 m HR.out.io.cell.2
  have hu3 := HR.out.io.cell.1
  unfold Value.cells at hu3
  cases ch
  · have hno := HR.out.no rfl
    go_wp2
    refine bodyPost_ret (v := .tuple #[.iface 74 (.slice (some ⟨g, 0, none⟩) t.is.length c), .bool false, .pointer none]) ?_ rfl ⟨_, _, rfl, .arr0 (by rw [U0.out, hno.2, List.set_getElem_self, J.eta]) k4 PG.out HGW.out HO2.out (by
          have h := HI2.out
          rw [hno.2, hno.1, ← HV0.out, List.set_getElem_self, List.set_getElem_self] at h
          exact h) HA.out HR.out.cur HS2.out (HN1.out.below.trans HR.out.below)⟩
    simp only [results, show Tryz.f35.results = #[.tmp 12, .tmp 13, .tmp 14] by kernel_rfl]
    go_simp
  · go_wp2
    refine bodyPost_ret (v := .tuple #[.iface 74 (.slice (some ⟨g, 0, none⟩) t.is.length c), .bool true, .pointer none]) ?_ rfl ⟨_, _, rfl, .arr U0.out k4 (List.length_set) PG.out HGW.out (HO2.out.stored k u2).1 HI2.out HA.out HR.out.cur HS2.out (HN1.out.below.trans HR.out.below) (grown_set (Below.refl _ w2) g k u2)⟩
    simp only [results, show Tryz.f35.results = #[.tmp 12, .tmp 13, .tmp 14] by kernel_rfl]
    go_simp
theorem arr_deep (m : Int) (hm : m = 0 ∨ m = 2 ∨ m = 4) (s : Sp) (r : List Sp) (hs : s.b = true) (hL : Ltr s) (IH : Upd m r) (t tx : J) (p q : Nat → Prop) (ux : Value) (w : World) (cb B : Nat) (A : Option Addr) (c : Nat) (k4 : t.k = 4) (hr1 : r ≠ []) (k : Nat) (hf : fI t s = (k : Int)) (hk : k < t.is.length) (hw' : Way t.is[k] r) (ha : Ask t tx p q (.iface 74 (.slice A t.is.length c)) ux w cb B) :
    Calls Tryz.prog 35 #[.string (bs [dg s.i]), .string (bs (segs r)), .slice A t.is.length c, ux, .int .i64 m, .pointer (some ⟨cb, 0, none⟩)] w (Out m (s :: r) t tx p q (.iface 74 (.slice A t.is.length c)) w cb B) := by
  have L8 := ha.wf.wg.kids.2.2.1
  have hPI := fun (last : Int) h1 h2 => pidx_any s.i hL.1 last h1 h2 cb w ha.sp
  obtain ⟨z, hz⟩ := ha.cur
  have HZ := Lib.hid hz
  have hux3 := ha.ix.cell.1
  have hux := ha.ix.cell.2
  unfold Value.cells at hux3
  have hst := fun W a m => run_store Tryz.prog W a ux m hux
  obtain ⟨A', c', vs, ea, ho, hbl, hi⟩ := ha.io.arr k4
  (injection ea with _ ea); (injection ea with ea1 _ ea2); subst ea1; subst ea2
  have hik : s.i = k := by
    unfold fI at hf
    rw [hs, if_pos rfl] at hf
    by_cases h : t.k = 4 ∧ s.i < t.is.length
    · rw [if_pos h] at hf; omega
    · rw [if_neg h] at hf; omega
  have PI := Lib.hid (hPI ((t.is.length : Int) - 1) (by omega) (by omega))
  rw [if_neg (by omega : ¬ (t.is.length : Int) - 1 < s.i), decide_eq_false (by omega : ¬ (t.is.length : Int) - 1 < s.i), show ((s.i : Nat) : Int) = (k : Int) by omega] at PI
  have hg : ∃ g, A = some ⟨g, 0, none⟩ := by
    rcases ho.2 with ⟨e, _⟩ | ⟨g, cap, cur, e, _⟩
    · injection e with _ e _
      omega
    · injection e with e _ _
      exact ⟨g, e⟩
  obtain ⟨g, rfl⟩ := hg
  have PG := Lib.hid (hbl g rfl)
  have HGW := Lib.hid (ho.lt g rfl).2
  have HVL := Lib.hid hi.len
  have HA := Lib.hid ha
  have HO := Lib.hid ho
  have HI := Lib.hid (hi.bound.mono (q := fun x => (p x ∧ x ≠ g) ∧ x < w.heap.size) (fun x hx => ⟨⟨hx.1.1, fun e => hx.1.2 (by rw [e]; rfl)⟩, hx.2⟩))
  clear hPI hi hbl ho ha
  have U0 : Hid (upd m tx (s :: r) t = .mk t.k t.n t.s t.ns (t.is.set k (upd m tx r t.is[k]))) := Lib.hid (updJ_at _ _ _ _ _ k hf hk)
  have hne := segs_text r hr1
  unfold Upd at IH
  have IH := Lib.hid IH
  generalize bs [dg s.i] = sd at *
  generalize bs (segs r) = sr at *
  clear hL hf hz
  rcases hm with rfl | rfl | rfl
  · go_enter Tryz.func35, Tryz.ntmps35
    go_upto_region 26 with (first
      | (go_at_call 39; (with_reducible refine PI.out.mono ?_); rintro e w1 ⟨kk, rfl, hk1, hk2, hb⟩; have HN1 := Lib.hid (Nx.quiet HZ.out hb HA.out.sB : Nx cb B w w1); have HA1 := Lib.hid (HA.out.next HN1.out); have HKK := Lib.hid hk1; obtain ⟨y0, y1, y2⟩ := Rv.cells3 hk1; have HO1 := Lib.hid (row_same (p := fun _ => True) HO.out (fun _ _ => trivial) (.of_below hb)); have HI1 := Lib.hid (HI.out.below hb); clear hk1 hb; have hkv : k < vs.length := (by rw [HVL.out]; exact hk); have yk := HO1.out.cellAt k (by omega); rw [List.getElem?_eq_getElem hkv] at yk; have fk := HO1.out.frozenAt k; obtain ⟨o, oa, ob⟩ := HI1.out.owner; have HOA := Lib.hid oa; have HOB := Lib.hid ob; have IC := Lib.hid (IH.out t.is[k] tx _ q vs[k] ux w1 cb B hw' (HA1.out.kid oa (fun x hx => hx.1.1) k hk hkv (ob k hk hkv))); clear oa ob; obtain ⟨v0, hv0⟩ : ∃ v, vs[k] = v := ⟨_, rfl⟩; rw [hv0] at yk IC; have HV0 := Lib.hid hv0; clear hv0)
      | (go_at_call 28; (with_reducible refine IC.out.mono ?_); rintro e w2 ⟨u2, ch, rfl, hr⟩; have HR := Lib.hid hr; clear hr; have hKB := (HR.out.same.2 kk (Rv.lt_of_blk HKK.out) ⟨fun e => by have := (HOA.out kk k e).2; omega, fun e => by have := Rv.lt_of_blk HZ.out; omega⟩).trans HKK.out; obtain ⟨x0, x1, x2⟩ := Rv.cells3 hKB; clear hKB; have HO2 := Lib.hid (row_same (p := fun x => x = g) HO1.out (fun k hk => by injection hk with hk; exact hk.symm) (HR.out.same.mono (fun x hx => ⟨fun e => (HOA.out x k e).1.2 hx, fun e => (HA.out.pB g PG.out).2 (hx ▸ e)⟩))); have zk := HO2.out.cellAt k (by omega); rw [List.getElem?_eq_getElem hkv] at zk; have gk := HO2.out.frozenAt k))
    have HI2 := Lib.hid ((IOs.put HI1.out.len HOA.out HOB.out HR.out.io HR.out.same (fun e => (HA.out.pB cb e.1.1).2 rfl) (fun x hx => HA.out.apart x hx.1.1)).mono (q := fun x => (p x ∧ x ≠ g) ∨ q x ∨ w.heap.size ≤ x) (fun x hx => hx.imp (fun h => h.1) (Or.imp id (Nat.le_trans HN1.out.same.1))))
    have HS2 := Lib.hid ((HN1.out.same.mono (q := fun x => ¬ p x ∧ x ≠ cb) (fun x hx => hx.2)).trans (HR.out.same.mono (fun x hx => ⟨fun e => hx.1 (HOA.out x k e).1.1, hx.2⟩)))
    have hst2 := fun W a m => run_store Tryz.prog W a u2 m HR.out.io.cell.2
    have hu3 := HR.out.io.cell.1
    unfold Value.cells at hu3
    cases ch
    · have hno := HR.out.no rfl
      go_wp2
      refine bodyPost_ret (v := .tuple #[.iface 74 (.slice (some ⟨g, 0, none⟩) t.is.length c), .bool false, .pointer none]) ?_ rfl ⟨_, _, rfl, .arr0 (by rw [U0.out, hno.2, List.set_getElem_self, J.eta]) k4 PG.out HGW.out HO2.out (by
            have h := HI2.out
            rw [hno.2, hno.1, ← HV0.out, List.set_getElem_self, List.set_getElem_self] at h
            exact h) HA.out HR.out.cur HS2.out (HN1.out.below.trans HR.out.below)⟩
      simp only [results, show Tryz.f35.results = #[.tmp 12, .tmp 13, .tmp 14] by kernel_rfl]
      go_simp
    · go_wp2
      refine bodyPost_ret (v := .tuple #[.iface 74 (.slice (some ⟨g, 0, none⟩) t.is.length c), .bool true, .pointer none]) ?_ rfl ⟨_, _, rfl, .arr U0.out k4 (List.length_set) PG.out HGW.out (HO2.out.stored k u2).1 HI2.out HA.out HR.out.cur HS2.out (HN1.out.below.trans HR.out.below) (grown_set (Below.refl _ w2) g k u2)⟩
      simp only [results, show Tryz.f35.results = #[.tmp 12, .tmp 13, .tmp 14] by kernel_rfl]
      go_simp
  · go_enter Tryz.func35, Tryz.ntmps35
    go_upto_region 26 with (first
      | (go_at_call 39; (with_reducible refine PI.out.mono ?_); rintro e w1 ⟨kk, rfl, hk1, hk2, hb⟩; have HN1 := Lib.hid (Nx.quiet HZ.out hb HA.out.sB : Nx cb B w w1); have HA1 := Lib.hid (HA.out.next HN1.out); have HKK := Lib.hid hk1; obtain ⟨y0, y1, y2⟩ := Rv.cells3 hk1; have HO1 := Lib.hid (row_same (p := fun _ => True) HO.out (fun _ _ => trivial) (.of_below hb)); have HI1 := Lib.hid (HI.out.below hb); clear hk1 hb; have hkv : k < vs.length := (by rw [HVL.out]; exact hk); have yk := HO1.out.cellAt k (by omega); rw [List.getElem?_eq_getElem hkv] at yk; have fk := HO1.out.frozenAt k; obtain ⟨o, oa, ob⟩ := HI1.out.owner; have HOA := Lib.hid oa; have HOB := Lib.hid ob; have IC := Lib.hid (IH.out t.is[k] tx _ q vs[k] ux w1 cb B hw' (HA1.out.kid oa (fun x hx => hx.1.1) k hk hkv (ob k hk hkv))); clear oa ob; obtain ⟨v0, hv0⟩ : ∃ v, vs[k] = v := ⟨_, rfl⟩; rw [hv0] at yk IC; have HV0 := Lib.hid hv0; clear hv0)
      | (go_at_call 28; (with_reducible refine IC.out.mono ?_); rintro e w2 ⟨u2, ch, rfl, hr⟩; have HR := Lib.hid hr; clear hr; have hKB := (HR.out.same.2 kk (Rv.lt_of_blk HKK.out) ⟨fun e => by have := (HOA.out kk k e).2; omega, fun e => by have := Rv.lt_of_blk HZ.out; omega⟩).trans HKK.out; obtain ⟨x0, x1, x2⟩ := Rv.cells3 hKB; clear hKB; have HO2 := Lib.hid (row_same (p := fun x => x = g) HO1.out (fun k hk => by injection hk with hk; exact hk.symm) (HR.out.same.mono (fun x hx => ⟨fun e => (HOA.out x k e).1.2 hx, fun e => (HA.out.pB g PG.out).2 (hx ▸ e)⟩))); have zk := HO2.out.cellAt k (by omega); rw [List.getElem?_eq_getElem hkv] at zk; have gk := HO2.out.frozenAt k))
    have HI2 := Lib.hid ((IOs.put HI1.out.len HOA.out HOB.out HR.out.io HR.out.same (fun e => (HA.out.pB cb e.1.1).2 rfl) (fun x hx => HA.out.apart x hx.1.1)).mono (q := fun x => (p x ∧ x ≠ g) ∨ q x ∨ w.heap.size ≤ x) (fun x hx => hx.imp (fun h => h.1) (Or.imp id (Nat.le_trans HN1.out.same.1))))
    have HS2 := Lib.hid ((HN1.out.same.mono (q := fun x => ¬ p x ∧ x ≠ cb) (fun x hx => hx.2)).trans (HR.out.same.mono (fun x hx => ⟨fun e => hx.1 (HOA.out x k e).1.1, hx.2⟩)))
    have hst2 := fun W a m => run_store Tryz.prog W a u2 m HR.out.io.cell.2
    have hu3 := HR.out.io.cell.1
    unfold Value.cells at hu3
    cases ch
    · have hno := HR.out.no rfl
      go_wp2
      refine bodyPost_ret (v := .tuple #[.iface 74 (.slice (some ⟨g, 0, none⟩) t.is.length c), .bool false, .pointer none]) ?_ rfl ⟨_, _, rfl, .arr0 (by rw [U0.out, hno.2, List.set_getElem_self, J.eta]) k4 PG.out HGW.out HO2.out (by
            have h := HI2.out
            rw [hno.2, hno.1, ← HV0.out, List.set_getElem_self, List.set_getElem_self] at h
            exact h) HA.out HR.out.cur HS2.out (HN1.out.below.trans HR.out.below)⟩
      simp only [results, show Tryz.f35.results = #[.tmp 12, .tmp 13, .tmp 14] by kernel_rfl]
      go_simp
    · go_wp2
      refine bodyPost_ret (v := .tuple #[.iface 74 (.slice (some ⟨g, 0, none⟩) t.is.length c), .bool true, .pointer none]) ?_ rfl ⟨_, _, rfl, .arr U0.out k4 (List.length_set) PG.out HGW.out (HO2.out.stored k u2).1 HI2.out HA.out HR.out.cur HS2.out (HN1.out.below.trans HR.out.below) (grown_set (Below.refl _ w2) g k u2)⟩
      simp only [results, show Tryz.f35.results = #[.tmp 12, .tmp 13, .tmp 14] by kernel_rfl]
      go_simp
  · go_enter Tryz.func35, Tryz.ntmps35
    go_upto_region 26 with (first
      | (go_at_call 39; (with_reducible refine PI.out.mono ?_); rintro e w1 ⟨kk, rfl, hk1, hk2, hb⟩; have HN1 := Lib.hid (Nx.quiet HZ.out hb HA.out.sB : Nx cb B w w1); have HA1 := Lib.hid (HA.out.next HN1.out); have HKK := Lib.hid hk1; obtain ⟨y0, y1, y2⟩ := Rv.cells3 hk1; have HO1 := Lib.hid (row_same (p := fun _ => True) HO.out (fun _ _ => trivial) (.of_below hb)); have HI1 := Lib.hid (HI.out.below hb); clear hk1 hb; have hkv : k < vs.length := (by rw [HVL.out]; exact hk); have yk := HO1.out.cellAt k (by omega); rw [List.getElem?_eq_getElem hkv] at yk; have fk := HO1.out.frozenAt k; obtain ⟨o, oa, ob⟩ := HI1.out.owner; have HOA := Lib.hid oa; have HOB := Lib.hid ob; have IC := Lib.hid (IH.out t.is[k] tx _ q vs[k] ux w1 cb B hw' (HA1.out.kid oa (fun x hx => hx.1.1) k hk hkv (ob k hk hkv))); clear oa ob; obtain ⟨v0, hv0⟩ : ∃ v, vs[k] = v := ⟨_, rfl⟩; rw [hv0] at yk IC; have HV0 := Lib.hid hv0; clear hv0)
      | (go_at_call 28; (with_reducible refine IC.out.mono ?_); rintro e w2 ⟨u2, ch, rfl, hr⟩; have HR := Lib.hid hr; clear hr; have hKB := (HR.out.same.2 kk (Rv.lt_of_blk HKK.out) ⟨fun e => by have := (HOA.out kk k e).2; omega, fun e => by have := Rv.lt_of_blk HZ.out; omega⟩).trans HKK.out; obtain ⟨x0, x1, x2⟩ := Rv.cells3 hKB; clear hKB; have HO2 := Lib.hid (row_same (p := fun x => x = g) HO1.out (fun k hk => by injection hk with hk; exact hk.symm) (HR.out.same.mono (fun x hx => ⟨fun e => (HOA.out x k e).1.2 hx, fun e => (HA.out.pB g PG.out).2 (hx ▸ e)⟩))); have zk := HO2.out.cellAt k (by omega); rw [List.getElem?_eq_getElem hkv] at zk; have gk := HO2.out.frozenAt k))
    have HI2 := Lib.hid ((IOs.put HI1.out.len HOA.out HOB.out HR.out.io HR.out.same (fun e => (HA.out.pB cb e.1.1).2 rfl) (fun x hx => HA.out.apart x hx.1.1)).mono (q := fun x => (p x ∧ x ≠ g) ∨ q x ∨ w.heap.size ≤ x) (fun x hx => hx.imp (fun h => h.1) (Or.imp id (Nat.le_trans HN1.out.same.1))))
    have HS2 := Lib.hid ((HN1.out.same.mono (q := fun x => ¬ p x ∧ x ≠ cb) (fun x hx => hx.2)).trans (HR.out.same.mono (fun x hx => ⟨fun e => hx.1 (HOA.out x k e).1.1, hx.2⟩)))
    have hst2 := fun W a m => run_store Tryz.prog W a u2 m HR.out.io.cell.2
    have hu3 := HR.out.io.cell.1
    unfold Value.cells at hu3
    cases ch
    · have hno := HR.out.no rfl
      go_wp2
      refine bodyPost_ret (v := .tuple #[.iface 74 (.slice (some ⟨g, 0, none⟩) t.is.length c), .bool false, .pointer none]) ?_ rfl ⟨_, _, rfl, .arr0 (by rw [U0.out, hno.2, List.set_getElem_self, J.eta]) k4 PG.out HGW.out HO2.out (by
            have h := HI2.out
            rw [hno.2, hno.1, ← HV0.out, List.set_getElem_self, List.set_getElem_self] at h
            exact h) HA.out HR.out.cur HS2.out (HN1.out.below.trans HR.out.below)⟩
      simp only [results, show Tryz.f35.results = #[.tmp 12, .tmp 13, .tmp 14] by kernel_rfl]
      go_simp
    · go_wp2
      refine bodyPost_ret (v := .tuple #[.iface 74 (.slice (some ⟨g, 0, none⟩) t.is.length c), .bool true, .pointer none]) ?_ rfl ⟨_, _, rfl, .arr U0.out k4 (List.length_set) PG.out HGW.out (HO2.out.stored k u2).1 HI2.out HA.out HR.out.cur HS2.out (HN1.out.below.trans HR.out.below) (grown_set (Below.refl _ w2) g k u2)⟩
      simp only [results, show Tryz.f35.results = #[.tmp 12, .tmp 13, .tmp 14] by kernel_rfl]
      go_simp
/-- updateArray. -/
theorem arr_any (m : Int) (hm : m = 0 ∨ m = 2 ∨ m = 4) (s : Sp) (r : List Sp) (hs : s.b = true) (hL : Ltr s) (IH : Upd m r) (t tx : J) (p q : Nat → Prop) (ux : Value) (w : World) (cb B : Nat) (A : Option Addr) (c : Nat) (k4 : t.k = 4) (hw : Way t (s :: r)) (ha : Ask t tx p q (.iface 74 (.slice A t.is.length c)) ux w cb B) :
    Calls Tryz.prog 35 #[.string (bs [dg s.i]), .string (bs (segs r)), .slice A t.is.length c, ux, .int .i64 m, .pointer (some ⟨cb, 0, none⟩)] w (Out m (s :: r) t tx p q (.iface 74 (.slice A t.is.length c)) w cb B) := by
  cases hw with
  | cons _ _ _ k hf hk hw' =>
    by_cases hr0 : r = []
    · by_cases hm4 : m = 4
      · exact arr_app m hm s r hs hL IH t tx p q ux w cb B A c k4 hm4 hr0 k hf hk hw' ha
      · exact arr_set m hm s r hs hL t tx p q ux w cb B A c k4 hr0 hm4 k hf hk ha
    · exact arr_deep m hm s r hs hL IH t tx p q ux w cb B A c k4 hr0 k hf hk hw' ha
  | last _ _ hf _ => exact arr_no m hm s [] hs hL t tx p q ux w cb B A c k4 hf rfl ha
end Go.Proofs.YtmelgankbegjaaaGreatDoor.Js

set_option linter.unusedVariables false
set_option linter.unusedSimpArgs false
set_option maxRecDepth 100000
set_option maxHeartbeats 8000000
namespace Go.Proofs.YtmelgankbegjaaaGreatDoor.Js
open Go.RowKit Go.Proofs.YtmelgankbegjaaaGreatDoor.B

attribute [local go_sem] as67_67 as68_68
theorem upd_name (m : Int) (hm : m = 0 ∨ m = 2 ∨ m = 4) (s : Sp) (r : List Sp) (hs : s.b = false) (hL : Ltr s) (hr : (segs r).length ≤ 1000) (IH : Upd m r) : Upd m (s :: r) := by
  intro t tx p q u ux w cb B hw ha
  obtain ⟨z, hz⟩ := ha.cur
  have e0 : segs (s :: r) = 46 :: (34 :: (s.x.data.toList ++ 34 :: segs r)) := by
    unfold segs seg
    rw [List.flatMap_cons, hs]
    simp
  rw [e0]
  have h0 : ∀ W, (Instr.index 9 (.string (bs (46 :: (34 :: (s.x.data.toList ++ 34 :: segs r))))) (.int .i64 0)).run Tryz.prog W = .ok (.int .u8 46) W := fun W => ix_bs (46 :: (34 :: (s.x.data.toList ++ 34 :: segs r))) 0 46 rfl W
  have h1 : ∀ W, (Instr.slice 9 (.string (bs (46 :: (34 :: (s.x.data.toList ++ 34 :: segs r))))) (some (.int .i64 1)) none none).run Tryz.prog W = .ok (.string (bs (34 :: (s.x.data.toList ++ 34 :: segs r)))) W := fun W => from_bs (46 :: (34 :: (s.x.data.toList ++ 34 :: segs r))) 1 (by simp) W
  have hne := bs_ne (46 :: (34 :: (s.x.data.toList ++ 34 :: segs r))) (by simp)
  have HZ := Lib.hid hz
  have HA := Lib.hid ha
  by_cases k5 : t.k = 5
  · obtain ⟨b, vs, rfl, _⟩ := ha.io.map k5
    have OB := Lib.hid (fun w1 (hn : Nx cb B w w1) => obj_any m hm s r hs hL hr IH t tx p q ux w1 cb B b k5 hw (ha.next hn))
    have c0 := Rv.cells1 hz
    have f0 := Rv.frozen1 hz
    generalize bs (46 :: (34 :: (s.x.data.toList ++ 34 :: segs r))) = T at *
    generalize bs (34 :: (s.x.data.toList ++ 34 :: segs r)) = T1 at *
    clear e0 hz ha hw IH hL hr
    go_enter Tryz.func28, Tryz.ntmps28
    go_wp2_with (go_at_call 33; (with_reducible refine (OB.out _ (Nx.set HZ.out (Below.refl _ _) HA.out.cB HA.out.sB)).mono ?_); rintro e w2 ⟨u2, ch, rfl, hr⟩; have HR := Lib.hid (Res.next (Nx.set HZ.out (Below.refl _ _) HA.out.cB HA.out.sB) hr); clear hr)
    refine bodyPost_ret (v := .tuple #[u2, .bool ch, .pointer none]) ?_ rfl ⟨_, _, rfl, HR.out⟩
    simp only [results, show Tryz.f28.results = #[.tmp 10, .tmp 11, .tmp 12] by kernel_rfl]
    go_simp
  · have hta := not_map ha.io k5
    have hf : fI t s = -1 := by
      unfold fI
      rw [hs, if_neg (by simp), if_neg k5]
    have hup : upd m tx (s :: r) t = t := by
      show updJ _ _ (s :: r) t = t
      rw [updJ_no _ _ _ _ _ hf]
      unfold am
      by_cases h : m = 0
      · rw [if_pos h]
        show addJ t s tx = t
        unfold addJ
        rw [if_neg (fun h => by rw [hs] at h; exact h.2.elim (fun e => by cases e) k5)]
      · rw [if_neg h]
    have c0 := Rv.cells1 hz
    have f0 := Rv.frozen1 hz
    have HU := Lib.hid hup
    generalize bs (46 :: (34 :: (s.x.data.toList ++ 34 :: segs r))) = T at *
    generalize bs (34 :: (s.x.data.toList ++ 34 :: segs r)) = T1 at *
    clear e0 hz ha hw IH hL hr hup hf
    rcases hm with rfl | rfl | rfl
    all_goals
      go_enter Tryz.func28, Tryz.ntmps28
      go_wp2
      refine bodyPost_ret (v := .tuple #[u, .bool false, .pointer none]) ?_ rfl ⟨_, _, rfl, .idle HU.out HA.out (Nx.set HZ.out (Below.refl _ _) HA.out.cB HA.out.sB)⟩
      simp only [results, show Tryz.f28.results = #[.tmp 10, .tmp 11, .tmp 12] by kernel_rfl]
      go_simp
theorem upd_item (m : Int) (hm : m = 0 ∨ m = 2 ∨ m = 4) (s : Sp) (r : List Sp) (hs : s.b = true) (hL : Ltr s) (hr : (segs r).length ≤ 1000) (IH : Upd m r) : Upd m (s :: r) := by
  intro t tx p q u ux w cb B hw ha
  obtain ⟨z, hz⟩ := ha.cur
  have k4 : t.k = 4 := by
    cases hw with
    | cons _ _ _ k hf hk hw' =>
      unfold fI at hf
      rw [hs, if_pos rfl] at hf
      by_cases h : t.k = 4 ∧ s.i < t.is.length
      · exact h.1
      · rw [if_neg h] at hf; omega
    | last _ _ hf h => exact h hs
  have e0 : segs (s :: r) = 91 :: dg s.i :: 93 :: segs r := by
    unfold segs seg
    rw [List.flatMap_cons, hs]
    rfl
  rw [e0]
  have hd := dg_nat s.i hL.1
  have h0 : ∀ W, (Instr.index 9 (.string (bs (91 :: dg s.i :: 93 :: segs r))) (.int .i64 0)).run Tryz.prog W = .ok (.int .u8 91) W := fun W => ix_bs (91 :: dg s.i :: 93 :: segs r) 0 91 rfl W
  have h3 : ∀ W, (Instr.slice 9 (.string (bs (91 :: dg s.i :: 93 :: segs r))) (some (.int .i64 3)) none none).run Tryz.prog W = .ok (.string (bs (segs r))) W := fun W => from_bs (91 :: dg s.i :: 93 :: segs r) 3 (by simp) W
  have h12 : ∀ W, (Instr.slice 9 (.string (bs (91 :: dg s.i :: 93 :: segs r))) (some (.int .i64 1)) (some (.int .i64 2)) none).run Tryz.prog W = .ok (.string (bs [dg s.i])) W := fun W => cut_bs (91 :: dg s.i :: 93 :: segs r) 1 2 (by omega) (by simp) W
  have hne := bs_ne (91 :: dg s.i :: 93 :: segs r) (by simp)
  have IX : Hid (∀ W, Calls Tryz.prog 34 #[.string (bs (91 :: dg s.i :: 93 :: segs r)), .string ⟨#[93]⟩] W fun e w' => e = .returned (.int .i64 2) ∧ w' = W) := Lib.hid (fun W => index_at (91 :: dg s.i :: 93 :: segs r) 93 2 (fun k hk => by
    have hk2 : k = 0 ∨ k = 1 := by omega
    rcases hk2 with rfl | rfl
    · intro e
      injection e with e
      exact absurd e (by decide)
    · intro e
      have e : some (dg s.i) = some 93 := e
      injection e with e
      rw [e] at hd
      have h93 : (93 : UInt8).toNat = 93 := rfl
      have := hL.1
      omega) rfl (by simp; omega) W)
  have HZ := Lib.hid hz
  have HA := Lib.hid ha
  obtain ⟨A, c, vs, rfl, _⟩ := ha.io.arr k4
  have OB := Lib.hid (fun w1 (hn : Nx cb B w w1) => arr_any m hm s r hs hL IH t tx p q ux w1 cb B A c k4 hw (ha.next hn))
  have c0 := Rv.cells1 hz
  have f0 := Rv.frozen1 hz
  generalize bs (91 :: dg s.i :: 93 :: segs r) = T at *
  generalize bs [dg s.i] = T1 at *
  generalize bs (segs r) = T2 at *
  clear e0 hz ha hw IH hL hr hd
  go_enter Tryz.func28, Tryz.ntmps28
  go_wp2_with (first
    | (go_at_call 34; (with_reducible refine (IX.out _).mono ?_); rintro e w1 ⟨rfl, rfl⟩)
    | (go_at_call 35; (with_reducible refine (OB.out _ (Nx.set HZ.out (Below.refl _ _) HA.out.cB HA.out.sB)).mono ?_); rintro e w2 ⟨u2, ch, rfl, hr⟩; have HR := Lib.hid (Res.next (Nx.set HZ.out (Below.refl _ _) HA.out.cB HA.out.sB) hr); clear hr))
  refine bodyPost_ret (v := .tuple #[u2, .bool ch, .pointer none]) ?_ rfl ⟨_, _, rfl, HR.out⟩
  simp only [results, show Tryz.f28.results = #[.tmp 10, .tmp 11, .tmp 12] by kernel_rfl]
  go_simp
theorem segs_len (r : List Sp) (h : ∀ s ∈ r, Ltr s) : (segs r).length ≤ 10 * r.length := by
  induction r with
  | nil => exact Nat.zero_le _
  | cons s r ih =>
    have h1 := ih (fun x hx => h x (.tail _ hx))
    have h2 : (seg s).length ≤ 10 := by
      have := (h s (.head _)).2.1
      have hxl : s.x.data.toList.length = s.x.size := by rw [Array.length_toList]; rfl
      unfold seg
      split <;> simp
      omega
    unfold segs at *
    rw [List.flatMap_cons, List.length_append, List.length_cons]
    omega
/-- walkPathAndUpdate. -/
theorem upd_any (m : Int) (hm : m = 0 ∨ m = 2 ∨ m = 4) : ∀ (l : List Sp), l.length ≤ 4 → (∀ s ∈ l, Ltr s) → Upd m l
  | [], _, _ => upd_nil m hm
  | s :: r, hl, hL => by
    have hr := segs_len r (fun x hx => hL x (.tail _ hx))
    have hl2 : r.length ≤ 4 := by simp at hl; omega
    have IH := upd_any m hm r hl2 (fun x hx => hL x (.tail _ hx))
    cases hb : s.b
    · exact upd_name m hm s r hb (hL s (.head _)) (by omega) IH
    · exact upd_item m hm s r hb (hL s (.head _)) (by omega) IH
end Go.Proofs.YtmelgankbegjaaaGreatDoor.Js

set_option linter.unusedVariables false
set_option linter.unusedSimpArgs false
set_option maxRecDepth 100000
set_option maxHeartbeats 8000000
namespace Go.Proofs.YtmelgankbegjaaaGreatDoor.Js
open Go.RowKit Go.Proofs.YtmelgankbegjaaaGreatDoor.B

/-- A step of the law's own paths. -/
def Stp (s : Sp) : Prop := s.i ≤ 9 ∧ Wd7 s.x ∧ (s.b = false → s.x ≠ .empty)
theorem abc_not : ∀ c ∈ abc, c ≠ 34 ∧ c ≠ 92 := by decide +kernel
theorem Stp.ltr {s : Sp} (h : Stp s) : Ltr s := ⟨h.1, h.2.1.1, fun c hc => abc_not c (h.2.1.2 c hc)⟩
def OutU (m : Int) (l : List Sp) (t tx : J) (p q : Nat → Prop) (w : World) (B : Nat) (e : Ending) (w' : World) : Prop := ∃ u' ch, e = .returned (.tuple #[u', .bool ch, .bool true]) ∧ IO (fun x => p x ∨ q x ∨ w.heap.size ≤ x) w' (upd m tx l t) u' ∧ Below B w w'
/-- Update. -/
theorem update_any (m : Int) (hm : m = 0 ∨ m = 2 ∨ m = 4) (l : List Sp) (hl : l.length ≤ 4) (hL : ∀ s ∈ l, Ltr s) (t tx : J) (p q : Nat → Prop) (u ux : Value) (w : World) (B : Nat) (hw : Way t l) (hwf : Wf t) (h1 : IO p w t u) (h2 : IO q w tx ux) (hd : ∀ x, p x → ¬ q x)
    (hB : ∀ x, p x → B ≤ x) (hBw : B ≤ w.heap.size) (h2B : 2 < B) (has : As w) : Calls Tryz.prog 19 #[u, .string (bs (36 :: segs l)), ux, .int .i64 m] w (OutU m l t tx p q w B) := by
  have h0 : ∀ W, (Instr.index 9 (.string (bs (36 :: segs l))) (.int .i64 0)).run Tryz.prog W = .ok (.int .u8 36) W := fun W => ix_bs (36 :: segs l) 0 36 rfl W
  have hs1 : ∀ W, (Instr.slice 9 (.string (bs (36 :: segs l))) (some (.int .i64 1)) none none).run Tryz.prog W = .ok (.string (bs (segs l))) W := fun W => from_bs (36 :: segs l) 1 (by simp) W
  have hne := bs_ne (36 :: segs l) (by simp)
  have hq : ((bs (36 :: segs l)).toList == [36]) = decide (segs l = []) := by
    have h := bs_eq (36 :: segs l) [36]
    have e : (bs [36]).toList = [36] := by decide +kernel
    rw [e] at h
    rw [h, decide_eq_decide]
    exact ⟨fun h => by injection h, fun h => by rw [h]⟩
  have hn : (w.alloc (.cells #[.int .i64 1] 3)).heap[w.heap.size]? = some (.cells #[.int .i64 1] 3 (0, 0)) := heap_alloc_new w _
  have hb : Below w.heap.size w (w.alloc (.cells #[.int .i64 1] 3)) := (Below.refl _ _).alloc (Nat.le_refl _) _
  have UA := Lib.hid (upd_any m hm l hl hL t tx (fun x => p x ∧ x < w.heap.size) (fun x => q x ∧ x < w.heap.size) u ux _ w.heap.size B hw ⟨hwf, h1.bound.below hb, h2.bound.below hb, fun x a b => hd x a.1 b.1, fun x hx => ⟨hB x hx.1, by have := hx.2; omega⟩, fun x hx => by have := hx.2; omega, hBw, Nat.le_trans hBw hb.size, h2B, has.below hb has.1, ⟨1, hn⟩⟩)
  have HB := Lib.hid hb
  have c0 := Rv.cells1 (heap_alloc_new w (.cells #[.int .i64 0] 3))
  have f0 := Rv.frozen1 (heap_alloc_new w (.cells #[.int .i64 0] 3))
  have hBw2 := hBw
  generalize bs (36 :: segs l) = T at *
  generalize bs (segs l) = T1 at *
  clear hn hb h1 h2 hd hB hwf hw has hL hl
  rcases hm with rfl | rfl | rfl
  all_goals
    go_enter Tryz.func19, Tryz.ntmps19
    go_wp2_with (go_at_call 28; (with_reducible refine UA.out.mono ?_); rintro e w2 ⟨u2, ch, rfl, hr⟩; have HR := Lib.hid hr; clear hr)
    all_goals
      refine bodyPost_ret (v := .tuple #[u2, .bool ch, .bool true]) ?_ rfl ⟨_, _, rfl, HR.out.io.mono (fun x hx => ?_), (HB.out.mono hBw).trans HR.out.below⟩
      · simp only [results, show Tryz.f19.results = #[.tmp 8, .tmp 9, .tmp 10] by kernel_rfl]
        go_simp
      · rcases hx with h | h | h
        · exact .inl h.1
        · exact .inr (.inl h.1)
        · exact .inr (.inr (Nat.le_trans HB.out.size h))
theorem fI_range {t : J} {s : Sp} : fI t s = -1 ∨ ∃ k : Nat, fI t s = k := by
  unfold fI
  split
  · split
    · exact .inr ⟨_, rfl⟩
    · exact .inl rfl
  · split
    · rcases idx_range (x := s.x) (l := t.ns) (i := 0) (Int.le_refl _) with h | ⟨k, h1, _⟩
      · exact .inl h.1
      · exact .inr ⟨k, by rw [h1]; omega⟩
    · exact .inl rfl
theorem wgs_set : ∀ {l : List J} (k : Nat) {x : J}, Wgs l → Wg x → Wgs (l.set k x)
  | [], k, x, h, hx => trivial
  | t :: r, 0, x, h, hx => ⟨hx, h.2⟩
  | t :: r, k + 1, x, h, hx => ⟨h.1, wgs_set k h.2 hx⟩
theorem wgs_push : ∀ {l : List J} {x : J}, Wgs l → Wg x → Wgs (l ++ [x])
  | [], x, h, hx => ⟨hx, trivial⟩
  | t :: r, x, h, hx => ⟨h.1, wgs_push h.2 hx⟩
theorem upd_wg (m : Int) (tx : J) (hx : Wf tx) : ∀ (l : List Sp) (t : J), (∀ s ∈ l, Stp s) → Way t l → Wf t → Wg (upd m tx l t)
  | [], t, _, _, ht => by
    show Wg (fm m tx t)
    unfold fm
    split
    · refine .inr (.inr (.inr (.inr (.inl ⟨rfl, rfl, rfl, rfl, ?_, wgs_push (Wgs.of fun y hy => (ls_wf2 ht y hy).wg) hx.wg⟩))))
      have := ls_len ht
      rw [List.length_append]
      simp
      omega
    · exact hx.wg
  | s :: r, t, hL, hw, ht => by
    cases hw with
    | cons _ _ _ k hf hk hw' =>
      show Wg (updJ _ _ (s :: r) t)
      rw [updJ_at _ _ _ _ _ k hf hk]
      have ih := upd_wg m tx hx r t.is[k] (fun y hy => hL y (.tail _ hy)) hw' (ht.kids.1.get _ (List.getElem_mem hk))
      have hws := wgs_set k ht.wg.kids.1 ih
      have hk45 : t.k = 4 ∨ t.k = 5 := by
        unfold fI at hf
        cases hb : s.b
        · rw [hb, if_neg (by simp)] at hf
          by_cases h : t.k = 5
          · exact .inr h
          · rw [if_neg h] at hf; omega
        · rw [hb, if_pos rfl] at hf
          by_cases h : t.k = 4 ∧ s.i < t.is.length
          · exact .inl h.1
          · rw [if_neg h] at hf; omega
      obtain ⟨kk, n, sx, ns, is⟩ := t
      have hk45 : kk = 4 ∨ kk = 5 := hk45
      rcases ht.wg with ⟨h, _⟩ | ⟨h, _⟩ | ⟨h, _⟩ | ⟨h, _⟩ | ⟨rfl, rfl, rfl, rfl, h8, h⟩ | ⟨rfl, rfl, rfl, hl, h8, hd, hn, h⟩
      · subst h; omega
      · subst h; omega
      · subst h; omega
      · subst h; omega
      · exact .inr (.inr (.inr (.inr (.inl ⟨rfl, rfl, rfl, rfl, by rw [List.length_set]; exact h8, hws⟩))))
      · exact .inr (.inr (.inr (.inr (.inr ⟨rfl, rfl, rfl, by rw [List.length_set]; exact hl, by rw [List.length_set]; exact h8, hd, hn, hws⟩))))
    | last _ _ hf hs =>
      show Wg (updJ _ _ [s] t)
      rw [updJ_no _ _ _ _ _ hf]
      unfold am
      by_cases h0 : m = 0
      · rw [if_pos h0]
        show Wg (addJ t s tx)
        unfold addJ
        by_cases hc : (s.b = true ↔ t.k = 4) ∧ (s.b = true ∨ t.k = 5)
        · rw [if_pos hc]
          have hS := hL s (.head _)
          have h4 := ht.short
          obtain ⟨kk, n, sx, ns, is⟩ := t
          have hfx : s.b = false → s.x ∉ ns := fun hb => by
            unfold fI at hf
            have h5 : kk = 5 := hc.2.resolve_left (by rw [hb]; exact Bool.noConfusion)
            rw [hb, if_neg (by simp), if_pos (show (J.mk kk n sx ns is).k = 5 from h5)] at hf
            rcases idx_range (x := s.x) (l := ns) (i := 0) (Int.le_refl _) with h | ⟨k, h1, _⟩
            · exact h.2
            · have hf : idx s.x ns 0 = -1 := hf
              omega
          rcases ht.wg with ⟨h, _⟩ | ⟨h, _⟩ | ⟨h, _⟩ | ⟨h, _⟩ | ⟨rfl, rfl, rfl, rfl, h8, h⟩ | ⟨rfl, rfl, rfl, hl, h8, hd, hn, h⟩
          · exact absurd (show (s.b = true ↔ kk = 4) ∧ (s.b = true ∨ kk = 5) from hc) (fun hc => hc.2.elim (fun e => by have := hc.1.1 e; omega) (fun e => by omega))
          · exact absurd (show (s.b = true ↔ kk = 4) ∧ (s.b = true ∨ kk = 5) from hc) (fun hc => hc.2.elim (fun e => by have := hc.1.1 e; omega) (fun e => by omega))
          · exact absurd (show (s.b = true ↔ kk = 4) ∧ (s.b = true ∨ kk = 5) from hc) (fun hc => hc.2.elim (fun e => by have := hc.1.1 e; omega) (fun e => by omega))
          · exact absurd (show (s.b = true ↔ kk = 4) ∧ (s.b = true ∨ kk = 5) from hc) (fun hc => hc.2.elim (fun e => by have := hc.1.1 e; omega) (fun e => by omega))
          · have hb : s.b = true := hc.1.2 rfl
            rw [hb]
            exact .inr (.inr (.inr (.inr (.inl ⟨rfl, rfl, rfl, rfl, by have := h4.1; rw [List.length_append]; simp; omega, wgs_push h hx.wg⟩))))
          · have hb : s.b = false := by
              cases hb : s.b
              · rfl
              · exact absurd (show (5 : Int) = 4 from hc.1.1 hb) (by decide)
            rw [hb]
            refine .inr (.inr (.inr (.inr (.inr ⟨rfl, rfl, rfl, by simp [hl], by have := h4.1; rw [List.length_append]; simp; omega, nodup_push hd (hfx hb), fun y hy => ?_, wgs_push h hx.wg⟩))))
            rcases List.mem_append.1 hy with hy | hy
            · exact hn y hy
            · rw [List.mem_singleton.1 hy]
              exact ⟨hS.2.1, hS.2.2 hb⟩
        · rw [if_neg hc]; exact ht.wg
      · rw [if_neg h0]; exact ht.wg
end Go.Proofs.YtmelgankbegjaaaGreatDoor.Js

set_option linter.unusedVariables false
set_option linter.unusedSimpArgs false
set_option maxRecDepth 100000
set_option maxHeartbeats 8000000
namespace Go.Proofs.YtmelgankbegjaaaGreatDoor.Js
open Go.RowKit Go.Proofs.YtmelgankbegjaaaGreatDoor.B

attribute [local go_sem] as4_4 as4_65 as4_9 as4_67 as4_68 as65_4 as65_65 as65_9 as65_67 as65_68 as9_4 as9_65 as9_9 as9_67 as9_68 as67_4 as67_65 as67_9 as67_67 as67_68 as68_4 as68_65 as68_9 as68_67 as68_68 atn_4 atn_65 atn_9 atn_67 atn_68
theorem f31 (x : Nat) (w : World) : (callFunc 30 #[.float .f64 x]).run Tryz.prog w = .ok (.value (.int .u64 (x : Int))) w := by kernel_rfl
theorem nn_flat {p : Nat → Prop} {W : World} (k n : Int) (s : ByteArray) : NN p W (.mk k n s [] []) (.agg #[.int .i64 k, .int .u64 (nb k n), .string s, .slice none 0 0, .slice none 0 0]) :=
  ⟨none, 0, none, 0, [], rfl, Rp.nil _ _ _, Rp.nil _ _ _, rfl⟩
theorem node_flat (t : J) (p : Nat → Prop) (u : Value) (w : World) (hg : Wg t) (h : IV p w t u) (hk : t.k < 4) : Calls Tryz.prog 21 #[u] w fun e w' => ∃ v, e = .returned v ∧ NN (fun x => w.heap.size ≤ x) w' t v ∧ Below w.heap.size w w' := by
  have HZ := Lib.hid (heap_alloc_new w nz)
  obtain ⟨s0, s1, s2, s3, s4⟩ := Rv.cells5 HZ.out
  obtain ⟨z0, z1, z2, z3, z4⟩ := Rv.frozen5 HZ.out
  obtain ⟨k, n, s, ns, is⟩ := t
  have hk : k < 4 := hk
  have f31 := f31 (jw n)
  rcases h with ⟨e, rfl⟩ | ⟨e, rfl⟩ | ⟨e, rfl⟩ | ⟨e, rfl⟩ | ⟨e, _⟩ | ⟨e, _⟩
  case inr.inr.inr.inr.inl => omega
  case inr.inr.inr.inr.inr => omega
  all_goals rcases hg with ⟨e2, a, b, rfl, rfl⟩ | ⟨e2, a, b, rfl, rfl⟩ | ⟨e2, a, a2, b, rfl, rfl⟩ | ⟨e2, a, b, rfl, rfl⟩ | ⟨e2, _⟩ | ⟨e2, _⟩ <;> first | omega | skip
  · subst e a b
    clear hk f31 e2
    go_enter Tryz.func21, Tryz.ntmps21
    go_wp2
    obtain ⟨q0, q1, q2, q3, q4⟩ := Rv.cells5 (heap_alloc_new w (.cells #[.int .i64 0, .int .u64 0, .string ⟨#[]⟩, .slice none 0 0, .slice none 0 0] 34))
    refine bodyPost_ret (v := .agg #[.int .i64 0, .int .u64 0, .string ⟨#[]⟩, .slice none 0 0, .slice none 0 0]) ?_ rfl ⟨_, rfl, nn_flat 0 0 .empty, (Below.refl w.heap.size w).alloc (Nat.le_refl _) _⟩
    simp only [results, show Tryz.f21.results = #[.cell 2 34] by kernel_rfl]
    go_simp
  · subst e b
    clear hk f31 e2
    rcases a with rfl | rfl
    · go_enter Tryz.func21, Tryz.ntmps21
      go_wp2
      obtain ⟨q0, q1, q2, q3, q4⟩ := Rv.cells5 (heap_alloc_new w (.cells #[.int .i64 1, .int .u64 0, .string ⟨#[]⟩, .slice none 0 0, .slice none 0 0] 34))
      refine bodyPost_ret (v := .agg #[.int .i64 1, .int .u64 0, .string ⟨#[]⟩, .slice none 0 0, .slice none 0 0]) ?_ rfl ⟨_, rfl, nn_flat 1 0 .empty, (Below.refl w.heap.size w).alloc (Nat.le_refl _) _⟩
      simp only [results, show Tryz.f21.results = #[.cell 2 34] by kernel_rfl]
      go_simp
    · go_enter Tryz.func21, Tryz.ntmps21
      go_wp2
      obtain ⟨q0, q1, q2, q3, q4⟩ := Rv.cells5 (heap_alloc_new w (.cells #[.int .i64 1, .int .u64 1, .string ⟨#[]⟩, .slice none 0 0, .slice none 0 0] 34))
      refine bodyPost_ret (v := .agg #[.int .i64 1, .int .u64 1, .string ⟨#[]⟩, .slice none 0 0, .slice none 0 0]) ?_ rfl ⟨_, rfl, nn_flat 1 1 .empty, (Below.refl w.heap.size w).alloc (Nat.le_refl _) _⟩
      simp only [results, show Tryz.f21.results = #[.cell 2 34] by kernel_rfl]
      go_simp
  · subst e b
    clear hk e2
    go_enter Tryz.func21, Tryz.ntmps21
    go_wp2
    obtain ⟨q0, q1, q2, q3, q4⟩ := Rv.cells5 (heap_alloc_new w (.cells #[.int .i64 2, .int .u64 (jw n : Int), .string ⟨#[]⟩, .slice none 0 0, .slice none 0 0] 34))
    refine bodyPost_ret (v := .agg #[.int .i64 2, .int .u64 (jw n : Int), .string ⟨#[]⟩, .slice none 0 0, .slice none 0 0]) ?_ rfl ⟨_, rfl, nn_flat 2 n .empty, (Below.refl w.heap.size w).alloc (Nat.le_refl _) _⟩
    simp only [results, show Tryz.f21.results = #[.cell 2 34] by kernel_rfl]
    go_simp
  · subst e a
    clear hk f31 e2
    go_enter Tryz.func21, Tryz.ntmps21
    go_wp2
    obtain ⟨q0, q1, q2, q3, q4⟩ := Rv.cells5 (heap_alloc_new w (.cells #[.int .i64 3, .int .u64 0, .string s, .slice none 0 0, .slice none 0 0] 34))
    refine bodyPost_ret (v := .agg #[.int .i64 3, .int .u64 0, .string s, .slice none 0 0, .slice none 0 0]) ?_ rfl ⟨_, rfl, nn_flat 3 0 s, (Below.refl w.heap.size w).alloc (Nat.le_refl _) _⟩
    simp only [results, show Tryz.f21.results = #[.cell 2 34] by kernel_rfl]
    go_simp
end Go.Proofs.YtmelgankbegjaaaGreatDoor.Js

set_option linter.unusedVariables false
set_option linter.unusedSimpArgs false
set_option maxRecDepth 100000
set_option maxHeartbeats 8000000
namespace Go.Proofs.YtmelgankbegjaaaGreatDoor.Js
open Go.RowKit Go.Proofs.YtmelgankbegjaaaGreatDoor.B

attribute [local go_sem] as67_4 as67_65 as67_9 as67_67
theorem nn_push {B E : Nat} {W W' : World} {v v' u : Value} {ts : List J} {t : J} {hs : List Value} (h : NNs (fun x => B ≤ x ∧ some x ≠ v.ownBlock) W ts hs) (hu : NN (fun x => E ≤ x) W t u) (hE : ∀ k, v.ownBlock = some k → k < E) (hBE : B ≤ E)
    (hg : W.grownBy W' v.ownBlock) (hat : v'.ownBlock = v.ownBlock ∨ ∃ k, v'.ownBlock = some k ∧ W.heap.size ≤ k) : NNs (fun x => B ≤ x ∧ some x ≠ v'.ownBlock) W' (ts ++ [t]) (hs ++ [u]) := by
  have new : ∀ x, (B ≤ x ∧ some x ≠ v.ownBlock) → x < W.heap.size → (B ≤ x ∧ some x ≠ v'.ownBlock) := fun x hx hl => ⟨hx.1, fun e => by
    rcases hat with ha | ⟨k, hk, hk2⟩
    · exact hx.2 (e.trans ha)
    · rw [hk] at e; injection e with e; omega⟩
  have h1 := ((h.weak (q := fun x => (B ≤ x ∧ some x ≠ v.ownBlock) ∧ x < W.heap.size) (fun x hl hx => ⟨hx, hl⟩)).grown hg (fun x hx => hx.1.2)).weak (fun x _ hx => new x hx.1 hx.2)
  have h2 := ((hu.weak (q := fun x => (B ≤ x ∧ some x ≠ v.ownBlock) ∧ x < W.heap.size) (fun x hl hx => ⟨⟨Nat.le_trans hBE hx, fun e => by have := hE x e.symm; have hx : E ≤ x := hx; omega⟩, hl⟩)).grown hg (fun x hx => hx.1.2)).weak (fun x _ hx => new x hx.1 hx.2)
  exact h1.push h2
/-- Trees that are the same, one by one. -/
def Eqs (ds ts : List J) : Prop := ∀ j (h : j < ds.length) (h2 : j < ts.length), eqJ ds[j] ts[j] = true ∧ Wg ds[j]
theorem Eqs.push {ds ts : List J} {d : J} (h : Eqs ds ts) (hl : ds.length < ts.length) (he : eqJ d ts[ds.length] = true) (hg : Wg d) : Eqs (ds ++ [d]) ts := by
  intro j h1 h2
  by_cases hj : j < ds.length
  · rw [List.getElem_append_left hj]
    exact h j hj h2
  · have e : j = ds.length := by simp at h1; omega
    subst e
    rw [show (ds ++ [d])[ds.length]'h1 = d by simp]
    exact ⟨he, hg⟩
theorem turned_any (ts : List J) (A : Option Addr) (c : Nat) (vs : List Value) (w : World) (hr : Rd w 1 (.slice A ts.length c) ts.length vs) (hl : vs.length = ts.length) (h8 : ts.length ≤ 8)
    (IH0 : ∀ i (hi : i < ts.length) (hv : i < vs.length) (W : World), Below w.heap.size w W → Calls Tryz.prog 21 #[vs[i]] W fun e w' => ∃ v d, e = .returned v ∧ NN (fun x => W.heap.size ≤ x) w' d v ∧ eqJ d ts[i] = true ∧ Wg d ∧ Below W.heap.size W w') :
    Calls Tryz.prog 31 #[.slice A ts.length c, .func (.func 21) #[] #[]] w fun e w' => ∃ A2 c2 ds hs, e = .returned (.slice A2 ts.length c2) ∧ ds.length = ts.length ∧ w'.ownsRow w.heap.size 34 5 (.slice A2 ts.length c2) ts.length (flat hs) ∧
      NNs (fun x => w.heap.size ≤ x ∧ some x ≠ (Value.slice A2 ts.length c2).ownBlock) w' ds hs ∧ Eqs ds ts ∧ Below w.heap.size w w' := by
  have HR := Lib.hid hr
  have HL := Lib.hid hl
  have IH0 := Lib.hid IH0
  clear hr hl
  go_enter Tryz.func31, Tryz.ntmps31
  go_upto_region 3 with fail
  go_loopw [5, 7, 10] (fun v5 v7 v10 wr => ∃ (i : Nat) (A5 : Option Addr) (c5 : Nat) (ds : List J) (hs : List Value), v10 = .int .i64 (i : Int) ∧ i ≤ ts.length ∧ v5 = .slice A5 i c5 ∧ Hid (ds.length = i) ∧ Hid (wr.ownsRow w.heap.size 34 5 (.slice A5 i c5) i (flat hs)) ∧ Hid (NNs (fun x => w.heap.size ≤ x ∧ some x ≠ (Value.slice A5 i c5).ownBlock) wr ds hs) ∧ Hid (Eqs ds ts) ∧ Hid (Below w.heap.size w wr)) (fun _ _ v10 _ => (ts.length - (intOf v10)).toNat)
  case atStart => exact ⟨0, none, 0, [], [], rfl, Nat.zero_le _, rfl, Lib.hid rfl, Lib.hid (World.ownsRow_nil _ _ _ _), Lib.hid rfl, Lib.hid (fun j h => absurd h (by simp)), Lib.hid (Below.refl _ _)⟩
  case round =>
    obtain ⟨i, A5, c5, ds, hs, rfl, hi, rfl, HD, HO, HV, HE, HB⟩ := hrel
    by_cases hlt : i < ts.length
    · have hv : i < vs.length := by have := HL.out; omega
      obtain ⟨bi, oi, ci, e1, _, _, hbi, hci⟩ := HR.out.open (by omega)
      injection e1 with ea _ ec
      subst ea ec
      have xc := (HB.out.cell hbi).trans (hci i vs[i] (List.getElem?_eq_getElem hv))
      have IH := Lib.hid (IH0.out i hlt hv wr HB.out)
      have HOL := Lib.hid (fun k hk => (HO.out.lt k hk).2)
      clear hci hbi
      generalize vs[i] = x at *
      have hbs : w.heap.size ≤ wr.heap.size := HB.out.size
      go_wp2_with (first
        | (go_at_call 21; (with_reducible refine IH.out.mono ?_); rintro e w5 ⟨u, d, rfl, hu, he, hg, hb⟩; obtain ⟨z0, z1, z2, z3, z4, ez, hz⟩ := five_nodes hu; subst ez; have HU := Lib.hid hu; have HDE := Lib.hid (And.intro he hg); have HO5 := Lib.hid (own_below HO.out hb); have HV5 := Lib.hid (HV.out.below hb); have HB5 := Lib.hid (HB.out.trans (hb.mono HB.out.size)); have hs5 := hb.size; have HZZ := Lib.hid hz; clear hu hb he hg hz)
        | (at_builtin; (refine app1 (w0 := w5) (W := w5) w.heap.size rfl (.tmp 14) (.tmp 18) 32 34 (.agg #[.int .i64 0, .int .u64 0, .string ⟨#[]⟩, .slice none 0 0, .slice none 0 0]) 5 80 rfl Tryz.underlying32 info32 rfl (by omega) (by omega) _ _ _ #[z0, z1, z2, z3, z4] rfl rfl rfl (by intro x hx; exact HZZ.out x hx) HO5.out ((Below.refl w5.heap.size w5).mono (by omega)) (by omega) (by omega) ?_; intro v7 w7 hown7 _ hg7 hat7; obtain ⟨A7, c7, rfl, _⟩ := (Rd.of_own hown7).shape; have HV7 := Lib.hid (nn_push HV5.out HU.out HOL.out hbs hg7 hat7); have HB7 := Lib.hid (HB5.out.grown hg7 HB5.out.size (fun k hk => by have := (HO5.out.lt k hk).1; omega)); have HO7 := Lib.hid hown7; clear hown7 hg7 hat7; (try go_frame))))
      go_roundw
      case rel => exact ⟨i + 1, A7, c7, ds ++ [d], hs ++ [.agg #[z0, z1, z2, z3, z4]], by go_num, by omega, rfl, Lib.hid (by have := HD.out; simp [this]), Lib.hid (by
          have h := HO7.out
          rw [show flat (hs ++ [.agg #[z0, z1, z2, z3, z4]]) = flat hs ++ [z0, z1, z2, z3, z4] by simp [flat, Value.cells]]
          exact h), HV7, Lib.hid (by
          have hd := HD.out
          subst hd
          exact HE.out.push hlt HDE.out.1 HDE.out.2), HB7⟩
      case measure => simp [intOf]; omega
    · obtain rfl : i = ts.length := by omega
      go_wp2
      go_ret
      exact ⟨A5, c5, ds, hs, rfl, HD.out, HO.out, HV.out, HE.out, HB.out⟩
theorem arr_openV {p : Nat → Prop} {w : World} {t : J} {u : Value} (h : IV p w t u) (hk : t.k = 4) : ∃ A c vs, u = .iface 74 (.slice A t.is.length c) ∧ Rp p w 1 (.slice A t.is.length c) t.is.length vs ∧ IVs p w t.is vs := by
  obtain ⟨k2, n2, s2, ns2, is2⟩ := t
  have hk2 : k2 = 4 := hk
  subst hk2
  rcases h with ⟨h, _⟩ | ⟨h, _⟩ | ⟨h, _⟩ | ⟨h, _⟩ | ⟨_, h⟩ | ⟨h, _⟩
  · omega
  · omega
  · omega
  · omega
  · exact h
  · omega
theorem node_arr (t : J) (IH0 : ∀ s ∈ t.is, ∀ (p : Nat → Prop) (u : Value) (w : World), Wg s → IV p w s u → Calls Tryz.prog 21 #[u] w fun e w' => ∃ v d, e = .returned v ∧ NN (fun x => w.heap.size ≤ x) w' d v ∧ eqJ d s = true ∧ Wg d ∧ Below w.heap.size w w')
    (p : Nat → Prop) (u : Value) (w : World) (hg : Wg t) (h : IV p w t u) (hk : t.k = 4) : Calls Tryz.prog 21 #[u] w fun e w' => ∃ v d, e = .returned v ∧ NN (fun x => w.heap.size ≤ x) w' d v ∧ eqJ d t = true ∧ Wg d ∧ Below w.heap.size w w' := by
  obtain ⟨A, c, vs, rfl, r1, i1⟩ := arr_openV h hk
  obtain ⟨hk8, _, h8, _⟩ := hg.kids
  have HZ := Lib.hid (heap_alloc_new w nz)
  have hal := (Below.refl w.heap.size w).alloc (Nat.le_refl _) nz
  have hsz : (w.alloc nz).heap.size = w.heap.size + 1 := by simp
  have TU := Lib.hid (turned_any t.is A c vs (w.alloc nz) (r1.1.below hal) i1.len h8 (fun i hi hv W hb => IH0 _ (List.getElem_mem hi) p _ W (hk8.get _ (List.getElem_mem hi)) ((i1.get i hi hv).below (hal.trans (hb.mono hal.size)))))
  have HT := Lib.hid (show t.n = 0 ∧ t.s = .empty from by
    obtain ⟨k, n, s, ns, is⟩ := t
    have hk : k = 4 := hk
    rcases hg with ⟨e, a, b, _⟩ | ⟨e, _⟩ | ⟨e, _⟩ | ⟨e, _⟩ | ⟨e, a, b, _⟩ | ⟨e, a, b, _⟩ <;> first | omega | exact ⟨a, b⟩)
  have HK := Lib.hid hk
  have HAL := Lib.hid hal
  rw [hsz] at TU
  clear IH0 h hg r1 i1 hk8 hal hk
  go_enter Tryz.func21, Tryz.ntmps21
  go_upto_region 15 with fail
  generalize w.alloc nz = w1 at *
  go_wp2_with (go_at_call 31; (with_reducible refine TU.out.mono ?_); rintro e w2 ⟨A2, c2, ds, hs, rfl, hl, ho, hn, he, hb⟩; have HL := Lib.hid hl; have HO := Lib.hid ho; have HN := Lib.hid hn; have HE := Lib.hid he; have hq := (hb.block _ (by omega)).trans HZ.out; obtain ⟨s0, s1, s2, s3, s4⟩ := Rv.cells5 hq; obtain ⟨z0, z1, z2, z3, z4⟩ := Rv.frozen5 hq; have HQ := Lib.hid hq; have HB2 := Lib.hid (HAL.out.trans (hb.mono (by omega))); clear hl ho hn he hb hq)
  have sb : ∀ (V : World) (j : Nat) (u : Value), Below w.heap.size w V → Below w.heap.size w (V.setCell ⟨w.heap.size, j, none⟩ u) := fun V j u h => h.setCell (Nat.le_refl _) u
  have HB5 := Lib.hid (sb _ 4 (.slice A2 t.is.length c2) (sb _ 3 (.slice none 0 0) (sb _ 2 (.string ⟨#[]⟩) (sb _ 1 (.int .u64 0) (sb _ 0 (.int .i64 4) HB2.out)))))
  have gs := fun (W : World) j u => grown_set (Below.refl _ W) w.heap.size j u
  have HNN := Lib.hid (show NN (fun x => w.heap.size + 1 ≤ x) w2 (.mk 4 0 .empty [] ds) (.agg #[.int .i64 4, .int .u64 (nb 4 0), .string .empty, .slice none 0 0, .slice A2 ds.length c2]) from by
    rw [← HL.out] at HO HN
    exact ⟨none, 0, A2, c2, hs, rfl, Rp.nil _ _ _, (Rp.own HO.out).weak (fun x _ hx => hx.1), HN.out.weak (fun x _ hx => hx.1)⟩)
  have HN5 := Lib.hid ((HNN.out.grown (grown_then (grown_then (grown_then (grown_then (gs w2 0 (.int .i64 4)) (gs _ 1 (.int .u64 0))) (gs _ 2 (.string ⟨#[]⟩))) (gs _ 3 (.slice none 0 0))) (gs _ 4 (.slice A2 t.is.length c2))) (fun x hx e => by injection e with e; omega)).weak (q := fun x => w.heap.size ≤ x) (fun x _ hx => by omega))
  obtain ⟨q0, q1, q2, q3, q4⟩ := Rv.cells5 (Rv.sets5 HQ.out (.int .i64 4) (.int .u64 0) (.string ⟨#[]⟩) (.slice none 0 0) (.slice A2 t.is.length c2))
  clear s0 s1 s2 s3 s4 z0 z1 z2 z3 z4 gs sb
  rw [HL.out] at HN5
  refine bodyPost_ret (v := .agg #[.int .i64 4, .int .u64 0, .string ⟨#[]⟩, .slice none 0 0, .slice A2 t.is.length c2]) ?_ rfl ⟨_, .mk 4 0 .empty [] ds, rfl, HN5.out, ?_, ?_, HB5.out⟩
  · simp only [results, show Tryz.f21.results = #[.cell 2 34] by kernel_rfl]
    go_simp
  · refine (eqJ_iff (.mk 4 0 .empty [] ds) t).2 ⟨HK.out.symm, HT.out.1.symm, HT.out.2.symm, HL.out, fun i hi => ?_⟩
    have hi : i < ds.length := hi
    rw [it_arr (a := .mk 4 0 .empty [] ds) (show (4 : Int) ≠ 5 by decide) i hi (by have := HL.out; omega)]
    exact (HE.out i hi (by have := HL.out; omega)).1
  · refine .inr (.inr (.inr (.inr (.inl ⟨rfl, rfl, rfl, rfl, by have := HL.out; omega, Wgs.of fun d hd => ?_⟩))))
    obtain ⟨i, hi, rfl⟩ := List.getElem_of_mem hd
    exact (HE.out i hi (by have := HL.out; omega)).2
end Go.Proofs.YtmelgankbegjaaaGreatDoor.Js

/- Two values are merged, as the code has it. Conditions: those written at each lemma. -/
import Derived.Test.YtmelgankbegjaaaMd
set_option linter.unusedVariables false
set_option linter.unusedSimpArgs false
set_option maxRecDepth 100000
set_option maxHeartbeats 8000000
namespace Go.Proofs.Ytmelgankbegjaaa.Js
open Go.RowKit Go.Proofs.Ytmelgankbegjaaa.B

/-- Two objects on the way to one: what has been merged of the names that have come, and whose each block is. -/
structure MS (t1 t2 : J) (vs2 : List Value) (p q : Nat → Prop) (w : World) (B b1 b2 : Nat) (left : Lit → Bool) (ns : List ByteArray) (is : List J) (vs : List Value) (o : Nat → Option Nat) (W : World) : Prop where
  lf : ∀ z, left z = true → Maps.has (dat t2.ns vs2) z = true
  mp : W.ownsMap Try.prog 9 RH b1 ns.length (dat ns vs)
  lv : vs.length = ns.length
  mi : MI t1 t2 (fun x => left (kl x) = false) ns is
  io : ∀ i (h1 : i < is.length) (h2 : i < vs.length), IO (fun x => o x = some i) W is[i] vs[i]
  jo : ∀ j (h0 : j < t2.ns.length) (h1 : j < t2.is.length) (h2 : j < vs2.length), left (kl t2.ns[j]) = true → IO (fun x => o x = some (1000 + j)) W t2.is[j] vs2[j]
  ob : ∀ x i, o x = some i → x < W.heap.size ∧ x ≠ b1 ∧ x ≠ b2 ∧ x ≠ w.heap.size ∧ (p x ∨ q x ∨ w.heap.size ≤ x)
  sm : Same (fun x => ¬ p x ∧ ¬ q x) w W
  bl : Below B w W
  rl : w.heap.size < W.heap.size
/-- What stands fast on the way. -/
structure MC (t1 t2 : J) (vs2 : List Value) (p q : Nat → Prop) (w : World) (B b1 b2 : Nat) : Prop where
  w1 : Wf t1
  w2 : Wf t2
  k1 : t1.k = 5
  k2 : t2.k = 5
  l1 : t1.ns.length = t1.is.length
  d1 : t1.ns.Nodup
  l2 : t2.ns.length = t2.is.length
  d2 : t2.ns.Nodup
  v2 : vs2.length = t2.ns.length
  p1 : p b1
  q2 : q b2
  ne : b1 ≠ b2
  s1 : b1 < w.heap.size
  s2 : b2 < w.heap.size
  B1 : B ≤ b1
  B2 : B ≤ w.heap.size
  hd : ∀ x, p x → ¬ q x
theorem same_key {x y : ByteArray} {left : Lit → Bool} : ((left (kl y) && !(kl y).sameKey (kl x)) = false) ↔ (left (kl y) = false ∨ y = x) := by
  rw [Bool.and_eq_false_iff]
  constructor
  · rintro (h | h)
    · exact .inl h
    · refine .inr (kl_inj (WideAt.sameKey_eq ?_))
      cases hh : (kl y).sameKey (kl x)
      · rw [hh] at h; cases h
      · rfl
  · rintro (h | rfl)
    · exact .inl h
    · exact .inr (by rw [WideAt.sameKey_self (kl_key y)]; rfl)
theorem MI.len {a b : J} {come : ByteArray → Prop} {ns : List ByteArray} {is : List J} (h : MI a b come ns is) (wa : Wf a) (wb : Wf b) : ns.length ≤ 8 := by
  have h1 := nd_len ns (a.ns ++ b.ns) h.hd (fun x hx => List.mem_append.2 (((h.hn x).1 hx).imp id (fun e => e.1)))
  rw [List.length_append] at h1
  have := wa.short
  have := wb.short
  omega
section
variable {t1 t2 : J} {vs2 : List Value} {p q : Nat → Prop} {w : World} {B b1 b2 : Nat} {left : Lit → Bool} {ns : List ByteArray} {is : List J} {vs : List Value} {o : Nat → Option Nat} {W W' : World}
theorem MS.next (h : MS t1 t2 vs2 p q w B b1 b2 left ns is vs o W) (C : MC t1 t2 vs2 p q w B b1 b2) (hg : W.grownBy W' (some w.heap.size)) : MS t1 t2 vs2 p q w B b1 b2 left ns is vs o W' where
  lf := h.lf
  mp := h.mp.kept hg (fun e => by injection e with e; have := C.s1; omega)
  lv := h.lv
  mi := h.mi
  io i h1 h2 := (h.io i h1 h2).keep (.grown hg (fun b hb e => by injection e with e; exact (h.ob b i hb).2.2.2.1 e))
  jo j h0 h1 h2 hl := (h.jo j h0 h1 h2 hl).keep (.grown hg (fun b hb e => by injection e with e; exact (h.ob b _ hb).2.2.2.1 e))
  ob x i e := ⟨Nat.lt_of_lt_of_le (h.ob x i e).1 hg.size, (h.ob x i e).2⟩
  sm := ⟨Nat.le_trans h.sm.1 hg.size, fun b hb hp => (hg.block b (Nat.lt_of_lt_of_le hb h.sm.1) (fun e => by injection e with e; omega)).trans (h.sm.2 b hb hp)⟩
  bl := h.bl.grown hg (Nat.le_trans C.B2 h.sm.1) (fun k hk => by injection hk with hk; have := C.B2; omega)
  rl := Nat.lt_of_lt_of_le h.rl hg.size
theorem MS.new (h : MS t1 t2 vs2 p q w B b1 b2 left ns is vs o W) (C : MC t1 t2 vs2 p q w B b1 b2) (j : Nat) (hj : j < t2.ns.length) (hl : left (kl t2.ns[j]) = true) (hx : t2.ns[j] ∉ ns)
    (hm : W'.ownsMap Try.prog 9 RH b1 (ns.length + 1) ((dat ns vs).put (kl t2.ns[j]) (.held (vs2[j]'(by have := C.v2; omega))))) (hg : W.grownBy W' (some b1)) :
    MS t1 t2 vs2 p q w B b1 b2 (fun z => left z && !z.sameKey (kl t2.ns[j])) (ns ++ [t2.ns[j]]) (is ++ [t2.is[j]'(by have := C.l2; omega)]) (vs ++ [vs2[j]'(by have := C.v2; omega)]) (fun y => if o y = some (1000 + j) then some ns.length else o y) W' := by
  have c1 := C.l2
  have c2 := C.v2
  have hn8 := h.mi.len C.w1 C.w2
  have hil := h.mi.hl
  have keep : ∀ {t : J} {v : Value} (i : Nat), IO (fun x => o x = some i) W t v → IO (fun x => o x = some i) W' t v := fun i hi => hi.keep (.grown hg (fun b hb e => by injection e with e; exact (h.ob b i hb).2.1 e))
  exact {
    lf := fun z hz => h.lf z (by rw [Bool.and_eq_true] at hz; exact hz.1)
    mp := by rw [dat_push h.lv.symm, List.length_append]; exact hm
    lv := by simp [h.lv]
    mi := (h.mi.new hx ⟨j, hj, by omega, rfl, rfl⟩).congr (fun x hx => (same_key (x := t2.ns[j])).symm)
    io := fun i h1 h2 => by
      by_cases hi : i < is.length
      · rw [List.getElem_append_left hi, List.getElem_append_left (by have := h.lv; omega)]
        exact (keep i (h.io i hi (by have := h.lv; omega))).mono (fun x hx => by (try dsimp only); rw [if_neg (fun e => by rw [hx] at e; injection e with e; omega)]; exact hx)
      · have e : i = is.length := by simp at h1; omega
        subst e
        have e1 : (is ++ [t2.is[j]'(by omega)])[is.length]'h1 = t2.is[j]'(by omega) := by simp
        have e2 : (vs ++ [vs2[j]'(by omega)])[is.length]'h2 = vs2[j]'(by omega) := by
          have : is.length = vs.length := by have := h.lv; omega
          simp [this]
        rw [e1, e2]
        exact (keep _ (h.jo j hj (by omega) (by omega) hl)).mono (fun x hx => by (try dsimp only); rw [if_pos hx, hil])
    jo := fun j' h0 h1 h2 hl' => by
      rw [Bool.and_eq_true] at hl'
      refine (keep _ (h.jo j' h0 h1 h2 hl'.1)).mono (fun x hx => ?_)
      try dsimp only
      rw [if_neg (fun e => ?_)]
      · exact hx
      · rw [hx] at e
        injection e with e
        have : j' = j := by omega
        subst this
        rw [WideAt.sameKey_self (kl_key _)] at hl'
        exact Bool.noConfusion hl'.2
    ob := fun x i e => by
      have hs := hg.size
      try dsimp only at e
      by_cases hc : o x = some (1000 + j)
      · have hh := h.ob x _ hc
        exact ⟨by omega, hh.2⟩
      · rw [if_neg hc] at e
        have hh := h.ob x _ e
        exact ⟨by omega, hh.2⟩
    sm := ⟨Nat.le_trans h.sm.1 hg.size, fun b hb hp => (hg.block b (Nat.lt_of_lt_of_le hb h.sm.1) (fun e => by injection e with e; exact hp.1 (e ▸ C.p1))).trans (h.sm.2 b hb hp)⟩
    bl := h.bl.grown hg (Nat.le_trans C.B2 h.sm.1) (fun k hk => by injection hk with hk; have := C.B1; omega)
    rl := Nat.lt_of_lt_of_le h.rl hg.size }
theorem MS.old {W2 : World} {cc : J} {u : Value} (h : MS t1 t2 vs2 p q w B b1 b2 left ns is vs o W) (C : MC t1 t2 vs2 p q w B b1 b2) (j : Nat) (hj : j < t2.ns.length) (hl : left (kl t2.ns[j]) = true) (i : Nat) (hi : i < ns.length) (hx : ns[i] = t2.ns[j]) (hi2 : i < is.length)
    (hmg : Mg is[i] (t2.is[j]'(by have := C.l2; omega)) cc) (hio : IO (fun x => o x = some i ∨ o x = some (1000 + j) ∨ W.heap.size ≤ x) W2 cc u) (hS : Same (fun x => ¬ o x = some i ∧ ¬ o x = some (1000 + j)) W W2) (hb : Below B W W2)
    (hm : W'.ownsMap Try.prog 9 RH b1 (ns.length + 1) ((dat ns vs).put (kl t2.ns[j]) (.held u))) (hg : W2.grownBy W' (some b1)) :
    MS t1 t2 vs2 p q w B b1 b2 (fun z => left z && !z.sameKey (kl t2.ns[j])) ns (is.set i cc) (vs.set i u) (fun y => if o y = some (1000 + j) ∨ (W.heap.size ≤ y ∧ y < W2.heap.size) then some i else o y) W' := by
  have c1 := C.l2
  have c2 := C.v2
  have hn8 := h.mi.len C.w1 C.w2
  have hil := h.mi.hl
  have hbs := C.s1
  have hbs2 := C.s2
  have hws := h.sm.1
  have hz1 := hS.1
  have hz2 := hg.size
  have keep : ∀ {t : J} {v : Value} (k : Nat), k ≠ i → k ≠ 1000 + j → IO (fun x => o x = some k) W t v → IO (fun x => o x = some k) W' t v := fun k n1 n2 hi => (hi.keep (hS.mono (fun x hx => ⟨fun e => n1 (by rw [hx] at e; injection e), fun e => n2 (by rw [hx] at e; injection e)⟩))).keep (.grown hg (fun b hb e => by injection e with e; exact (h.ob b k hb).2.1 e))
  have hm' : W'.ownsMap Try.prog 9 RH b1 ns.length (dat ns (vs.set i u)) := by
    have hq := own_tight hm
    rw [← hx, dat_set h.lv h.mi.hd i hi u] at hq
    rw [(dat_facts _ ns (vs.set i u) rfl (by rw [List.length_set]; exact h.lv) h.mi.hd).2.1] at hq
    exact hq
  have hold := h.mi.old C.d2 hi hi2 (yb := t2.is[j]'(by omega)) (y' := cc) ⟨j, hj, by omega, hx.symm, rfl⟩ (by rw [hx, hl]; exact Bool.noConfusion) hmg C.d1
  exact {
    lf := fun z hz => h.lf z (by rw [Bool.and_eq_true] at hz; exact hz.1)
    mp := hm'
    lv := by rw [List.length_set]; exact h.lv
    mi := hold.congr (fun x _ => by rw [hx]; exact (same_key (x := t2.ns[j])).symm)
    io := fun k h1 h2 => by
      by_cases hk : k = i
      · subst hk
        have e1 : (is.set k cc)[k]'h1 = cc := by simp
        have e2 : (vs.set k u)[k]'h2 = u := by simp
        rw [e1, e2]
        refine (hio.bound.keep (.grown hg (fun b hb e => ?_))).mono (fun x hx => ?_)
        · injection e with e
          rcases hb.1 with hb | hb | hb
          · exact (h.ob b _ hb).2.1 e
          · exact (h.ob b _ hb).2.1 e
          · omega
        · try dsimp only
          rcases hx.1 with hh | hh | hh
          · by_cases hc : o x = some (1000 + j) ∨ (W.heap.size ≤ x ∧ x < W2.heap.size)
            · rw [if_pos hc]
            · rw [if_neg hc]; exact hh
          · rw [if_pos (.inl hh)]
          · rw [if_pos (.inr ⟨hh, hx.2⟩)]
      · have h1' : k < is.length := by simpa using h1
        have e1 : (is.set i cc)[k]'h1 = is[k] := by rw [List.getElem_set, if_neg (fun e => hk e.symm)]
        have e2 : (vs.set i u)[k]'h2 = vs[k]'(by simpa using h2) := by rw [List.getElem_set, if_neg (fun e => hk e.symm)]
        rw [e1, e2]
        refine (keep k hk (by omega) (h.io k h1' (by simpa using h2))).mono (fun x hx => ?_)
        try dsimp only
        rw [if_neg (fun e => ?_)]
        · exact hx
        · rcases e with e | e
          · rw [hx] at e; injection e with e; omega
          · have := (h.ob x k hx).1; omega
    jo := fun j' h0 h1 h2 hl' => by
      rw [Bool.and_eq_true] at hl'
      have hne : j' ≠ j := fun e => by
        subst e
        rw [WideAt.sameKey_self (kl_key _)] at hl'
        exact Bool.noConfusion hl'.2
      refine (keep _ (by omega) (by omega) (h.jo j' h0 h1 h2 hl'.1)).mono (fun x hx => ?_)
      try dsimp only
      rw [if_neg (fun e => ?_)]
      · exact hx
      · rcases e with e | e
        · rw [hx] at e; injection e with e; omega
        · have := (h.ob x _ hx).1; omega
    ob := fun x k e => by
      try dsimp only at e
      by_cases hc : o x = some (1000 + j) ∨ (W.heap.size ≤ x ∧ x < W2.heap.size)
      · rcases hc with hc | hc
        · have hh := h.ob x _ hc
          exact ⟨by omega, hh.2⟩
        · have h3 := h.rl
          exact ⟨by omega, by omega, by omega, by omega, .inr (.inr (by omega))⟩
      · rw [if_neg hc] at e
        have hh := h.ob x _ e
        exact ⟨by omega, hh.2⟩
    sm := ⟨by omega, fun b hb hp => by
      have hnb : ∀ k, ¬ o b = some k := fun k e => by
        rcases (h.ob b k e).2.2.2.2 with h | h | h
        · exact hp.1 h
        · exact hp.2 h
        · omega
      exact (hg.block b (by omega) (fun e => by injection e with e; exact hp.1 (e ▸ C.p1))).trans ((hS.2 b (by omega) ⟨hnb _, hnb _⟩).trans (h.sm.2 b hb hp))⟩
    bl := (h.bl.trans hb).grown hg (by have := C.B2; omega) (fun k hk => by injection hk with hk; have := C.B1; omega)
    rl := by have := h.rl; omega }
end
attribute [local go_sem] as68_68 as68_67 as4_68 as65_68 as9_68 as67_68 as67_67 atn_67 atn_68
theorem ta68 {p : Nat → Prop} {w : World} {t : J} {u : Value} (h : IO p w t u) : ∃ m, ∀ W : World, (Instr.typeAssert u 20 68 true).run Try.prog W = .ok (.tuple #[m, .bool (decide (t.k = 5))]) W := by
  by_cases hk : t.k = 5
  · obtain ⟨b, vs, rfl, _⟩ := h.map hk
    exact ⟨_, fun W => by rw [decide_eq_true hk]; exact as68_68 _ W⟩
  · exact ⟨_, fun W => by rw [decide_eq_false hk]; exact not_map h hk W⟩
theorem eqn_any {p : Nat → Prop} {w : World} {t : J} {u : Value} (h : IO p w t u) : ∃ b, ∀ W : World, (binOp .eql 20 u .nilIface).run Try.prog W = .ok (.bool b) W ∧ (eqGuard .eql 20 (.tmp 43) (.const .nilIface) u .nilIface).run Try.prog W = .ok () W := by
  obtain ⟨k, n, s, ns, is⟩ := t
  rcases h with ⟨_, rfl⟩ | ⟨_, rfl⟩ | ⟨_, rfl⟩ | ⟨_, rfl⟩ | ⟨_, A, c, vs, rfl, _⟩ | ⟨_, b, vs, rfl, _⟩
  · exact ⟨true, fun W => ⟨by kernel_rfl, by kernel_rfl⟩⟩
  all_goals exact ⟨false, fun W => ⟨by kernel_rfl, by kernel_rfl⟩⟩
theorem merge_flat (t1 t2 : J) (p q : Nat → Prop) (u1 u2 : Value) (w : World) (B : Nat) (hw1 : Wf t1) (hw2 : Wf t2) (h1 : IO p w t1 u1) (h2 : IO q w t2 u2) (hd : ∀ x, p x → ¬ q x) (hq : ∀ x, q x → x < w.heap.size) (hB : ∀ x, p x → B ≤ x) (hBw : B ≤ w.heap.size) (hne : ¬ (t1.k = 5 ∧ t2.k = 5)) :
    Calls Try.prog 34 #[u1, u2, .bool false] w fun e w' => ∃ u c, e = .returned u ∧ Mg t1 t2 c ∧ IO (fun x => p x ∨ q x ∨ w.heap.size ≤ x) w' c u ∧ Same (fun x => ¬ p x ∧ ¬ q x) w w' ∧ Below B w w' := by
  obtain ⟨m1, g1⟩ := ta68 h1
  obtain ⟨m2, g2⟩ := ta68 h2
  have MI := Lib.hid (mia_any t1 t2 p q u1 u2 w B hw1 hw2 h1 h2 hd hq hB hBw)
  have MF := Lib.hid (Mg.flat t1 t2 hne)
  obtain ⟨x1, y1⟩ := h1.cell
  obtain ⟨x2, y2⟩ := h2.cell
  have hb : (decide (t1.k = 5) && decide (t2.k = 5)) = false := by
    rw [Bool.and_eq_false_iff, decide_eq_false_iff_not, decide_eq_false_iff_not]
    by_cases h : t1.k = 5
    · exact .inr (fun e => hne ⟨h, e⟩)
    · exact .inl h
  have g1 := g1 w
  have g2 := g2 w
  clear h1 h2 hw1 hw2 hd hq hB hne hBw
  generalize decide (t1.k = 5) = d1 at *
  generalize decide (t2.k = 5) = d2 at *
  cases d1 <;> cases d2
  case true.true => cases hb
  all_goals
    go_enter Try.func34, Try.ntmps34
    go_wp2_with (go_at_call 41; (with_reducible refine MI.out.mono ?_); rintro e w1 ⟨u, rfl, hio, hs, hb⟩; have HR := Lib.hid (And.intro hio (And.intro hs hb)); clear hio hs hb)
    go_ret
    exact ⟨_, _, rfl, MF.out, HR.out⟩
theorem merge_map (t1 t2 : J) (IH0 : ∀ t ∈ t1.is, ∀ (t2 : J) (p q : Nat → Prop) (u1 u2 : Value) (w : World) (B : Nat), Wf t → Wf t2 → IO p w t u1 → IO q w t2 u2 → (∀ x, p x → ¬ q x) → (∀ x, q x → x < w.heap.size) → (∀ x, p x ∨ q x → B ≤ x) → B ≤ w.heap.size →
      Calls Try.prog 34 #[u1, u2, .bool false] w fun e w' => ∃ u c, e = .returned u ∧ Mg t t2 c ∧ IO (fun x => p x ∨ q x ∨ w.heap.size ≤ x) w' c u ∧ Same (fun x => ¬ p x ∧ ¬ q x) w w' ∧ Below B w w')
    (p q : Nat → Prop) (u1 u2 : Value) (w : World) (B : Nat) (hw1 : Wf t1) (hw2 : Wf t2) (h1 : IO p w t1 u1) (h2 : IO q w t2 u2) (hd : ∀ x, p x → ¬ q x) (hB : ∀ x, p x ∨ q x → B ≤ x) (hBw : B ≤ w.heap.size) (k1 : t1.k = 5) (k2 : t2.k = 5) :
    Calls Try.prog 34 #[u1, u2, .bool false] w fun e w' => ∃ u c, e = .returned u ∧ Mg t1 t2 c ∧ IO (fun x => p x ∨ q x ∨ w.heap.size ≤ x) w' c u ∧ Same (fun x => ¬ p x ∧ ¬ q x) w w' ∧ Below B w w' := by
  obtain ⟨b1, vs1, rfl, p1, m1, i1⟩ := h1.map k1
  obtain ⟨b2, vs2, rfl, q2, m2, i2⟩ := h2.map k2
  obtain ⟨o1, oa, ob⟩ := i1.owner
  obtain ⟨o2, oc, od⟩ := i2.owner
  have s1 := m1.lt
  have s2 := m2.lt
  obtain ⟨l1, d1⟩ := hw1.kids.2 k1
  obtain ⟨l2, d2⟩ := hw2.kids.2 k2
  have C : Hid (MC t1 t2 vs2 p q w B b1 b2) := Lib.hid ⟨hw1, hw2, k1, k2, l1, d1, l2, d2, i2.len.trans l2.symm, p1, q2, fun e => hd b1 p1 (e ▸ q2), s1, s2, hB b1 (.inl p1), hBw, hd⟩
  have HBP := Lib.hid hB
  have LV1 : Hid (vs1.length = t1.ns.length) := Lib.hid (i1.len.trans l1.symm)
  have hi1 := i1.bound
  have OA := Lib.hid (And.intro oa oc)
  have OB := Lib.hid (And.intro ob od)
  have M1 := Lib.hid m1
  have M2 := Lib.hid m2
  have IH0 := Lib.hid IH0
  have n1 := hw1.short
  clear hw1 hw2 h1 h2 i1 i2 m1 m2 hd hB l1 l2 d1 d2 k1 k2 oa ob oc od p1 q2 hi1
  go_enter Try.func34, Try.ntmps34
  go_wp2_with (first
    | (at_range; refine wpList_range_own _ rfl _ 68 rfl 9 20 law9 Try.underlying68 RH b2 t2.ns.length _ rfl M2.out ?_; intro w0 hrg0 hg0 hs0)
    | go_in)
  try go_frame
  have HRG0 := Lib.hid hrg0
  have HMS0 : Hid (MS t1 t2 vs2 p q w B b1 b2 (Maps.has (dat t2.ns vs2)) t1.ns t1.is vs1 (fun x => if x < w.heap.size then (match o1 x with | some i => some i | none => (o2 x).map (1000 + ·)) else none) w0) := Lib.hid (by
    have hk : ∀ {p' : Nat → Prop} {t : J} {v : Value}, IO p' w t v → IO p' w0 t v := fun h => h.keep (.grown hg0 (fun _ _ e => by cases e))
    exact {
      lf := fun z h => h
      mp := M1.out.kept hg0 (by simp)
      lv := LV1.out
      mi := .start (by have := C.out.l1; exact this) C.out.d1 (fun x hx => by
        rw [((dat_facts _ t2.ns vs2 rfl C.out.v2 C.out.d2).2.2.1 x).2 hx]
        exact Bool.noConfusion)
      io := fun i h1 h2 => (hk (OB.out.1 i h1 h2).bound).mono (fun x hx => by (try dsimp only); rw [if_pos hx.2, hx.1])
      jo := fun j h0 h1 h2 _ => (hk (OB.out.2 j h1 h2).bound).mono (fun x hx => by
        have hn : o1 x = none := by
          cases ho : o1 x with
          | none => rfl
          | some i => exact absurd (OA.out.2 x j hx.1).1 (C.out.hd x (OA.out.1 x i ho).1)
        try dsimp only
        rw [if_pos hx.2, hn, hx.1]
        rfl)
      ob := fun x i e => by
        try dsimp only at e
        by_cases hx : x < w.heap.size
        · rw [if_pos hx] at e
          have hb : x ≠ b1 ∧ x ≠ b2 ∧ (p x ∨ q x) := by
            cases ho : o1 x with
            | some k => exact ⟨(OA.out.1 x k ho).2, fun e => C.out.hd x (OA.out.1 x k ho).1 (e ▸ C.out.q2), .inl (OA.out.1 x k ho).1⟩
            | none =>
              rw [ho] at e
              obtain ⟨k, hk, _⟩ := Option.map_eq_some_iff.1 e
              exact ⟨fun e => C.out.hd b1 C.out.p1 (e ▸ (OA.out.2 x k hk).1), (OA.out.2 x k hk).2, .inr (OA.out.2 x k hk).1⟩
          exact ⟨by omega, hb.1, hb.2.1, by omega, hb.2.2.elim .inl (fun h => .inr (.inl h))⟩
        · rw [if_neg hx] at e
          cases e
      sm := .grown hg0 (fun _ _ e => by cases e)
      bl := (Below.refl B w).grown hg0 hBw (fun k hk => by cases hk)
      rl := by omega })
  clear hrg0 hg0 hs0 OA OB M1 M2 LV1 n1
  go_loopw [11, 12, 13, 14] (fun _ _ _ _ wr => ∃ (left : Lit → Bool) (cnt : Nat) (ns : List ByteArray) (is : List J) (vs : List Value) (o : Nat → Option Nat), Hid (wr.ranges Try.prog 9 RH b2 w.heap.size t2.ns.length (dat t2.ns vs2) left cnt) ∧ Hid (MS t1 t2 vs2 p q w B b1 b2 left ns is vs o wr)) (fun _ _ _ _ wr => wr.rangeLeft b2 w.heap.size)
  case atStart => exact ⟨_, _, _, _, _, _, HRG0, HMS0⟩
  case round =>
    obtain ⟨left, cnt, ns, is, vs, o, HRG, HM⟩ := hrel
    clear HRG0 HMS0
    go_wp2_with (first
      | (at_next; refine wpList_next_ranges _ rfl _ rfl 9 law9 RH Value.string id (fun key kl h => by obtain ⟨s, e, _⟩ := WideMaps.string_of_keyOf Try.underlying9 h; exact ⟨s, e⟩) (fun v y _ => ⟨v, rfl⟩) b2 w.heap.size t2.ns.length _ _ _ rfl HRG.out ?_ ?_)
      | go_in)
    · intro hc0 hl0
      have HL0 := Lib.hid hl0
      clear hl0 hc0
      go_wp2
      go_ret
      refine ⟨_, .mk 5 0 .empty ns is, rfl, HM.out.mi.done C.out.k1 C.out.k2 C.out.l1 C.out.l2 (fun x _ => HL0.out _), ?_, HM.out.sm, HM.out.bl⟩
      have hm := HM.out
      refine .inr (.inr (.inr (.inr (.inr ⟨rfl, b1, vs, rfl, .inl C.out.p1, hm.mp, IOs.of_owner (o := o) (hm.lv.trans hm.mi.hl) hm.io (fun x i _ e => ⟨(hm.ob x i e).2.2.2.2, (hm.ob x i e).2.1⟩)⟩))))
    · intro x c kl' y ps w1 cnt1 hkey hlx hR hat hrg1 hlt hg1 hs1' hen
      obtain ⟨s, e1, e2, hsx⟩ := WideMaps.string_of_keyOf Try.underlying9 hkey
      injection e1 with e1
      subst e1 e2
      obtain ⟨j, hj, hx⟩ := List.getElem_of_mem (((dat_facts _ t2.ns vs2 rfl C.out.v2 C.out.d2).2.2.1 x).1 (HM.out.lf _ hlx))
      have hjv : j < vs2.length := by have := C.out.v2; omega
      have hji : j < t2.is.length := by have := C.out.l2; omega
      have hcv : c = vs2[j] := by
        have h1 := hat (.held .nilIface)
        injection hR with hR
        injection hR with hR _
        rw [← hR, ← hx, (dat_facts _ t2.ns vs2 rfl C.out.v2 C.out.d2).2.2.2 j hj hjv] at h1
        injection h1 with h1
        exact h1.symm
      subst hcv
      have HM1 := Lib.hid (HM.out.next C.out hg1)
      have HRG1 := Lib.hid hrg1
      have HLT := Lib.hid (And.intro hlt HRG.out.left_eq)
      have HJ := Lib.hid hj
      have HX : Hid (t2.ns[j]'HJ.out = x) := Lib.hid hx
      have hlj : left (kl (t2.ns[j]'HJ.out)) = true := by rw [HX.out]; exact hlx
      have HLJ := Lib.hid hlj
      have HIO := Lib.hid (HM1.out.jo j hj hji hjv hlj)
      obtain ⟨bn, hbn⟩ := eqn_any HIO.out
      obtain ⟨hbn, hgn⟩ := hbn w1
      have HSX := Lib.hid hsx
      have hnc : ¬ (left (kl x) = false) := by rw [hlx]; exact Bool.noConfusion
      have HNC := Lib.hid hnc
      have hsz1 : w.heap.size < w1.heap.size := HM1.out.rl
      clear hkey hlx hR hat hrg1 hg1 hs1' hlt hx hsx hj hlj hnc HM
      by_cases hm : x ∈ ns
      case neg =>
        have lk0 := look_ok_no HM1.out.mp HM1.out.lv HM1.out.mi.hd hm HSX.out
        have HNM := Lib.hid hm
        have hn8 := HM1.out.mi.len C.out.w1 C.out.w2
        clear hm
        have HC2 := Lib.hid (HIO.out.cell)
        obtain ⟨x2, y2⟩ := HC2.out
        generalize hcc : vs2[j] = cv at *
        cases bn
        all_goals
          go_wp2_with (at_mapUpdate; refine wpList_mapUpdate_own _ rfl _ _ _ 68 rfl 9 20 law9 Try.underlying68 RH b1 ns.length _ rfl HM1.out.mp (by unfold maxLen; omega) _ _ _ rfl rfl (key9 HSX.out) _ [] rfl ?_; intro w2 hm2 hg2; have HMP := Lib.hid hm2; have HG2 := Lib.hid hg2; clear hm2 hg2; (try go_frame))
          have HMS2 := Lib.hid (HM1.out.new C.out j HJ.out HLJ.out (by rw [HX.out]; exact HNM.out) (by rw [HX.out]; rw [hcc]; exact HMP.out) HG2.out)
          have HRG2 := Lib.hid (HRG1.out.kept HG2.out (fun e => by injection e with e; exact C.out.ne e.symm) (fun e => by injection e with e; have := C.out.s1; omega))
          go_roundw
          case rel => exact ⟨_, cnt1, _, _, _, _, HRG2, Lib.hid (by have hz := HMS2.out; rw [HX.out] at hz; exact hz)⟩
          case measure => rw [HRG2.out.left_eq, HLT.out.2]; exact HLT.out.1
      obtain ⟨i, hi, hix⟩ := List.getElem_of_mem hm
      have hi2 : i < is.length := by have := HM1.out.mi.hl; omega
      have hv2 : i < vs.length := by have := HM1.out.lv; omega
      have lk0 := look_ok_at HM1.out.mp HM1.out.lv HM1.out.mi.hd i hi (by rw [hix]; exact HSX.out)
      rw [hix] at lk0
      have hn8 := HM1.out.mi.len C.out.w1 C.out.w2
      have HMEM := Lib.hid (show is[i] ∈ t1.is from (HM1.out.mi.h1 x is[i] ⟨i, hi, hi2, hix, rfl⟩ (fun e => HNC.out e.2)).item)
      have IH := Lib.hid (IH0.out is[i] HMEM.out (t2.is[j]'hji) (fun x => o x = some i) (fun x => o x = some (1000 + j)) _ _ w1 B (C.out.w1.kids.1.get _ HMEM.out) (C.out.w2.kids.1.get _ (List.getElem_mem hji)) (HM1.out.io i hi2 hv2) HIO.out
        (fun x e1 e2 => by rw [e1] at e2; injection e2 with e2; omega) (fun x e => (HM1.out.ob x _ e).1)
        (fun x e => by
          have hh : p x ∨ q x ∨ w.heap.size ≤ x := e.elim (fun e => (HM1.out.ob x _ e).2.2.2.2) (fun e => (HM1.out.ob x _ e).2.2.2.2)
          rcases hh with h | h | h
          · exact HBP.out x (.inl h)
          · exact HBP.out x (.inr h)
          · have := C.out.B2; omega) (by have := C.out.B2; omega))
      have HIX : Hid (ns[i] = x) := Lib.hid hix
      have HC1 := Lib.hid ((HM1.out.io i hi2 hv2).cell)
      have HC2 := Lib.hid (HIO.out.cell)
      obtain ⟨x1, y1⟩ := HC1.out
      obtain ⟨x2, y2⟩ := HC2.out
      clear hm
      generalize vs2[j] = cv at *
      generalize hcu : vs[i] = cu at *
      cases bn
      all_goals
        go_wp2_with (first
          | (go_at_call 34; (with_reducible refine IH.out.mono ?_); rintro e w2 ⟨u, cc, rfl, hmg, hio, hs, hb⟩; have HMG := Lib.hid hmg; have HIO2 := Lib.hid hio; have HS2 := Lib.hid hs; have HB2 := Lib.hid hb; have HMP2 := Lib.hid (map_same HM1.out.mp (p := fun x => ¬ o x = some i ∧ ¬ o x = some (1000 + j)) ⟨fun e => (HM1.out.ob _ _ e).2.1 rfl, fun e => (HM1.out.ob _ _ e).2.1 rfl⟩ hs); have HCU := Lib.hid hio.cell; clear hmg hio hs hb)
          | (at_mapUpdate; refine wpList_mapUpdate_own _ rfl _ _ _ 68 rfl 9 20 law9 Try.underlying68 RH b1 ns.length _ rfl HMP2.out (by unfold maxLen; omega) _ _ _ rfl rfl (key9 HSX.out) _ [] rfl ?_; intro w3 hm3 hg3; have HMP3 := Lib.hid hm3; have HG3 := Lib.hid hg3; clear hm3 hg3; (try go_frame)))
        have HMS3 := Lib.hid (HM1.out.old C.out j HJ.out HLJ.out i hi (HIX.out.trans HX.out.symm) hi2 HMG.out HIO2.out HS2.out HB2.out (by rw [HX.out]; exact HMP3.out) HG3.out)
        have hb2lt : b2 < w1.heap.size := by have := C.out.s2; omega
        have HRG2 := Lib.hid (ranges_same HRG1.out (HS2.out.2 b2 hb2lt ⟨fun e => (HM1.out.ob _ _ e).2.2.1 rfl, fun e => (HM1.out.ob _ _ e).2.2.1 rfl⟩) (HS2.out.2 w.heap.size hsz1 ⟨fun e => (HM1.out.ob _ _ e).2.2.2.1 rfl, fun e => (HM1.out.ob _ _ e).2.2.2.1 rfl⟩))
        have HRG3 := Lib.hid (HRG2.out.kept HG3.out (fun e => by injection e with e; exact C.out.ne e.symm) (fun e => by injection e with e; have := C.out.s1; omega))
        go_roundw
        case rel => exact ⟨_, cnt1, _, _, _, _, HRG3, Lib.hid (by have hz := HMS3.out; rw [HX.out] at hz; exact hz)⟩
        case measure => rw [HRG3.out.left_eq, HLT.out.2]; exact HLT.out.1
theorem merge_any (t1 t2 : J) (p q : Nat → Prop) (u1 u2 : Value) (w : World) (B : Nat) (hw1 : Wf t1) (hw2 : Wf t2) (h1 : IO p w t1 u1) (h2 : IO q w t2 u2) (hd : ∀ x, p x → ¬ q x) (hq : ∀ x, q x → x < w.heap.size) (hB : ∀ x, p x ∨ q x → B ≤ x) (hBw : B ≤ w.heap.size) :
    Calls Try.prog 34 #[u1, u2, .bool false] w fun e w' => ∃ u c, e = .returned u ∧ Mg t1 t2 c ∧ IO (fun x => p x ∨ q x ∨ w.heap.size ≤ x) w' c u ∧ Same (fun x => ¬ p x ∧ ¬ q x) w w' ∧ Below B w w' := by
  by_cases hk : t1.k = 5 ∧ t2.k = 5
  · exact merge_map t1 t2 (fun t ht t2 p q u1 u2 w B a b c d e f g h => merge_any t t2 p q u1 u2 w B a b c d e f g h) p q u1 u2 w B hw1 hw2 h1 h2 hd hB hBw hk.1 hk.2
  · exact merge_flat t1 t2 p q u1 u2 w B hw1 hw2 h1 h2 hd hq (fun x hx => hB x (.inl hx)) hBw hk
termination_by SizeOf.sizeOf t1
decreasing_by
  obtain ⟨i, hi, rfl⟩ := List.getElem_of_mem ht
  exact size_item t1 i hi
theorem mdoor_any (t1 t2 : J) (p q : Nat → Prop) (u1 u2 : Value) (w : World) (B : Nat) (hw1 : Wf t1) (hw2 : Wf t2) (h1 : IO p w t1 u1) (h2 : IO q w t2 u2) (hd : ∀ x, p x → ¬ q x) (hq : ∀ x, q x → x < w.heap.size) (hB : ∀ x, p x ∨ q x → B ≤ x) (hBw : B ≤ w.heap.size) :
    Calls Try.prog 24 #[u1, u2, .bool false] w fun e w' => ∃ u c, e = .returned u ∧ Mg t1 t2 c ∧ IO (fun x => p x ∨ q x ∨ w.heap.size ≤ x) w' c u ∧ Same (fun x => ¬ p x ∧ ¬ q x) w w' ∧ Below B w w' := by
  have JE := Lib.hid (merge_any t1 t2 p q u1 u2 w B hw1 hw2 h1 h2 hd hq hB hBw)
  obtain ⟨x1, y1⟩ := h1.cell
  obtain ⟨x2, y2⟩ := h2.cell
  clear h1 h2 hw1 hw2 hd hq hB
  go_enter Try.func24, Try.ntmps24
  go_wp2_with (go_at_call 34; (with_reducible refine JE.out.mono ?_); rintro e w1 ⟨u, c, rfl, hr⟩; have HR := Lib.hid hr; clear hr)
  go_ret
  exact ⟨_, _, rfl, HR.out⟩
end Go.Proofs.Ytmelgankbegjaaa.Js

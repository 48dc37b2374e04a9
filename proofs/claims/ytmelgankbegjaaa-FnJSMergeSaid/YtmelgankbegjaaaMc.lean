/- Trees that are merged, plain. Conditions: those written at each lemma. -/
import Derived.Test.YtmelgankbegjaaaKc
import Derived.Test.YtmelgankbegjaaaKh
set_option linter.unusedVariables false
set_option linter.unusedSimpArgs false
set_option maxRecDepth 100000
set_option maxHeartbeats 4000000
namespace Go.Proofs.Ytmelgankbegjaaa.Js
open Go.RowKit Go.Proofs.Ytmelgankbegjaaa.B

mutual
/-- Trees of at most eight items at a place. -/
def Wg : J → Prop
  | .mk k n s ns is => (k = 0 ∧ n = 0 ∧ s = .empty ∧ ns = [] ∧ is = []) ∨ (k = 1 ∧ (n = 0 ∨ n = 1) ∧ s = .empty ∧ ns = [] ∧ is = []) ∨ (k = 2 ∧ -2147483648 ≤ n ∧ n ≤ 2147483647 ∧ s = .empty ∧ ns = [] ∧ is = []) ∨
      (k = 3 ∧ n = 0 ∧ Wd s ∧ ns = [] ∧ is = []) ∨ (k = 4 ∧ n = 0 ∧ s = .empty ∧ ns = [] ∧ is.length ≤ 8 ∧ Wgs is) ∨
      (k = 5 ∧ n = 0 ∧ s = .empty ∧ ns.length = is.length ∧ is.length ≤ 8 ∧ ns.Nodup ∧ (∀ x ∈ ns, Wd x ∧ x ≠ .empty) ∧ Wgs is)
def Wgs : List J → Prop
  | [] => True
  | t :: r => Wg t ∧ Wgs r
end
theorem Wgs.get : ∀ {l : List J}, Wgs l → ∀ t ∈ l, Wg t
  | t :: r, h, x, hx => by
    rcases List.mem_cons.1 hx with rfl | hx
    · exact h.1
    · exact Wgs.get h.2 x hx
theorem Wgs.of : ∀ {l : List J}, (∀ t ∈ l, Wg t) → Wgs l
  | [], _ => trivial
  | t :: r, h => ⟨h t (.head _), Wgs.of fun x hx => h x (.tail _ hx)⟩
mutual
theorem Wf.wg : ∀ {t : J}, Wf t → Wg t
  | .mk k n s ns is, h => by
    rcases h with h | h | h | h | ⟨a, b, c, d, e, f⟩ | ⟨a, b, c, d, e, f, g, h⟩
    · exact .inl h
    · exact .inr (.inl h)
    · exact .inr (.inr (.inl h))
    · exact .inr (.inr (.inr (.inl h)))
    · exact .inr (.inr (.inr (.inr (.inl ⟨a, b, c, d, by omega, Wfs.wgs f⟩))))
    · exact .inr (.inr (.inr (.inr (.inr ⟨a, b, c, d, by omega, f, g, Wfs.wgs h⟩))))
theorem Wfs.wgs : ∀ {l : List J}, Wfs l → Wgs l
  | [], _ => trivial
  | t :: r, h => ⟨Wf.wg h.1, Wfs.wgs h.2⟩
end
theorem Wg.kids {t : J} (h : Wg t) : Wgs t.is ∧ (t.k = 5 → t.ns.length = t.is.length ∧ t.ns.Nodup) ∧ t.is.length ≤ 8 ∧ (t.k ≠ 5 → t.ns = []) := by
  obtain ⟨k, n, s, ns, is⟩ := t
  show Wgs is ∧ (k = 5 → ns.length = is.length ∧ ns.Nodup) ∧ is.length ≤ 8 ∧ (k ≠ 5 → ns = [])
  rcases h with ⟨rfl, _, _, e1, e2⟩ | ⟨rfl, _, _, e1, e2⟩ | ⟨rfl, _, _, _, e1, e2⟩ | ⟨rfl, _, _, e1, e2⟩ | ⟨rfl, _, _, e1, h0, h⟩ | ⟨rfl, _, _, h1, h0, h2, _, h⟩
  · rw [e2]; exact ⟨trivial, (fun h => by cases h), Nat.zero_le _, fun _ => e1⟩
  · rw [e2]; exact ⟨trivial, (fun h => by cases h), Nat.zero_le _, fun _ => e1⟩
  · rw [e2]; exact ⟨trivial, (fun h => by cases h), Nat.zero_le _, fun _ => e1⟩
  · rw [e2]; exact ⟨trivial, (fun h => by cases h), Nat.zero_le _, fun _ => e1⟩
  · exact ⟨h, (fun h => by cases h), h0, fun _ => e1⟩
  · exact ⟨h, fun _ => ⟨h1, h2⟩, h0, fun h => absurd rfl h⟩
theorem it_arr {a b : J} (hk : a.k ≠ 5) (i : Nat) (h1 : i < a.is.length) (h2 : i < b.is.length) : it a b i = eqJ a.is[i] b.is[i] := by
  unfold it ps
  rw [if_neg hk, decide_eq_true (by omega), Bool.true_and, Int.toNat_natCast, getD_at h1, getD_at h2]
theorem eqJ_refl : ∀ (N : Nat) (a : J), SizeOf.sizeOf a ≤ N → Wg a → eqJ a a = true := by
  intro N
  induction N with
  | zero => intro a h; obtain ⟨k, n, s, ns, is⟩ := a; simp only [J.mk.sizeOf_spec] at h; omega
  | succ N ih =>
    intro a hN ha
    obtain ⟨hk, h5, _⟩ := ha.kids
    refine (eqJ_iff a a).2 ⟨rfl, rfl, rfl, rfl, fun i hi => ?_⟩
    have e := ih a.is[i] (by have := size_item a i hi; omega) (hk.get _ (List.getElem_mem hi))
    by_cases h : a.k = 5
    · obtain ⟨hl, hd⟩ := h5 h
      exact (it_obj h hl hl i hi).2 ⟨i, by omega, rfl, e, idx_at hd (by omega)⟩
    · rw [it_arr h i hi hi]
      exact e
theorem eqJ_trans : ∀ (N : Nat) (a b c : J), SizeOf.sizeOf a ≤ N → Wg a → Wg b → Wg c → eqJ a b = true → eqJ b c = true → eqJ a c = true := by
  intro N
  induction N with
  | zero => intro a b c h; obtain ⟨k, n, s, ns, is⟩ := a; simp only [J.mk.sizeOf_spec] at h; omega
  | succ N ih =>
    intro a b c hN ha hb hc h h'
    obtain ⟨ka, a5, _⟩ := ha.kids
    obtain ⟨kb, b5, _⟩ := hb.kids
    obtain ⟨kc, c5, _⟩ := hc.kids
    obtain ⟨e1, e2, e3, e4, e5⟩ := (eqJ_iff a b).1 h
    obtain ⟨f1, f2, f3, f4, f5⟩ := (eqJ_iff b c).1 h'
    refine (eqJ_iff a c).2 ⟨e1.trans f1, e2.trans f2, e3.trans f3, e4.trans f4, fun i hi => ?_⟩
    have sz := size_item a i hi
    by_cases h5 : a.k = 5
    · have hb5 : b.k = 5 := by omega
      have hc5 : c.k = 5 := by omega
      obtain ⟨la, da⟩ := a5 h5
      obtain ⟨lb, db⟩ := b5 hb5
      obtain ⟨lc, dc⟩ := c5 hc5
      obtain ⟨j, hj, j1, j2, _⟩ := (it_obj h5 la lb i hi).1 (e5 i hi)
      obtain ⟨l, hl, l1, l2, l3⟩ := (it_obj hb5 lb lc j (by omega)).1 (f5 j (by omega))
      refine (it_obj h5 la lc i hi).2 ⟨l, hl, l1.trans j1, ih _ _ _ (by omega) (ka.get _ (List.getElem_mem _)) (kb.get _ (List.getElem_mem _)) (kc.get _ (List.getElem_mem _)) j2 l2, ?_⟩
      rw [← j1]
      exact l3
    · have g1 := e5 i hi
      have g2 := f5 i (by omega)
      rw [it_arr h5 i hi (by omega)] at g1
      rw [it_arr (by omega) i (by omega) (by omega)] at g2
      rw [it_arr h5 i hi (by omega)]
      exact ih _ _ _ (by omega) (ka.get _ (List.getElem_mem _)) (kb.get _ (List.getElem_mem _)) (kc.get _ (List.getElem_mem _)) g1 g2
/-- What stands under a name. -/
def Has (ns : List ByteArray) (is : List J) (x : ByteArray) (y : J) : Prop := ∃ i, ∃ (h1 : i < ns.length) (h2 : i < is.length), ns[i] = x ∧ is[i] = y
theorem Has.uniq {ns : List ByteArray} {is : List J} {x : ByteArray} {y y' : J} (hd : ns.Nodup) (h : Has ns is x y) (h' : Has ns is x y') : y = y' := by
  obtain ⟨i, h1, h2, e1, e2⟩ := h
  obtain ⟨j, k1, k2, e3, e4⟩ := h'
  have : i = j := nd_inj hd h1 k1 (e1.trans e3.symm)
  subst this
  exact e2.symm.trans e4
theorem Has.name {ns : List ByteArray} {is : List J} {x : ByteArray} {y : J} (h : Has ns is x y) : x ∈ ns := by
  obtain ⟨i, h1, h2, e1, e2⟩ := h
  rw [← e1]
  exact List.getElem_mem h1
theorem Has.item {ns : List ByteArray} {is : List J} {x : ByteArray} {y : J} (h : Has ns is x y) : y ∈ is := by
  obtain ⟨i, h1, h2, e1, e2⟩ := h
  rw [← e2]
  exact List.getElem_mem h2
theorem Has.of {ns : List ByteArray} {is : List J} (hl : ns.length = is.length) {x : ByteArray} (h : x ∈ ns) : ∃ y, Has ns is x y := by
  obtain ⟨i, hi, rfl⟩ := List.getElem_of_mem h
  exact ⟨is[i], i, hi, by omega, rfl, rfl⟩
/-- c is what a and b are merged. -/
inductive Mg : J → J → J → Prop
  | flat (a b : J) (h : ¬ (a.k = 5 ∧ b.k = 5)) : Mg a b (.mk 4 0 .empty [] (lsJ a ++ lsJ b))
  | obj (a b : J) (ns : List ByteArray) (is : List J) (g : ByteArray → J) (ha : a.k = 5) (hb : b.k = 5) (hl : ns.length = is.length) (hd : ns.Nodup)
    (hn : ∀ x, x ∈ ns ↔ x ∈ a.ns ∨ x ∈ b.ns)
    (h1 : ∀ x y, Has ns is x y → x ∉ b.ns → Has a.ns a.is x y)
    (h2 : ∀ x y, Has ns is x y → x ∉ a.ns → Has b.ns b.is x y)
    (h3 : ∀ x y, Has ns is x y → x ∈ a.ns → x ∈ b.ns → y = g x)
    (h4 : ∀ x ya yb, Has a.ns a.is x ya → Has b.ns b.is x yb → Mg ya yb (g x)) : Mg a b (.mk 5 0 .empty ns is)
theorem nd_len : ∀ (l m : List ByteArray), l.Nodup → (∀ x ∈ l, x ∈ m) → l.length ≤ m.length
  | [], m, _, _ => Nat.zero_le _
  | y :: r, m, hd, hs => by
    have hy := hs y (.head _)
    have hd2 := List.nodup_cons.1 hd
    have h1 := nd_len r (m.filter fun z => decide (z ≠ y)) hd2.2 (fun z hz => List.mem_filter.2 ⟨hs z (.tail _ hz), decide_eq_true (fun e2 => hd2.1 (by rw [← e2]; exact hz))⟩)
    have := (List.length_filter_lt_length_iff_exists (p := fun z => decide (z ≠ y)) (l := m)).2 ⟨y, hy, (by simp : ¬ (decide (y ≠ y) = true))⟩
    simp only [List.length_cons]
    omega
theorem ls_len {a : J} (h : Wf a) : (lsJ a).length ≤ 4 := by
  unfold lsJ
  by_cases hk : a.k = 4
  · rw [if_pos hk]; exact h.short.1
  · rw [if_neg hk]; simp
theorem ls_wf2 {a : J} (h : Wf a) : ∀ x ∈ lsJ a, Wf x := by
  intro x hx
  unfold lsJ at hx
  by_cases hk : a.k = 4
  · rw [if_pos hk] at hx
    exact h.kids.1.get _ hx
  · rw [if_neg hk] at hx
    rw [List.mem_singleton.1 hx]
    exact h
theorem flat_wg {a b : J} (ha : Wf a) (hb : Wf b) : Wg (.mk 4 0 .empty [] (lsJ a ++ lsJ b)) := by
  have h1 := ls_len ha
  have h2 := ls_len hb
  refine .inr (.inr (.inr (.inr (.inl ⟨rfl, rfl, rfl, rfl, ?_, Wgs.of fun t ht => ?_⟩))))
  · rw [List.length_append]; omega
  · rcases List.mem_append.1 ht with ht | ht
    · exact (ls_wf2 ha t ht).wg
    · exact (ls_wf2 hb t ht).wg
theorem Wf.obj {t : J} (h : Wf t) (hk : t.k = 5) : ∀ x ∈ t.ns, Wd x ∧ x ≠ .empty := by
  obtain ⟨k, n, s, ns, is⟩ := t
  have hk : k = 5 := hk
  rcases h with ⟨h, _⟩ | ⟨h, _⟩ | ⟨h, _⟩ | ⟨h, _⟩ | ⟨h, _⟩ | ⟨rfl, _, _, h1, h0, h2, h3, h⟩ <;> first | omega | skip
theorem Mg.wg {a b c : J} (h : Mg a b c) : Wf a → Wf b → Wg c := by
  induction h with
  | flat a b h => exact fun ha hb => flat_wg ha hb
  | obj a b ns is g ha hb hl hd hn h1 h2 h3 h4 ih =>
    intro wa wb
    obtain ⟨ka, a5⟩ := wa.kids
    obtain ⟨kb, b5⟩ := wb.kids
    obtain ⟨la, da⟩ := a5 ha
    obtain ⟨lb, db⟩ := b5 hb
    have s1 := wa.short
    have s2 := wb.short
    have hlen := nd_len ns (a.ns ++ b.ns) hd (fun x hx => List.mem_append.2 ((hn x).1 hx))
    rw [List.length_append] at hlen
    refine .inr (.inr (.inr (.inr (.inr ⟨rfl, rfl, rfl, hl, by omega, hd, fun x hx => ?_, Wgs.of fun t ht => ?_⟩))))
    · rcases (hn x).1 hx with hx | hx
      · exact wa.obj ha x hx
      · exact wb.obj hb x hx
    · obtain ⟨i, hi, rfl⟩ := List.getElem_of_mem ht
      have hh : Has ns is (ns[i]'(by omega)) is[i] := ⟨i, by omega, hi, rfl, rfl⟩
      by_cases xb : ns[i]'(by omega) ∈ b.ns
      · by_cases xa : ns[i]'(by omega) ∈ a.ns
        · rw [h3 _ _ hh xa xb]
          obtain ⟨ya, hya⟩ := Has.of la xa
          obtain ⟨yb, hyb⟩ := Has.of lb xb
          exact ih _ ya yb hya hyb (ka.get _ hya.item) (kb.get _ hyb.item)
        · exact (kb.get _ (h2 _ _ hh xa).item).wg
      · exact (ka.get _ (h1 _ _ hh xb).item).wg
theorem Mg.uniq {a b c : J} (h : Mg a b c) : ∀ c', Mg a b c' → Wf a → Wf b → eqJ c c' = true := by
  induction h with
  | flat a b h =>
    intro c' h' wa wb
    cases h' with
    | flat _ _ _ => exact eqJ_refl _ _ (Nat.le_refl _) (flat_wg wa wb)
    | obj _ _ ns is g ha hb => exact absurd ⟨ha, hb⟩ h
  | obj a b ns is g ha hb hl hd hn h1 h2 h3 h4 ih =>
    intro c' h' wa wb
    cases h' with
    | flat _ _ h => exact absurd ⟨ha, hb⟩ h
    | obj _ _ ns' is' g' _ _ hl' hd' hn' h1' h2' h3' h4' =>
      obtain ⟨ka, a5⟩ := wa.kids
      obtain ⟨kb, b5⟩ := wb.kids
      obtain ⟨la, da⟩ := a5 ha
      obtain ⟨lb, db⟩ := b5 hb
      have q1 := nd_len ns ns' hd (fun x hx => (hn' x).2 ((hn x).1 hx))
      have q2 := nd_len ns' ns hd' (fun x hx => (hn x).2 ((hn' x).1 hx))
      refine (eqJ_iff (.mk 5 0 .empty ns is) (.mk 5 0 .empty ns' is')).2 ⟨rfl, rfl, rfl, show is.length = is'.length by omega, fun i hi => ?_⟩
      have hi : i < is.length := hi
      refine (it_obj (a := .mk 5 0 .empty ns is) (b := .mk 5 0 .empty ns' is') rfl hl hl' i hi).2 ?_
      have hx : ns[i]'(by omega) ∈ ns' := (hn' _).2 ((hn _).1 (List.getElem_mem _))
      obtain ⟨j, hj, ej⟩ := List.getElem_of_mem hx
      have hh : Has ns is (ns[i]'(by omega)) is[i] := ⟨i, by omega, hi, rfl, rfl⟩
      have hh' : Has ns' is' (ns[i]'(by omega)) (is'[j]'(by omega)) := ⟨j, hj, by omega, ej, rfl⟩
      have hq : eqJ is[i] (is'[j]'(by omega)) = true := by
        generalize ns[i]'(by omega) = x at *
        generalize is[i] = y at *
        generalize is'[j]'(by omega) = y' at *
        by_cases xb : x ∈ b.ns
        · by_cases xa : x ∈ a.ns
          · rw [h3 _ _ hh xa xb, h3' _ _ hh' xa xb]
            obtain ⟨ya, hya⟩ := Has.of la xa
            obtain ⟨yb, hyb⟩ := Has.of lb xb
            exact ih _ ya yb hya hyb _ (h4' _ ya yb hya hyb) (ka.get _ hya.item) (kb.get _ hyb.item)
          · rw [Has.uniq db (h2 _ _ hh xa) (h2' _ _ hh' xa)]
            exact eqJ_refl _ _ (Nat.le_refl _) (kb.get _ (h2' _ _ hh' xa).item).wg
        · rw [Has.uniq da (h1 _ _ hh xb) (h1' _ _ hh' xb)]
          exact eqJ_refl _ _ (Nat.le_refl _) (ka.get _ (h1' _ _ hh' xb).item).wg
      refine ⟨j, hj, ej, hq, ?_⟩
      show idx (ns[i]'_) ns' 0 = _
      rw [← ej]
      exact idx_at hd' hj
/-- What has been merged so far: of b's names those that have come. -/
structure MI (a b : J) (come : ByteArray → Prop) (ns : List ByteArray) (is : List J) : Prop where
  hl : ns.length = is.length
  hd : ns.Nodup
  hn : ∀ x, x ∈ ns ↔ x ∈ a.ns ∨ (x ∈ b.ns ∧ come x)
  h1 : ∀ x y, Has ns is x y → ¬ (x ∈ b.ns ∧ come x) → Has a.ns a.is x y
  h2 : ∀ x y, Has ns is x y → x ∈ b.ns → come x → x ∉ a.ns → Has b.ns b.is x y
  h3 : ∀ x y ya yb, Has ns is x y → come x → Has a.ns a.is x ya → Has b.ns b.is x yb → Mg ya yb y
section
variable {a b : J} {come : ByteArray → Prop} {ns : List ByteArray} {is : List J}
theorem MI.start (hl : a.ns.length = a.is.length) (hd : a.ns.Nodup) (hc : ∀ x ∈ b.ns, ¬ come x) : MI a b come a.ns a.is where
  hl := hl
  hd := hd
  hn x := ⟨.inl, fun h => h.elim id (fun h => absurd h.2 (hc x h.1))⟩
  h1 x y h _ := h
  h2 x y h hb c _ := absurd c (hc x hb)
  h3 x y ya yb h c _ hb := absurd c (hc x hb.name)
theorem MI.congr {come' : ByteArray → Prop} (h : MI a b come ns is) (hc : ∀ x ∈ b.ns, come x ↔ come' x) : MI a b come' ns is where
  hl := h.hl
  hd := h.hd
  hn x := (h.hn x).trans ⟨fun k => k.imp id (fun k => ⟨k.1, (hc x k.1).1 k.2⟩), fun k => k.imp id (fun k => ⟨k.1, (hc x k.1).2 k.2⟩)⟩
  h1 x y k hx := h.h1 x y k (fun e => hx ⟨e.1, (hc x e.1).1 e.2⟩)
  h2 x y k hb c hx := h.h2 x y k hb ((hc x hb).2 c) hx
  h3 x y ya yb k c ha hb := h.h3 x y ya yb k ((hc x hb.name).2 c) ha hb
theorem has_push {x z : ByteArray} {y u : J} (hl : ns.length = is.length) : Has (ns ++ [x]) (is ++ [y]) z u ↔ Has ns is z u ∨ (z = x ∧ u = y) := by
  constructor
  · rintro ⟨i, h1, h2, e1, e2⟩
    by_cases hi : i < ns.length
    · rw [List.getElem_append_left hi] at e1
      rw [List.getElem_append_left (by omega)] at e2
      exact .inl ⟨i, hi, by omega, e1, e2⟩
    · have hi2 : i = ns.length := by simp at h1; omega
      subst hi2
      refine .inr ⟨by rw [← e1]; simp, ?_⟩
      rw [← e2]
      simp [hl]
  · rintro (⟨i, h1, h2, e1, e2⟩ | ⟨rfl, rfl⟩)
    · exact ⟨i, by simp; omega, by simp; omega, by rw [List.getElem_append_left h1]; exact e1, by rw [List.getElem_append_left h2]; exact e2⟩
    · exact ⟨ns.length, by simp, by simp [hl], by simp, by simp [hl]⟩
theorem MI.new (h : MI a b come ns is) {x : ByteArray} {y : J} (hx : x ∉ ns) (hy : Has b.ns b.is x y) : MI a b (fun z => come z ∨ z = x) (ns ++ [x]) (is ++ [y]) where
  hl := by simp [h.hl]
  hd := List.nodup_append.2 ⟨h.hd, by simp, fun u hu v hv e => hx (by rw [← List.mem_singleton.1 hv, ← e]; exact hu)⟩
  hn z := by
    rw [List.mem_append, h.hn z, List.mem_singleton]
    constructor
    · rintro ((k | k) | rfl)
      · exact .inl k
      · exact .inr ⟨k.1, .inl k.2⟩
      · exact .inr ⟨hy.name, .inr rfl⟩
    · rintro (k | ⟨k1, k2 | rfl⟩)
      · exact .inl (.inl k)
      · exact .inl (.inr ⟨k1, k2⟩)
      · exact .inr rfl
  h1 z u hz hc := by
    rcases (has_push h.hl).1 hz with hz | ⟨rfl, rfl⟩
    · exact h.h1 z u hz (fun e => hc ⟨e.1, .inl e.2⟩)
    · exact absurd ⟨hy.name, .inr rfl⟩ hc
  h2 z u hz hb hc ha := by
    rcases (has_push h.hl).1 hz with hz | ⟨rfl, rfl⟩
    · rcases hc with hc | hc
      · exact h.h2 z u hz hb hc ha
      · exact absurd (hc ▸ hz.name) hx
    · exact hy
  h3 z u ya yb hz hc h5 h6 := by
    rcases (has_push h.hl).1 hz with hz | ⟨rfl, rfl⟩
    · rcases hc with hc | hc
      · exact h.h3 z u ya yb hz hc h5 h6
      · exact absurd (hc ▸ hz.name) hx
    · exact absurd ((h.hn z).2 (.inl h5.name)) hx
theorem MI.old (h : MI a b come ns is) (hb : b.ns.Nodup) {i : Nat} (hi : i < ns.length) (hi2 : i < is.length) {yb y' : J} (hy : Has b.ns b.is ns[i] yb) (hc : ¬ come ns[i]) (hm : Mg is[i] yb y') (hla : a.ns.Nodup) : MI a b (fun z => come z ∨ z = ns[i]) ns (is.set i y') := by
  have hset : ∀ z u, Has ns (is.set i y') z u → (z = ns[i] ∧ u = y') ∨ (z ≠ ns[i] ∧ Has ns is z u) := by
    rintro z u ⟨j, h1, h2, e1, e2⟩
    by_cases hj : j = i
    · subst hj
      refine .inl ⟨e1.symm, ?_⟩
      rw [← e2]
      simp
    · refine .inr ⟨fun e => hj (nd_inj h.hd h1 hi (e1.trans e)), j, h1, by simpa using h2, e1, ?_⟩
      rw [← e2, List.getElem_set]
      rw [if_neg (fun e => hj e.symm)]
  exact {
    hl := by simp [h.hl]
    hd := h.hd
    hn := fun z => by
      rw [h.hn z]
      constructor
      · rintro (k | k)
        · exact .inl k
        · exact .inr ⟨k.1, .inl k.2⟩
      · rintro (k | ⟨k1, k2 | rfl⟩)
        · exact .inl k
        · exact .inr ⟨k1, k2⟩
        · exact (h.hn _).1 (List.getElem_mem hi)
    h1 := fun z u hz k => by
      rcases hset z u hz with ⟨rfl, rfl⟩ | ⟨hne, hz⟩
      · exact absurd ⟨hy.name, .inr rfl⟩ k
      · exact h.h1 z u hz (fun e => k ⟨e.1, .inl e.2⟩)
    h2 := fun z u hz hb k ha => by
      rcases hset z u hz with ⟨rfl, rfl⟩ | ⟨hne, hz⟩
      · rcases (h.hn _).1 (List.getElem_mem hi) with e | e
        · exact absurd e ha
        · exact absurd e.2 hc
      · exact h.h2 z u hz hb (k.resolve_right hne) ha
    h3 := fun z u ya yb' hz k h5 h6 => by
      rcases hset z u hz with ⟨rfl, rfl⟩ | ⟨hne, hz⟩
      · have e1 : yb' = yb := Has.uniq hb h6 hy
        have e2 : ya = is[i] := Has.uniq hla h5 (h.h1 _ _ ⟨i, hi, hi2, rfl, rfl⟩ (fun e => hc e.2))
        rw [e1, e2]
        exact hm
      · exact h.h3 z u ya yb' hz (k.resolve_right hne) h5 h6 }
theorem MI.done (h : MI a b come ns is) (ha : a.k = 5) (hb : b.k = 5) (hla : a.ns.length = a.is.length) (hlb : b.ns.length = b.is.length) (hc : ∀ x ∈ b.ns, come x) : Mg a b (.mk 5 0 .empty ns is) := by
  classical
  refine Mg.obj a b ns is (fun x => if k : ∃ y, Has ns is x y then k.choose else a) ha hb h.hl h.hd (fun x => ?_) (fun x y k hx => h.h1 x y k (fun e => hx e.1)) (fun x y k hx => ?_) (fun x y k _ _ => ?_) (fun x ya yb h5 h6 => ?_)
  · rw [h.hn x]
    exact ⟨fun k => k.imp id (fun k => k.1), fun k => k.imp id (fun k => ⟨k, hc x k⟩)⟩
  · rcases (h.hn x).1 k.name with e | e
    · exact absurd e hx
    · exact h.h2 x y k e.1 e.2 hx
  · have hex : ∃ y, Has ns is x y := ⟨y, k⟩
    rw [dif_pos hex]
    exact Has.uniq h.hd k hex.choose_spec
  · have hex : ∃ y, Has ns is x y := Has.of h.hl ((h.hn x).2 (.inl h5.name))
    rw [dif_pos hex]
    exact h.h3 x _ ya yb hex.choose_spec (hc x h6.name) h5 h6
end
end Go.Proofs.Ytmelgankbegjaaa.Js

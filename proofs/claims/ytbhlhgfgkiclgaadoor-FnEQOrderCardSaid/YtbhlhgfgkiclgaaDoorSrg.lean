/- A region that draws its order, by one condition on what has come up: each operation is walked once. Conditions: those written at each law. -/
import Derived.Orders
import Derived.Below
set_option linter.unusedVariables false
set_option linter.unusedSimpArgs false
namespace Go.Proofs.YtbhlhgfgkiclgaaDoor.Rg
open Go Go.RowKit

theorem count_set_lt : ∀ (l : List Bool) (i : Nat) (h : i < l.length), l[i] = false → (l.set i true).count false < l.count false
  | b :: l, 0, _, h2 => by
    have h3 : b = false := h2
    subst h3
    simp
  | b :: l, i + 1, h, h2 => by
    have ih := count_set_lt l i (by simpa using h) (by simpa using h2)
    simp only [List.set_cons_succ, List.count_cons]
    omega
theorem getD_put_ne (t : Array Value) (d j : Nat) (v : Value) (h : d ≠ j) : (t.setIfInBounds d v).getD j undef = t.getD j undef := by
  simp [Array.getD_eq_getD_getElem?, Array.getElem?_setIfInBounds_ne h]
theorem getD_put_eq (t : Array Value) (d : Nat) (v : Value) (h : d < t.size) : (t.setIfInBounds d v).getD d undef = v := by
  simp [Array.getD_eq_getD_getElem?, Array.getElem?_setIfInBounds_self_of_lt h]

/-- Whatever comes up keeps Inv; where nothing may come up any more, Inv gives the post. -/
theorem wpAny_inv {P : Program} {md : Region.Mode} {ops : Array Oper} {Q : Exit → Act → World → Prop} (Inv : Array Bool → Act → World → Prop)
    (step : ∀ i listed a w, Inv listed a w → i ∈ Region.ready md ops listed → wpOp P ops Q i (Inv (listed.setIfInBounds i true)) a w)
    (done : ∀ listed a w, Inv listed a w → Region.ready md ops listed = [] → Q .normal a w) :
    ∀ (fuel : Nat) (listed : Array Bool) (a : Act) (w : World), listed.toList.count false ≤ fuel → Inv listed a w → wpAny P md ops Q fuel listed a w := by
  intro fuel
  induction fuel with
  | zero =>
    intro listed a w hc hI
    have hr : Region.ready md ops listed = [] := by
      rw [List.eq_nil_iff_forall_not_mem]
      intro i hi
      have h1 := (mem_ready.1 hi).1
      have hlt : i < listed.size := by
        rcases Nat.lt_or_ge i listed.size with h | h
        · exact h
        · rw [Array.getD_eq_getD_getElem?, Array.getElem?_eq_none h] at h1; cases h1
      rw [Array.getD_eq_getD_getElem?, Array.getElem?_eq_getElem hlt] at h1
      have h2 : false ∈ listed.toList := by rw [← show listed[i] = false from h1]; exact Array.getElem_mem_toList hlt
      have := List.count_pos_iff.2 h2
      omega
    exact ⟨hr, done _ _ _ hI hr⟩
  | succ fuel ih =>
    intro listed a w hc hI
    refine ⟨fun hr => done _ _ _ hI hr, fun i hi => wpOp_mono (fun a' w' h' => ih _ _ _ ?_ h') (step i listed a w hI hi)⟩
    have h1 := (mem_ready.1 hi).1
    have hlt : i < listed.size := by
      rcases Nat.lt_or_ge i listed.size with h | h
      · exact h
      · rw [Array.getD_eq_getD_getElem?, Array.getElem?_eq_none h] at h1; cases h1
    rw [Array.getD_eq_getD_getElem?, Array.getElem?_eq_getElem hlt] at h1
    have h2 : listed[i] = false := h1
    rw [Array.toList_setIfInBounds]
    have h3 := count_set_lt listed.toList i (by simpa using hlt) (by rw [Array.getElem_toList]; exact h2)
    omega

/-- A region of plain operations, none guarded, each with a slot of its own: what each leaves in its slot is Good i, and stays so while old blocks stand. -/
theorem region_good {P : Program} {id : Nat} {ops : Array Oper} {Q : Exit → Act → World → Prop} {a0 : Act} {w0 : World} (hm : P.follows .mixedOrders = true)
    (D : Array Nat) (Good : Nat → Value → World → Prop) (mono : ∀ i v w w', Good i v w → Below w.heap.size w w' → Good i v w')
    (hsz : D.size = ops.size) (hops : ∀ i (h : i < ops.size), (ops[i]).guard = none ∧ (ops[i]).dst = some (D.getD i 0) ∧ D.getD i 0 < a0.tmps.size ∧ ∀ e ∈ (ops[i]).after, e.on < i)
    (hD : ∀ i j, i < ops.size → j < ops.size → D.getD i 0 = D.getD j 0 → i = j)
    (step : ∀ i (h : i < ops.size) (a : Act) (w : World), a.tmps.size = a0.tmps.size → a.defers = a0.defers → (∀ j, (∀ k, k < ops.size → D.getD k 0 ≠ j) → a.tmps.getD j undef = a0.tmps.getD j undef) →
      (∀ e ∈ (ops[i]).after, Region.binds .any e = true → Good e.on (a.tmps.getD (D.getD e.on 0) undef) w) → Below w0.heap.size w0 w →
      (ops[i]).wp P a w (fun a' w' => ∃ v, a' = a.put (ops[i]).dst v ∧ Good i v w' ∧ Below w.heap.size w w') Q)
    (done : ∀ (a : Act) (w : World), a.tmps.size = a0.tmps.size → a.defers = a0.defers → (∀ j, (∀ k, k < ops.size → D.getD k 0 ≠ j) → a.tmps.getD j undef = a0.tmps.getD j undef) →
      (∀ i, i < ops.size → Good i (a.tmps.getD (D.getD i 0) undef) w) → Below w0.heap.size w0 w → Q .normal a w) :
    (Code.region id ops true).wp P Q a0 w0 := by
  refine wp_region_any hm ?_
  refine wpAny_inv (fun listed a w => listed.size = ops.size ∧ a.tmps.size = a0.tmps.size ∧ a.defers = a0.defers ∧ (∀ j, (∀ k, k < ops.size → D.getD k 0 ≠ j) → a.tmps.getD j undef = a0.tmps.getD j undef) ∧
    (∀ i, i < ops.size → listed.getD i false = true → Good i (a.tmps.getD (D.getD i 0) undef) w) ∧ Below w0.heap.size w0 w) ?_ ?_ _ _ _ _ ?_ ?_
  · rintro i listed a w ⟨hl, hs, hdf, hbase, hgood, hb⟩ hr
    obtain ⟨h0, o, ho, hall⟩ := mem_ready.1 hr
    obtain ⟨hi, rfl⟩ := Array.getElem?_eq_some_iff.1 ho
    obtain ⟨hg, hd, hlt, hacyc⟩ := hops i hi
    have hstep := step i hi a w hs hdf hbase (fun e he hbd => hgood _ (Nat.lt_trans (hacyc e he) hi) (hall e he hbd)) hb
    unfold wpOp
    rw [ho]
    simp only [Region.wanted, hg, if_true]
    refine .inl (Oper.wp_mono ?_ hstep)
    rintro a' w' ⟨v, rfl, hv, hbw⟩
    rw [hd]
    have hpd : (a.put (some (D.getD i 0)) v).tmps = a.tmps.setIfInBounds (D.getD i 0) v := rfl
    have hne : ∀ j, D.getD i 0 ≠ j → (a.tmps.setIfInBounds (D.getD i 0) v).getD j undef = a.tmps.getD j undef := fun j hj => getD_put_ne _ _ _ _ hj
    refine ⟨by simpa using hl, by rw [hpd, Array.size_setIfInBounds]; exact hs, hdf, fun j hj => by rw [hpd, hne j (hj i hi)]; exact hbase j hj, fun k hk hlk => ?_, hb.trans (hbw.mono hb.size)⟩
    rw [hpd]
    by_cases hki : k = i
    · subst hki
      rw [getD_put_eq _ _ _ (by rw [hs]; exact hlt)]
      exact hv
    · rw [hne _ (fun e => hki (hD _ _ hi hk e).symm)]
      rw [getD_set_ne false (fun e => hki e.symm)] at hlk
      exact mono _ _ _ _ (hgood k hk hlk) hbw
  · rintro listed a w ⟨hl, hs, hdf, hbase, hgood, hb⟩ hr
    have hall : ∀ n, ∀ i, i < n → i < ops.size → listed.getD i false = true := by
      intro n
      induction n with
      | zero => intro i hi; omega
      | succ n ih =>
        intro i hi hio
        rcases Bool.eq_false_or_eq_true (listed.getD i false) with h | h
        · exact h
        · have : i ∈ Region.ready .any ops listed := by
            rw [mem_ready]
            refine ⟨?_, _, Array.getElem?_eq_getElem hio, fun e he _ => ?_⟩
            · rw [Array.getD_eq_getD_getElem?, Array.getElem?_eq_getElem (by omega)] at h ⊢
              exact h
            · have := (hops i hio).2.2.2 e he
              exact ih _ (by omega) (by omega)
          rw [hr] at this
          cases this
    exact done a w hs hdf hbase (fun i hi => hgood i hi (hall _ i (Nat.lt_succ_self _) hi)) hb
  · simp [List.count_replicate]
  · exact ⟨by simp, rfl, rfl, fun _ _ => rfl, fun i hi h => by simp [hi] at h, (Below.refl _ _).drew⟩

/-- The plain conditions of region_good, as one test. -/
def chk (ops : Array Oper) (D : Array Nat) (n : Nat) : Bool :=
  decide (D.size = ops.size) && ((List.range ops.size).all fun i => (match ops[i]? with
    | none => false
    | some o => o.guard.isNone && (match o.dst with | some d => d == D.getD i 0 | none => false) && decide (D.getD i 0 < n) && o.after.all fun e => decide (e.on < i)) &&
    (List.range ops.size).all fun j => !(D.getD i 0 == D.getD j 0) || i == j)
theorem region_chk {P : Program} {id : Nat} {ops : Array Oper} {Q : Exit → Act → World → Prop} {a0 : Act} {w0 : World} (hm : P.follows .mixedOrders = true)
    (D : Array Nat) (Good : Nat → Value → World → Prop) (mono : ∀ i v w w', Good i v w → Below w.heap.size w w' → Good i v w') (n : Nat) (hn : a0.tmps.size = n) (hchk : chk ops D n = true)
    (step : ∀ i (h : i < ops.size) (a : Act) (w : World), a.defers = a0.defers → (∀ j, D.toList.contains j = false → a.tmps.getD j undef = a0.tmps.getD j undef) →
      (∀ k, ((ops[i]).after.toList.any fun e => e.on == k && Region.binds .any e) = true → Good k (a.tmps.getD (D.getD k 0) undef) w) → Below w0.heap.size w0 w →
      (ops[i]).wp P a w (fun a' w' => ∃ v, a' = a.put (ops[i]).dst v ∧ Good i v w' ∧ Below w.heap.size w w') Q)
    (done : ∀ (a : Act) (w : World), a.tmps.size = n → a.defers = a0.defers → (∀ j, D.toList.contains j = false → a.tmps.getD j undef = a0.tmps.getD j undef) →
      (∀ i, i < ops.size → Good i (a.tmps.getD (D.getD i 0) undef) w) → Below w0.heap.size w0 w → Q .normal a w) :
    (Code.region id ops true).wp P Q a0 w0 := by
  unfold chk at hchk
  rw [Bool.and_eq_true, decide_eq_true_iff, List.all_eq_true] at hchk
  obtain ⟨hsz, hall⟩ := hchk
  have hb : ∀ (t : Array Value), (∀ j, (∀ k, k < ops.size → D.getD k 0 ≠ j) → t.getD j undef = a0.tmps.getD j undef) → ∀ j, D.toList.contains j = false → t.getD j undef = a0.tmps.getD j undef := fun t h j hj => h j fun k hk e => by
    have hkD : k < D.size := by omega
    have h1 : D.getD k 0 = D[k] := by rw [Array.getD_eq_getD_getElem?, Array.getElem?_eq_getElem hkD]; rfl
    rw [h1] at e
    have h2 : j ∈ D.toList := by rw [← e]; exact Array.getElem_mem_toList hkD
    rw [← List.contains_iff_mem, hj] at h2
    cases h2
  refine region_good hm D Good mono hsz (fun i h => ?_) (fun i j hi hj e => ?_) (fun i h a w hs hdf hbase hdep hbw => step i h a w hdf (hb _ hbase) (fun k hk => ?_) hbw) (fun a w hs hdf hbase hg hbw => done a w (hs.trans hn) hdf (hb _ hbase) hg hbw)
  · have h1 := hall i (List.mem_range.2 h)
    rw [Array.getElem?_eq_getElem h] at h1
    simp only [Bool.and_eq_true] at h1
    obtain ⟨⟨⟨⟨h2, h3⟩, h4⟩, h5⟩, _⟩ := h1
    refine ⟨Option.isNone_iff_eq_none.1 h2, ?_, by rw [hn]; exact of_decide_eq_true h4, fun e he => ?_⟩
    · cases hd : (ops[i]).dst with
      | none => rw [hd] at h3; cases h3
      | some d => rw [hd] at h3; rw [beq_iff_eq.1 h3]
    · exact of_decide_eq_true (Array.all_eq_true_iff_forall_mem.1 h5 e he)
  · have h1 := hall i (List.mem_range.2 hi)
    rw [Bool.and_eq_true] at h1
    have h2 := List.all_eq_true.1 h1.2 j (List.mem_range.2 hj)
    rw [e] at h2
    simpa using h2
  · obtain ⟨e, he, h2⟩ := List.any_eq_true.1 hk
    rw [Bool.and_eq_true] at h2
    have h3 : e.on = k := beq_iff_eq.1 h2.1
    rw [← h3]
    exact hdep e (Array.mem_toList_iff.1 he) h2.2

end Go.Proofs.YtbhlhgfgkiclgaaDoor.Rg

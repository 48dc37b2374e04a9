/- Part b of the chain. Conditions: those written at each lemma. -/
import Derived.Orders
import Derived.Below
import Derived.ProofKit
import Derived.Test.YtmelgankbegjaaaGreatDoorGa
set_option linter.unusedVariables false
set_option linter.unusedSimpArgs false
namespace Go.Proofs.YtmelgankbegjaaaGreatDoor.Rv
open Go Go.RowKit

theorem count_set_lt : ∀ (l : List Bool) (i : Nat) (h : i < l.length), l[i] = false → (l.set i true).count false < l.count false
  | b :: l, 0, _, h2 => by
    have h3 : b = false := h2
    subst h3
    simp
  | b :: l, i + 1, h, h2 => by
    have ih := count_set_lt l i (by simpa using h) (by simpa using h2)
    simp only [List.set_cons_succ, List.count_cons]
    omega
theorem getD_put_ne (t : Array Value) (d j : Nat) (v : Value) (h : d ≠ j) : (t.setIfInBounds d v).getD j undef = t.getD j undef := by
  simp [Array.getD_eq_getD_getElem?, Array.getElem?_setIfInBounds_ne h]
theorem getD_put_eq (t : Array Value) (d : Nat) (v : Value) (h : d < t.size) : (t.setIfInBounds d v).getD d undef = v := by
  simp [Array.getD_eq_getD_getElem?, Array.getElem?_setIfInBounds_self_of_lt h]

/-- Whatever comes up keeps Inv; where nothing may come up any more, Inv gives the post. -/
theorem wpAny_inv {P : Program} {md : Region.Mode} {ops : Array Oper} {Q : Exit → Act → World → Prop} (Inv : Array Bool → Act → World → Prop)
    (step : ∀ i listed a w, Inv listed a w → i ∈ Region.ready md ops listed → wpOp P ops Q i (Inv (listed.setIfInBounds i true)) a w)
    (done : ∀ listed a w, Inv listed a w → Region.ready md ops listed = [] → Q .normal a w) :
    ∀ (fuel : Nat) (listed : Array Bool) (a : Act) (w : World), listed.toList.count false ≤ fuel → Inv listed a w → wpAny P md ops Q fuel listed a w := by
  intro fuel
  induction fuel with
  | zero =>
    intro listed a w hc hI
    have hr : Region.ready md ops listed = [] := by
      rw [List.eq_nil_iff_forall_not_mem]
      intro i hi
      have h1 := (mem_ready.1 hi).1
      have hlt : i < listed.size := by
        rcases Nat.lt_or_ge i listed.size with h | h
        · exact h
        · rw [Array.getD_eq_getD_getElem?, Array.getElem?_eq_none h] at h1; cases h1
      rw [Array.getD_eq_getD_getElem?, Array.getElem?_eq_getElem hlt] at h1
      have h2 : false ∈ listed.toList := by rw [← show listed[i] = false from h1]; exact Array.getElem_mem_toList hlt
      have := List.count_pos_iff.2 h2
      omega
    exact ⟨hr, done _ _ _ hI hr⟩
  | succ fuel ih =>
    intro listed a w hc hI
    refine ⟨fun hr => done _ _ _ hI hr, fun i hi => wpOp_mono (fun a' w' h' => ih _ _ _ ?_ h') (step i listed a w hI hi)⟩
    have h1 := (mem_ready.1 hi).1
    have hlt : i < listed.size := by
      rcases Nat.lt_or_ge i listed.size with h | h
      · exact h
      · rw [Array.getD_eq_getD_getElem?, Array.getElem?_eq_none h] at h1; cases h1
    rw [Array.getD_eq_getD_getElem?, Array.getElem?_eq_getElem hlt] at h1
    have h2 : listed[i] = false := h1
    rw [Array.toList_setIfInBounds]
    have h3 := count_set_lt listed.toList i (by simpa using hlt) (by rw [Array.getElem_toList]; exact h2)
    omega

/-- What a slot reads: nothing, where there is none. -/
def slotv : Option Tmp → Value → Value
  | none, _ => undef
  | some _, v => v
/-- What a guard's slot holds. -/
def gval : Option Bool → Value
  | none => undef
  | some b => .bool b
/-- Whether the operation runs, by what the guards' slots hold. -/
def runs (G : Array (Option Bool)) (o : Oper) : Bool :=
  match o.guard with
  | none => true
  | some (g, b) => G.getD g none == some b
/-- The plain conditions of region_val, as one test. -/
def chk (ops : Array Oper) (D : Array Nat) (n : Nat) : Bool :=
  decide (D.size = ops.size) && ((List.range ops.size).all fun i => (match ops[i]? with
    | none => false
    | some o => (match o.dst with | some d => d == D.getD i 0 && decide (d < n) | none => decide (n ≤ D.getD i 0)) && (o.after.all fun e => !(Region.binds .any e) || decide (e.on < i)) &&
      (match o.guard with
        | none => true
        | some (g, _) => (o.after.any fun e => e.on == g && Region.binds .any e) && (match ops[g]? with | some og => og.dst.isSome | none => false))) &&
    (List.range ops.size).all fun j => !(D.getD i 0 == D.getD j 0) || i == j)
theorem yielded_at {ops : Array Oper} {t : Array Value} {g d : Nat} {x : Option Bool} (ho : (ops[g]?).bind (·.dst) = some d) (hd : d < t.size) (h : t.getD d undef = gval x) : yielded ops t g = x := by
  unfold yielded
  rw [ho]
  have h2 : (some d).bind (t[·]?) = some (t.getD d undef) := by simp [Array.getD_eq_getD_getElem?, Array.getElem?_eq_getElem hd]
  rw [h2, h]
  cases x <;> rfl

/-- j is wanted behind i. -/
def depends (ops : Array Oper) (j i : Nat) : Bool := match ops[j]? with | some o => o.after.toList.any fun e => e.on == i && Region.binds .any e | none => false
/-- Nothing that spoils what k left may have come up ahead of i. -/
def alive (ops : Array Oper) (K : Nat → Nat → Bool) (i k : Nat) : Bool := (List.range ops.size).all fun i' => !K i' k || (i' == i || (match ops[i']? with | some o => o.after.toList.any fun e => e.on == i && Region.binds .any e | none => false))
/-- Something spoils what k left. -/
def dead (ops : Array Oper) (K : Nat → Nat → Bool) (k : Nat) : Bool := (List.range ops.size).any fun i' => K i' k
theorem alive_no (ops : Array Oper) (i k : Nat) : alive ops (fun _ _ => false) i k = true := by unfold alive; simp
theorem dead_no (ops : Array Oper) (k : Nat) : dead ops (fun _ _ => false) k = false := by unfold dead; simp
/-- All operations of a kind come behind i, or are i. -/
def ahead (ops : Array Oper) (KA : Nat → Bool) (i : Nat) : Bool := (List.range ops.size).all fun k => !KA k || (k == i || depends ops k i)
/-- What the operations' slots hold. -/
def vals (D : Array Nat) (a : Act) : Nat → Value := fun k => a.tmps.getD (D.getD k 0) undef
def put (L : Nat → Bool) (i : Nat) : Nat → Bool := fun k => if k = i then true else L k
def upd (f : Nat → Value) (i : Nat) (v : Value) : Nat → Value := fun k => if k = i then v else f k
/-- The law in full: what an operation leaves may be told by what those ahead of it have left. -/
theorem region_gen {P : Program} {id : Nat} {ops : Array Oper} {Q : Exit → Act → World → Prop} {a0 : Act} {w0 : World} (hm : P.follows .mixedOrders = true)
    (D : Array Nat) (G : Array (Option Bool)) (Good : Nat → (Nat → Value) → World → Prop) (Rel : Nat → (Nat → Value) → World → World → Prop) (Tr : World → Prop) (K : Nat → Nat → Bool) (TrA : World → Prop) (KA : Nat → Bool) (J : (Nat → Bool) → (Nat → Value) → World → Prop)
    (jloc : ∀ L L' f f' w, (∀ k, k < ops.size → L k = L' k) → (∀ k, k < ops.size → f k = f' k) → J L f w → J L' f' w)
    (loc : ∀ i f f' w, i < ops.size → f i = f' i → (∀ k, depends ops i k = true → f k = f' k) → Good i f w → Good i f' w)
    (mono : ∀ i j f w w', i < ops.size → j < ops.size → i ≠ j → K i j = false → depends ops j i = false → Good j f w → Rel i f w w' → Good j f w')
    (hG : ∀ i (h : i < ops.size) g b, (ops[i]).guard = some (g, b) → ∀ f w, Good g f w → f g = gval (G.getD g none))
    (n : Nat) (hn : a0.tmps.size = n) (hchk : chk ops D n = true) (hgl : ∀ i (h : i < ops.size) g b, (ops[i]).guard = some (g, b) → alive ops K i g = true) (tr0 : Tr { w0 with drawn := w0.drawn + 1 }) (tra0 : TrA { w0 with drawn := w0.drawn + 1 }) (j0 : ∀ f, J (fun _ => false) f { w0 with drawn := w0.drawn + 1 })
    (skip : ∀ i (h : i < ops.size), runs G ops[i] = false → ∀ f w, f i = undef → Good i f w ∧ Rel i f w w) (jskip : ∀ i (h : i < ops.size), runs G ops[i] = false → ∀ L f w, L i = false → J L f w → J (put L i) (upd f i undef) w)
    (step : ∀ i (h : i < ops.size) (a : Act) (w : World), runs G ops[i] = true → a.defers = a0.defers → (∀ j, D.toList.contains j = false → a.tmps.getD j undef = a0.tmps.getD j undef) → (∀ k, k < ops.size → depends ops k i = true → a.tmps.getD (D.getD k 0) undef = a0.tmps.getD (D.getD k 0) undef) →
      (∀ k, ((ops[i]).after.toList.any fun e => e.on == k && Region.binds .any e) = true → alive ops K i k = true → Good k (vals D a) w) → Tr w → (ahead ops KA i = true → TrA w) → (∃ L : Nat → Bool, L i = false ∧ (∀ k, depends ops i k = true → L k = true) ∧ J L (vals D a) w) →
      (ops[i]).wp P a w (fun a' w' => ∃ v, a' = a.put (ops[i]).dst v ∧ Good i (upd (vals D a) i (slotv (ops[i]).dst v)) w' ∧ Rel i (upd (vals D a) i (slotv (ops[i]).dst v)) w w' ∧ Tr w' ∧ (KA i = false → TrA w → TrA w') ∧ (∀ L, L i = false → J L (vals D a) w → J (put L i) (upd (vals D a) i (slotv (ops[i]).dst v)) w')) Q)
    (done : ∀ (a : Act) (w : World), a.tmps.size = n → a.defers = a0.defers → (∀ j, D.toList.contains j = false → a.tmps.getD j undef = a0.tmps.getD j undef) →
      (∀ i, i < ops.size → dead ops K i = false → Good i (vals D a) w) → Tr w → J (fun _ => true) (vals D a) w → Q .normal a w) :
    (Code.region id ops true).wp P Q a0 w0 := by
  unfold chk at hchk
  rw [Bool.and_eq_true, decide_eq_true_iff, List.all_eq_true] at hchk
  obtain ⟨hsz, hall⟩ := hchk
  have hop : ∀ i (h : i < ops.size), (match (ops[i]).dst with | some d => d = D.getD i 0 ∧ d < n | none => n ≤ D.getD i 0) ∧ (∀ e ∈ (ops[i]).after, Region.binds .any e = true → e.on < i) ∧
      (∀ g b, (ops[i]).guard = some (g, b) → ((ops[i]).after.toList.any fun e => e.on == g && Region.binds .any e) = true ∧ ∃ og, ops[g]? = some og ∧ og.dst.isSome = true) := fun i h => by
    have h1 := hall i (List.mem_range.2 h)
    rw [Array.getElem?_eq_getElem h] at h1
    simp only [Bool.and_eq_true] at h1
    obtain ⟨⟨⟨h2, h3⟩, h4⟩, _⟩ := h1
    refine ⟨?_, fun e he hbd => by
      have h5 := Array.all_eq_true_iff_forall_mem.1 h3 e he
      rw [hbd] at h5
      exact of_decide_eq_true h5, fun g b hgb => ?_⟩
    · cases hd : (ops[i]).dst with
      | none => rw [hd] at h2; exact of_decide_eq_true h2
      | some d => rw [hd] at h2; simp only [Bool.and_eq_true] at h2; exact ⟨beq_iff_eq.1 h2.1, of_decide_eq_true h2.2⟩
    · rw [hgb] at h4
      simp only [Bool.and_eq_true] at h4
      refine ⟨by rw [← Array.any_toList] at h4; exact h4.1, ?_⟩
      cases hog : ops[g]? with
      | none => rw [hog] at h4; exact absurd h4.2 (by simp)
      | some og => rw [hog] at h4; exact ⟨og, rfl, h4.2⟩
  have hD : ∀ i j, i < ops.size → j < ops.size → D.getD i 0 = D.getD j 0 → i = j := fun i j hi hj e => by
    have h1 := hall i (List.mem_range.2 hi)
    rw [Bool.and_eq_true] at h1
    have h2 := List.all_eq_true.1 h1.2 j (List.mem_range.2 hj)
    rw [e] at h2
    simpa using h2
  have hb : ∀ (t : Array Value), (∀ j, (∀ k, k < ops.size → D.getD k 0 ≠ j) → t.getD j undef = a0.tmps.getD j undef) → ∀ j, D.toList.contains j = false → t.getD j undef = a0.tmps.getD j undef := fun t h j hj => h j fun k hk e => by
    have hkD : k < D.size := by omega
    have h1 : D.getD k 0 = D[k] := by rw [Array.getD_eq_getD_getElem?, Array.getElem?_eq_getElem hkD]; rfl
    rw [h1] at e
    have h2 : j ∈ D.toList := by rw [← e]; exact Array.getElem_mem_toList hkD
    rw [← List.contains_iff_mem, hj] at h2
    cases h2
  refine wp_region_any hm ?_
  refine wpAny_inv (fun listed a w => listed.size = ops.size ∧ a.tmps.size = n ∧ a.defers = a0.defers ∧ (∀ j, (∀ k, k < ops.size → D.getD k 0 ≠ j) → a.tmps.getD j undef = a0.tmps.getD j undef) ∧
    (∀ i, i < ops.size → listed.getD i false = true → (∀ i', i' < ops.size → K i' i = true → listed.getD i' false = false) → Good i (vals D a) w) ∧ Tr w ∧
    (∀ i (h : i < ops.size), listed.getD i false = true → ∀ e ∈ (ops[i]).after, Region.binds .any e = true → listed.getD e.on false = true) ∧
    (∀ i, i < ops.size → listed.getD i false = false → a.tmps.getD (D.getD i 0) undef = a0.tmps.getD (D.getD i 0) undef) ∧
    ((∀ k, k < ops.size → KA k = true → listed.getD k false = false) → TrA w) ∧ J (fun k => listed.getD k false) (vals D a) w) ?_ ?_ _ _ _ _ ?_ ?_
  · rintro i listed a w ⟨hl, hs, hdf, hbase, hgood, htr, hcl, hun, htra, hJ⟩ hr
    obtain ⟨h0, o, ho, hall2⟩ := mem_ready.1 hr
    obtain ⟨hi, rfl⟩ := Array.getElem?_eq_some_iff.1 ho
    have h0f : listed.getD i false = false := by
      rw [Array.getD_eq_getD_getElem?, Array.getElem?_eq_getElem (by omega)] at h0 ⊢
      exact h0
    obtain ⟨hd, hacyc, hgd⟩ := hop i hi
    have hdep : ∀ k, ((ops[i]).after.toList.any fun e => e.on == k && Region.binds .any e) = true → alive ops K i k = true → Good k (vals D a) w := fun k hk hal => by
      obtain ⟨e, he, h2⟩ := List.any_eq_true.1 hk
      rw [Bool.and_eq_true] at h2
      have h3 : e.on = k := beq_iff_eq.1 h2.1
      rw [← h3]
      have he2 := Array.mem_toList_iff.1 he
      refine hgood _ (Nat.lt_trans (hacyc e he2 h2.2) hi) (hall2 e he2 h2.2) (fun i' hi' hK => ?_)
      rw [h3] at hK
      rcases Bool.eq_false_or_eq_true (listed.getD i' false) with hli | hli
      · exfalso
        have hal2 := List.all_eq_true.1 hal i' (List.mem_range.2 hi')
        rw [hK, Array.getElem?_eq_getElem hi'] at hal2
        simp only [Bool.not_true, Bool.false_or, Bool.or_eq_true, beq_iff_eq] at hal2
        rcases hal2 with rfl | hal2
        · rw [h0f] at hli; cases hli
        · obtain ⟨e', he', h4⟩ := List.any_eq_true.1 hal2
          rw [Bool.and_eq_true] at h4
          have := hcl i' hi' hli e' (Array.mem_toList_iff.1 he') h4.2
          rw [beq_iff_eq.1 h4.1, h0f] at this
          cases this
      · exact hli
    have hpre : ∀ k, k < ops.size → depends ops k i = true → a.tmps.getD (D.getD k 0) undef = a0.tmps.getD (D.getD k 0) undef := fun k hk hdk => by
      refine hun k hk ?_
      rcases Bool.eq_false_or_eq_true (listed.getD k false) with h | h
      · exfalso
        unfold depends at hdk
        rw [Array.getElem?_eq_getElem hk] at hdk
        obtain ⟨e, he, h4⟩ := List.any_eq_true.1 hdk
        rw [Bool.and_eq_true] at h4
        have := hcl k hk h e (Array.mem_toList_iff.1 he) h4.2
        rw [beq_iff_eq.1 h4.1, h0f] at this
        cases this
      · exact h
    have hahead : ahead ops KA i = true → TrA w := fun hal => htra fun k hk hK => by
      rcases Bool.eq_false_or_eq_true (listed.getD k false) with h | h
      · exfalso
        have hal2 := List.all_eq_true.1 hal k (List.mem_range.2 hk)
        rw [hK] at hal2
        simp only [Bool.not_true, Bool.false_or, Bool.or_eq_true, beq_iff_eq] at hal2
        rcases hal2 with rfl | hal2
        · rw [h0f] at h; cases h
        · unfold depends at hal2
          rw [Array.getElem?_eq_getElem hk] at hal2
          obtain ⟨e, he, h4⟩ := List.any_eq_true.1 hal2
          rw [Bool.and_eq_true] at h4
          have := hcl k hk h e (Array.mem_toList_iff.1 he) h4.2
          rw [beq_iff_eq.1 h4.1, h0f] at this
          cases this
      · exact h
    have hJL : ∃ L : Nat → Bool, L i = false ∧ (∀ k, depends ops i k = true → L k = true) ∧ J L (vals D a) w := ⟨fun k => listed.getD k false, h0f, fun k hk => by
      unfold depends at hk
      rw [Array.getElem?_eq_getElem hi] at hk
      obtain ⟨e, he, h4⟩ := List.any_eq_true.1 hk
      rw [Bool.and_eq_true] at h4
      have := hall2 e (Array.mem_toList_iff.1 he) h4.2
      rwa [beq_iff_eq.1 h4.1] at this, hJ⟩
    have hwant : Region.wanted ops[i] (yielded ops a.tmps) = runs G ops[i] := by
      unfold Region.wanted runs
      cases hg : (ops[i]).guard with
      | none => rfl
      | some p =>
        obtain ⟨g, b⟩ := p
        obtain ⟨h1, og, hog, hsome⟩ := hgd g b hg
        obtain ⟨hgi, rfl⟩ := Array.getElem?_eq_some_iff.1 hog
        obtain ⟨dg, hdg⟩ := Option.isSome_iff_exists.1 hsome
        have hdg2 := (hop g hgi).1
        rw [hdg] at hdg2
        have hdg2 : dg = D.getD g 0 ∧ dg < n := hdg2
        have hdg3 : dg < a.tmps.size := by rw [hs]; exact hdg2.2
        have hv := hG i hi g b hg _ _ (hdep g h1 (hgl i hi g b hg))
        have hv : a.tmps.getD (D.getD g 0) undef = gval (G.getD g none) := hv
        rw [← hdg2.1] at hv
        simp only
        rw [yielded_at (by rw [hog]; exact hdg) hdg3 hv]
    have after : ∀ (a' : Act) (w' : World) (v : Value), a' = a.put (ops[i]).dst v → Good i (upd (vals D a) i (slotv (ops[i]).dst v)) w' → Rel i (upd (vals D a) i (slotv (ops[i]).dst v)) w w' → Tr w' → (KA i = false → TrA w → TrA w') → J (put (fun k => listed.getD k false) i) (upd (vals D a) i (slotv (ops[i]).dst v)) w' →
        (listed.setIfInBounds i true).size = ops.size ∧ a'.tmps.size = n ∧ a'.defers = a0.defers ∧ (∀ j, (∀ k, k < ops.size → D.getD k 0 ≠ j) → a'.tmps.getD j undef = a0.tmps.getD j undef) ∧
        (∀ k, k < ops.size → (listed.setIfInBounds i true).getD k false = true → (∀ i', i' < ops.size → K i' k = true → (listed.setIfInBounds i true).getD i' false = false) → Good k (vals D a') w') ∧ Tr w' ∧
        (∀ k (h : k < ops.size), (listed.setIfInBounds i true).getD k false = true → ∀ e ∈ (ops[k]).after, Region.binds .any e = true → (listed.setIfInBounds i true).getD e.on false = true) ∧
        (∀ k, k < ops.size → (listed.setIfInBounds i true).getD k false = false → a'.tmps.getD (D.getD k 0) undef = a0.tmps.getD (D.getD k 0) undef) ∧
        ((∀ k, k < ops.size → KA k = true → (listed.setIfInBounds i true).getD k false = false) → TrA w') ∧ J (fun k => (listed.setIfInBounds i true).getD k false) (vals D a') w' := by
      rintro a' w' v rfl hv hrel htr' hta' hJ'
      have htm : (a.put (ops[i]).dst v).tmps = a.tmps.setIfInBounds (D.getD i 0) v ∧ (slotv (ops[i]).dst v = (a.tmps.setIfInBounds (D.getD i 0) v).getD (D.getD i 0) undef) := by
        cases hdd : (ops[i]).dst with
        | none =>
          rw [hdd] at hd
          have hge : a.tmps.size ≤ D.getD i 0 := by rw [hs]; exact hd
          have e : a.tmps.setIfInBounds (D.getD i 0) v = a.tmps := by
            rw [Array.setIfInBounds, dif_neg (by omega)]
          refine ⟨e.symm, ?_⟩
          rw [e, Array.getD_eq_getD_getElem?, Array.getElem?_eq_none hge]
          rfl
        | some d =>
          rw [hdd] at hd
          have hd : d = D.getD i 0 ∧ d < n := hd
          obtain ⟨e, hlt⟩ := hd
          rw [← e]
          exact ⟨rfl, (getD_put_eq _ _ _ (by rw [hs]; exact hlt)).symm⟩
      have hupd : ∀ k, k < ops.size → upd (vals D a) i (slotv (ops[i]).dst v) k = vals D (a.put (ops[i]).dst v) k := fun k hk => by
        unfold upd vals
        rw [htm.1]
        by_cases hki : k = i
        · rw [if_pos hki, hki]; exact htm.2
        · rw [if_neg hki, getD_put_ne _ _ _ _ (fun e => hki (hD _ _ hi hk e).symm)]
      have hdlt : ∀ j k, j < ops.size → depends ops j k = true → k < ops.size := fun j k hj hd => by
        unfold depends at hd
        rw [Array.getElem?_eq_getElem hj] at hd
        obtain ⟨e, he, h4⟩ := List.any_eq_true.1 hd
        rw [Bool.and_eq_true] at h4
        have := (hop j hj).2.1 e (Array.mem_toList_iff.1 he) h4.2
        rw [beq_iff_eq.1 h4.1] at this
        omega
      have hdf2 : (a.put (ops[i]).dst v).defers = a.defers := by cases (ops[i]).dst <;> rfl
      refine ⟨by simpa using hl, by rw [htm.1, Array.size_setIfInBounds]; exact hs, by rw [hdf2]; exact hdf, fun j hj => by rw [htm.1, getD_put_ne _ _ _ _ (hj i hi)]; exact hbase j hj, fun k hk hlk hkl => ?_, htr', fun k hk hlk e he hbd => ?_, fun k hk hlk => ?_, fun hno => ?_, jloc _ _ _ _ _ (fun k hk => ?_) (fun k hk => hupd k hk) hJ'⟩
      have hset : ∀ k, k ≠ i → (listed.setIfInBounds i true).getD k false = listed.getD k false := fun k hki => by
        rw [Array.getD_eq_getD_getElem?, Array.getElem?_setIfInBounds_ne (fun e => hki e.symm), ← Array.getD_eq_getD_getElem?]
      have hsi : (listed.setIfInBounds i true).getD i false = true := by
        rw [Array.getD_eq_getD_getElem?, Array.getElem?_setIfInBounds_self_of_lt (by omega)]; rfl
      · by_cases hki : k = i
        · subst hki
          exact loc k _ _ _ hk (hupd k hk) (fun j hj => hupd j (hdlt k j hk hj)) hv
        · refine loc k _ _ _ hk (hupd k hk) (fun j hj => hupd j (hdlt k j hk hj)) ?_
          rw [hset k hki] at hlk
          have hKik : K i k = false := by
            rcases Bool.eq_false_or_eq_true (K i k) with h | h
            · have := hkl i hi h
              rw [hsi] at this
              cases this
            · exact h
          have hdp : depends ops k i = false := by
            rcases Bool.eq_false_or_eq_true (depends ops k i) with h | h
            · exfalso
              unfold depends at h
              rw [Array.getElem?_eq_getElem hk] at h
              obtain ⟨e, he, h4⟩ := List.any_eq_true.1 h
              rw [Bool.and_eq_true] at h4
              have := hcl k hk hlk e (Array.mem_toList_iff.1 he) h4.2
              rw [beq_iff_eq.1 h4.1, h0f] at this
              cases this
            · exact h
          refine mono i k _ _ _ hi hk (fun e => hki e.symm) hKik hdp (loc k (vals D a) _ _ hk ?_ (fun j hj => ?_) (hgood k hk hlk (fun i' hi' hK => ?_))) hrel
          · unfold upd
            rw [if_neg hki]
          · unfold upd
            rw [if_neg (fun e => by rw [e, hdp] at hj; cases hj)]
          by_cases hii : i' = i
          · subst hii; exact h0f
          · have := hkl i' hi' hK
            rwa [hset i' hii] at this
      · have hset : ∀ k, k ≠ i → (listed.setIfInBounds i true).getD k false = listed.getD k false := fun k hki => by
          rw [Array.getD_eq_getD_getElem?, Array.getElem?_setIfInBounds_ne (fun e => hki e.symm), ← Array.getD_eq_getD_getElem?]
        have hsi : (listed.setIfInBounds i true).getD i false = true := by
          rw [Array.getD_eq_getD_getElem?, Array.getElem?_setIfInBounds_self_of_lt (by omega)]; rfl
        have hon : listed.getD e.on false = true := by
          by_cases hki : k = i
          · subst hki; exact hall2 e he hbd
          · rw [hset k hki] at hlk
            exact hcl k hk hlk e he hbd
        by_cases hoi : e.on = i
        · rw [hoi]; exact hsi
        · rw [hset _ hoi]; exact hon
      · by_cases hki : k = i
        · subst hki
          rw [Array.getD_eq_getD_getElem?, Array.getElem?_setIfInBounds_self_of_lt (by omega)] at hlk
          cases hlk
        · have hset : (listed.setIfInBounds i true).getD k false = listed.getD k false := by
            rw [Array.getD_eq_getD_getElem?, Array.getElem?_setIfInBounds_ne (fun e => hki e.symm), ← Array.getD_eq_getD_getElem?]
          rw [hset] at hlk
          rw [htm.1, getD_put_ne _ _ _ _ (fun e => hki (hD _ _ hi hk e).symm)]
          exact hun k hk hlk
      · have hsi : (listed.setIfInBounds i true).getD i false = true := by
          rw [Array.getD_eq_getD_getElem?, Array.getElem?_setIfInBounds_self_of_lt (by omega)]; rfl
        have hKi : KA i = false := by
          rcases Bool.eq_false_or_eq_true (KA i) with h | h
          · have := hno i hi h
            rw [hsi] at this
            cases this
          · exact h
        refine hta' hKi (htra fun k hk hK => ?_)
        have h := hno k hk hK
        by_cases hki : k = i
        · subst hki; exact h0f
        · rwa [Array.getD_eq_getD_getElem?, Array.getElem?_setIfInBounds_ne (fun e => hki e.symm), ← Array.getD_eq_getD_getElem?] at h
      · unfold put
        by_cases hki : k = i
        · subst hki
          rw [if_pos rfl, Array.getD_eq_getD_getElem?, Array.getElem?_setIfInBounds_self_of_lt (by omega)]
          rfl
        · rw [if_neg hki, Array.getD_eq_getD_getElem? (xs := listed.setIfInBounds i true), Array.getElem?_setIfInBounds_ne (fun e => hki e.symm), ← Array.getD_eq_getD_getElem?]
    unfold wpOp
    rw [ho]
    simp only [hwant]
    cases hrun : runs G ops[i] with
    | true =>
      simp only [if_true]
      refine .inl (Oper.wp_mono ?_ (step i hi a w hrun hdf (hb _ hbase) hpre hdep htr hahead hJL))
      rintro a' w' ⟨v, hv⟩
      exact after a' w' v hv.1 hv.2.1 hv.2.2.1 hv.2.2.2.1 hv.2.2.2.2.1 (hv.2.2.2.2.2 _ h0f hJ)
    | false =>
      have hu : upd (vals D a) i (slotv (ops[i]).dst undef) i = undef := by
        unfold upd
        rw [if_pos rfl]
        cases (ops[i]).dst <;> rfl
      obtain ⟨h1, h2⟩ := skip i hi hrun _ w hu
      simp only [Bool.false_eq_true, if_false]
      refine after _ w undef rfl h1 h2 htr (fun _ h => h) ?_
      have hju := jskip i hi hrun _ _ w h0f hJ
      have e : slotv (ops[i]).dst undef = undef := by cases (ops[i]).dst <;> rfl
      rw [e]
      exact hju
  · rintro listed a w ⟨hl, hs, hdf, hbase, hgood, htr, hcl, _, _, hJ⟩ hr
    have hall3 : ∀ m, ∀ i, i < m → i < ops.size → listed.getD i false = true := by
      intro m
      induction m with
      | zero => intro i hi; omega
      | succ m ih =>
        intro i hi hio
        rcases Bool.eq_false_or_eq_true (listed.getD i false) with h | h
        · exact h
        · have : i ∈ Region.ready .any ops listed := by
            rw [mem_ready]
            refine ⟨?_, _, Array.getElem?_eq_getElem hio, fun e he hbd => ?_⟩
            · rw [Array.getD_eq_getD_getElem?, Array.getElem?_eq_getElem (by omega)] at h ⊢
              exact h
            · have := (hop i hio).2.1 e he hbd
              exact ih _ (by omega) (by omega)
          rw [hr] at this
          cases this
    exact done a w hs hdf (hb _ hbase) (fun i hi hd => hgood i hi (hall3 _ i (Nat.lt_succ_self _) hi) (fun i' hi' hK => absurd (List.any_eq_true.2 ⟨i', List.mem_range.2 hi', hK⟩) (by show ¬ dead ops K i = true; rw [hd]; simp))) htr (jloc _ _ _ _ _ (fun k hk => hall3 _ k (Nat.lt_succ_self _) hk) (fun _ _ => rfl) hJ)
  · simp [List.count_replicate]
  · exact ⟨by simp, hn, rfl, fun _ _ => rfl, fun i hi h => by simp [hi] at h, tr0, fun i hi h => by simp [hi] at h, fun _ _ _ => rfl, fun _ => tra0, jloc _ _ _ _ _ (fun k hk => by simp [hk]) (fun _ _ => rfl) (j0 (vals D a0))⟩

theorem region_val {P : Program} {id : Nat} {ops : Array Oper} {Q : Exit → Act → World → Prop} {a0 : Act} {w0 : World} (hm : P.follows .mixedOrders = true)
    (D : Array Nat) (G : Array (Option Bool)) (Good : Nat → Value → World → Prop) (Rel : Nat → World → World → Prop) (Tr : World → Prop) (K : Nat → Nat → Bool)
    (mono : ∀ i j v w w', i ≠ j → K i j = false → depends ops j i = false → Good j v w → Rel i w w' → Good j v w')
    (hG : ∀ i (h : i < ops.size) g b, (ops[i]).guard = some (g, b) → ∀ v w, Good g v w → v = gval (G.getD g none))
    (n : Nat) (hn : a0.tmps.size = n) (hchk : chk ops D n = true) (hgl : ∀ i (h : i < ops.size) g b, (ops[i]).guard = some (g, b) → alive ops K i g = true) (tr0 : Tr { w0 with drawn := w0.drawn + 1 })
    (skip : ∀ i (h : i < ops.size), runs G ops[i] = false → ∀ w, Good i undef w ∧ Rel i w w)
    (step : ∀ i (h : i < ops.size) (a : Act) (w : World), runs G ops[i] = true → a.defers = a0.defers → (∀ j, D.toList.contains j = false → a.tmps.getD j undef = a0.tmps.getD j undef) → (∀ k, k < ops.size → depends ops k i = true → a.tmps.getD (D.getD k 0) undef = a0.tmps.getD (D.getD k 0) undef) →
      (∀ k, ((ops[i]).after.toList.any fun e => e.on == k && Region.binds .any e) = true → alive ops K i k = true → Good k (a.tmps.getD (D.getD k 0) undef) w) → Tr w →
      (ops[i]).wp P a w (fun a' w' => ∃ v, a' = a.put (ops[i]).dst v ∧ Good i (slotv (ops[i]).dst v) w' ∧ Rel i w w' ∧ Tr w') Q)
    (done : ∀ (a : Act) (w : World), a.tmps.size = n → a.defers = a0.defers → (∀ j, D.toList.contains j = false → a.tmps.getD j undef = a0.tmps.getD j undef) →
      (∀ i, i < ops.size → dead ops K i = false → Good i (a.tmps.getD (D.getD i 0) undef) w) → Tr w → Q .normal a w) :
    (Code.region id ops true).wp P Q a0 w0 :=
  region_gen hm D G (fun i f w => Good i (f i) w) (fun i _ w w' => Rel i w w') Tr K (fun _ => True) (fun _ => false) (fun _ _ _ => True) (fun _ _ _ _ _ _ _ _ => trivial) (fun i f f' w _ h _ hg => by rw [← h]; exact hg) (fun i j f w w' _ _ hij hK hd h hr => mono i j (f j) w w' hij hK hd h hr)
    (fun i h g b hg f w hf => hG i h g b hg (f g) w hf) n hn hchk hgl tr0 trivial (fun _ => trivial) (fun i h hr f w hf => by rw [hf]; exact skip i h hr w) (fun _ _ _ _ _ _ _ _ => trivial)
    (fun i h a w hr hdf hbase hpre hdep htr _ _ => Oper.wp_mono (by
      rintro a' w' ⟨v, rfl, hv, hrel, ht⟩
      refine ⟨v, rfl, ?_, hrel, ht, fun _ _ => trivial, fun _ _ _ => trivial⟩
      show Good i (upd (vals D a) i (slotv (ops[i]).dst v) i) w'
      rw [upd, if_pos rfl]
      exact hv) (step i h a w hr hdf hbase hpre hdep htr)) (fun a w hs hdf hbase hg htr _ => done a w hs hdf hbase hg htr)
/-! ### one step -/
section
variable {P : Program} {o : Oper} {a : Act} {w w1 : World} {K : Act → World → Prop} {Q : Exit → Act → World → Prop} {v : Value}
/-- A plain operation, by what it gives. -/
theorem step_run (h : (execOp a.eval o).run P w = .ok (.value v) w1) (hK : K (a.put o.dst v) w1) : o.wp P a w K Q := by
  unfold Oper.wp
  rw [h]
  exact hK
/-- A call, by what the callee gives. -/
theorem step_call {f : FuncId} {args : Array Value} {R : Value → World → Prop} (h : (execOp a.eval o).run P w = .ok (.enter f args) w) (hC : Calls P f args w fun e w' => ∃ v, e = .returned v ∧ R v w')
    (hK : ∀ v w', R v w' → K (a.put o.dst v) w') : o.wp P a w K Q := by
  unfold Oper.wp
  rw [h]
  refine Calls.mono hC fun e w' => ?_
  rintro ⟨v, rfl, hr⟩
  exact hK v w' hr
/-- The same, by the operation and its type. -/
theorem step_op {op : Op} {ty : TypeId} (ho : o.op = op) (hty : o.type = ty) (h : ∀ d pos aft g, (execOp a.eval ⟨d, op, ty, pos, aft, g⟩).run P w = .ok (.value v) w1) (hK : K (a.put o.dst v) w1) : o.wp P a w K Q := by
  subst ho; subst hty
  exact step_run (h _ _ _ _) hK
/-- A store, by what it gives. -/
theorem step_skip {op : Op} {ty : TypeId} (ho : o.op = op) (hty : o.type = ty) (h : ∀ d pos aft g, (execOp a.eval ⟨d, op, ty, pos, aft, g⟩).run P w = .ok .skip w1) (hK : K (a.put o.dst undef) w1) : o.wp P a w K Q := by
  subst ho; subst hty
  unfold Oper.wp
  rw [h]
  exact hK
theorem step_fn {op : Op} {ty : TypeId} {f : FuncId} {args : Array Value} {R : Value → World → Prop} (ho : o.op = op) (hty : o.type = ty) (h : ∀ d pos aft g, (execOp a.eval ⟨d, op, ty, pos, aft, g⟩).run P w = .ok (.enter f args) w)
    (hC : Calls P f args w fun e w' => ∃ v, e = .returned v ∧ R v w') (hK : ∀ v w', R v w' → K (a.put o.dst v) w') : o.wp P a w K Q := by
  subst ho; subst hty
  exact step_call (h _ _ _ _) hC hK
end
/-- A call at a step of a region that draws its order, in the form that go_region_law asks for. -/
theorem step_go {P : Program} {ops : Array Oper} {o : Oper} {a : Act} {Q : Exit → Act → World → Prop} {w : World} {K : Act → World → Prop} {E : Prop} {f : FuncId} {args : Array Value} {R : Value → World → Prop} (hgd : o.guard = none)
    (h : (execOp a.eval o).run P w = .ok (.enter f args) w) (hC : Calls P f args w fun e w' => ∃ v, e = .returned v ∧ R v w') (hK : ∀ v w', R v w' → K (a.put o.dst v) w') :
    if Region.wanted o (yielded ops a.tmps) = true then Oper.wp P o a w K Q else E := by
  rw [if_pos (by simp [Region.wanted, hgd])]
  exact step_call h hC hK
/-- The slots, read off one by one. -/
theorem tmps_ext {a b : Array Value} (hs : a.size = b.size) (h : ∀ j, j < b.size → a.getD j undef = b.getD j undef) : a = b := by
  refine Array.ext hs fun i h1 h2 => ?_
  have := h i h2
  rwa [Array.getD_eq_getD_getElem?, Array.getD_eq_getD_getElem?, Array.getElem?_eq_getElem h1, Array.getElem?_eq_getElem h2] at this

/-! ### regions in which each operation gives a value that hangs on no order -/
/-- The slots D get the values V. -/
def fin (a : Act) (L : List (Nat × Value)) : Act := L.foldl (fun a p => a.put (some p.1) p.2) a
theorem fin_defers : ∀ (L : List (Nat × Value)) (a : Act), (fin a L).defers = a.defers
  | [], _ => rfl
  | p :: L, a => by rw [fin, List.foldl_cons]; exact fin_defers L _
theorem fin_size : ∀ (L : List (Nat × Value)) (a : Act), (fin a L).tmps.size = a.tmps.size
  | [], _ => rfl
  | p :: L, a => by
    rw [fin, List.foldl_cons]
    exact (fin_size L _).trans (by show (a.tmps.setIfInBounds p.1 p.2).size = _; simp)
theorem fin_out : ∀ (L : List (Nat × Value)) (a : Act) (j : Nat), (∀ p ∈ L, p.1 ≠ j) → (fin a L).tmps.getD j undef = a.tmps.getD j undef
  | [], _, _, _ => rfl
  | p :: L, a, j, h => by
    rw [fin, List.foldl_cons]
    exact (fin_out L _ j (fun q hq => h q (List.mem_cons_of_mem _ hq))).trans (getD_put_ne _ _ _ _ (h p List.mem_cons_self))
theorem fin_in : ∀ (L : List (Nat × Value)) (a : Act) (j : Nat) (v : Value), j < a.tmps.size → (∀ p ∈ L, p.1 = j → p.2 = v) → (∃ p ∈ L, p.1 = j) → (fin a L).tmps.getD j undef = v
  | [], _, _, _, _, _, h => by obtain ⟨p, hp, _⟩ := h; cases hp
  | p :: L, a, j, v, hj, hv, h => by
    rw [fin, List.foldl_cons]
    by_cases hL : ∃ q ∈ L, q.1 = j
    · exact fin_in L _ j v (by show j < (a.tmps.setIfInBounds p.1 p.2).size; simpa using hj) (fun q hq => hv q (List.mem_cons_of_mem _ hq)) hL
    · have hp : p.1 = j := by
        obtain ⟨q, hq, e⟩ := h
        rcases List.mem_cons.1 hq with rfl | hq
        · exact e
        · exact absurd ⟨q, hq, e⟩ hL
      refine (fin_out L _ j (fun q hq e => hL ⟨q, hq, e⟩)).trans ?_
      have e2 : p.2 = v := hv p List.mem_cons_self hp
      show (a.tmps.setIfInBounds p.1 p.2).getD j undef = v
      rw [hp, e2]
      exact getD_put_eq _ _ _ hj

/-- Each operation has a slot of its own. -/
def dsts (ops : Array Oper) : Bool := ops.all fun o => o.dst.isSome
theorem region_goods {P : Program} {id : Nat} {ops : Array Oper} {Q : Exit → Act → World → Prop} {a0 : Act} {w0 : World} (hm : P.follows .mixedOrders = true)
    (D : Array Nat) (G : Array (Option Bool)) (Good : Nat → Value → World → Prop) (mono : ∀ i v w w', Good i v w → Below w.heap.size w w' → Good i v w')
    (hG : ∀ i (h : i < ops.size) g b, (ops[i]).guard = some (g, b) → ∀ v w, Good g v w → v = gval (G.getD g none))
    (n : Nat) (hn : a0.tmps.size = n) (hchk : chk ops D n = true) (hds : dsts ops = true)
    (skip : ∀ i (h : i < ops.size), runs G ops[i] = false → ∀ w, Good i undef w)
    (step : ∀ i (h : i < ops.size) (a : Act) (w : World), runs G ops[i] = true → (∀ j, D.toList.contains j = false → a.tmps.getD j undef = a0.tmps.getD j undef) → (∀ k, k < ops.size → depends ops k i = true → a.tmps.getD (D.getD k 0) undef = a0.tmps.getD (D.getD k 0) undef) →
      (∀ k, ((ops[i]).after.toList.any fun e => e.on == k && Region.binds .any e) = true → Good k (a.tmps.getD (D.getD k 0) undef) w) → Below w0.heap.size w0 w →
      (ops[i]).wp P a w (fun a' w' => ∃ v, a' = a.put (ops[i]).dst v ∧ Good i v w' ∧ Below w.heap.size w w') Q)
    (done : ∀ (w : World) (f : Nat → Value), (∀ i, i < ops.size → Good i (f i) w) → Below w0.heap.size w0 w → Q .normal (fin a0 ((List.range ops.size).map fun i => (D.getD i 0, f i))) w) :
    (Code.region id ops true).wp P Q a0 w0 := by
  have hchk0 := hchk
  unfold chk at hchk0
  rw [Bool.and_eq_true, decide_eq_true_iff, List.all_eq_true] at hchk0
  obtain ⟨hsz, hall⟩ := hchk0
  have hsome : ∀ i (h : i < ops.size), (ops[i]).dst.isSome = true := fun i h => Array.all_eq_true.1 hds i h
  refine region_val hm D G Good (fun _ w w' => Below w.heap.size w w') (fun w => Below w0.heap.size w0 w) (fun _ _ => false) (fun _ j v w w' _ _ _ h hr => mono j v w w' h hr)
    hG n hn hchk (fun i h g b hg => alive_no _ _ _) ((Below.refl _ _).drew) (fun i h hr w => ⟨skip i h hr w, Below.refl _ _⟩)
    (fun i h a w hr hdf hbase hpre hdep htr => Oper.wp_mono ?_ (step i h a w hr hbase hpre (fun k hk => hdep k hk (alive_no _ _ _)) htr)) (fun a w hs hdf hbase hg htr => ?_)
  · rintro a' w' ⟨v, rfl, hv, hb⟩
    refine ⟨_, rfl, ?_, hb, htr.trans (hb.mono htr.size)⟩
    have := hsome i h
    cases hd : (ops[i]).dst with
    | none => rw [hd] at this; cases this
    | some d => exact hv
  · have hlt : ∀ i, i < ops.size → D.getD i 0 < n := fun i h => by
      have h1 := hall i (List.mem_range.2 h)
      rw [Array.getElem?_eq_getElem h] at h1
      simp only [Bool.and_eq_true] at h1
      have h2 := h1.1.1.1
      have := hsome i h
      cases hd : (ops[i]).dst with
      | none => rw [hd] at this; cases this
      | some d =>
        rw [hd] at h2
        simp only [Bool.and_eq_true] at h2
        rw [← beq_iff_eq.1 h2.1]
        exact of_decide_eq_true h2.2
    have hinj : ∀ i j, i < ops.size → j < ops.size → D.getD i 0 = D.getD j 0 → i = j := fun i j hi hj e => by
      have h1 := hall i (List.mem_range.2 hi)
      rw [Bool.and_eq_true] at h1
      have h2 := List.all_eq_true.1 h1.2 j (List.mem_range.2 hj)
      rw [e] at h2
      simpa using h2
    have hz : ∀ p ∈ (List.range ops.size).map fun i => (D.getD i 0, a.tmps.getD (D.getD i 0) undef), ∃ i, i < ops.size ∧ p.1 = D.getD i 0 ∧ p.2 = a.tmps.getD (D.getD i 0) undef := fun p hp => by
      obtain ⟨i, hi, rfl⟩ := List.mem_map.1 hp
      exact ⟨i, List.mem_range.1 hi, rfl, rfl⟩
    have e : a = fin a0 ((List.range ops.size).map fun i => (D.getD i 0, a.tmps.getD (D.getD i 0) undef)) := by
      have ht : a.tmps = (fin a0 ((List.range ops.size).map fun i => (D.getD i 0, a.tmps.getD (D.getD i 0) undef))).tmps := by
        refine tmps_ext (by rw [hs, fin_size, hn]) fun j hj => ?_
        rw [fin_size, hn] at hj
        by_cases hin : ∃ i, i < ops.size ∧ D.getD i 0 = j
        · obtain ⟨i, hi, rfl⟩ := hin
          refine (fin_in _ _ _ _ (by rw [hn]; exact hj) (fun p hp hpe => ?_) ⟨_, List.mem_map.2 ⟨i, List.mem_range.2 hi, rfl⟩, rfl⟩).symm
          obtain ⟨k, hk, h1, h2⟩ := hz p hp
          rw [h2, hinj k i hk hi (by rw [← h1, hpe])]
        · rw [fin_out _ _ _ (fun p hp e => by
            obtain ⟨k, hk, h1, _⟩ := hz p hp
            exact hin ⟨k, hk, by rw [← h1, e]⟩)]
          refine hbase j ?_
          rcases Bool.eq_false_or_eq_true (D.toList.contains j) with h | h
          · exfalso
            rw [List.contains_iff_mem] at h
            obtain ⟨i, hi, rfl⟩ := List.getElem_of_mem h
            have hi2 : i < D.size := by simpa using hi
            exact hin ⟨i, by omega, by rw [Array.getD_eq_getD_getElem?, Array.getElem?_eq_getElem hi2]; simp⟩
          · exact h
      have hd2 : a.defers = (fin a0 ((List.range ops.size).map fun i => (D.getD i 0, a.tmps.getD (D.getD i 0) undef))).defers := by rw [hdf, fin_defers]
      generalize hb2 : fin a0 ((List.range ops.size).map fun i => (D.getD i 0, a.tmps.getD (D.getD i 0) undef)) = b at *
      clear hb2
      cases a
      cases b
      simp only at ht hd2
      rw [ht, hd2]
    have hdone := done w (fun i => a.tmps.getD (D.getD i 0) undef) (fun i hi => hg i hi (dead_no _ _)) htr
    rw [← e] at hdone
    exact hdone
/-- The same, where some operations (KL) write to what others left (K). -/
theorem region_kills {P : Program} {id : Nat} {ops : Array Oper} {Q : Exit → Act → World → Prop} {a0 : Act} {w0 : World} (hm : P.follows .mixedOrders = true)
    (D : Array Nat) (G : Array (Option Bool)) (Good : Nat → Value → World → Prop) (K : Nat → Nat → Bool) (KL : Nat → Bool) (mono : ∀ i j v w w', i ≠ j → K i j = false → depends ops j i = false → Good j v w → (KL i = true ∨ Below w.heap.size w w') → Good j v w')
    (hG : ∀ i (h : i < ops.size) g b, (ops[i]).guard = some (g, b) → ∀ v w, Good g v w → v = gval (G.getD g none))
    (n : Nat) (hn : a0.tmps.size = n) (hchk : chk ops D n = true) (hds : dsts ops = true) (hgl : ∀ i (h : i < ops.size) g b, (ops[i]).guard = some (g, b) → alive ops K i g = true)
    (skip : ∀ i (h : i < ops.size), runs G ops[i] = false → ∀ w, Good i undef w)
    (step : ∀ i (h : i < ops.size) (a : Act) (w : World), runs G ops[i] = true → (∀ j, D.toList.contains j = false → a.tmps.getD j undef = a0.tmps.getD j undef) → (∀ k, k < ops.size → depends ops k i = true → a.tmps.getD (D.getD k 0) undef = a0.tmps.getD (D.getD k 0) undef) →
      (∀ k, ((ops[i]).after.toList.any fun e => e.on == k && Region.binds .any e) = true → alive ops K i k = true → Good k (a.tmps.getD (D.getD k 0) undef) w) → Below w0.heap.size w0 w →
      (ops[i]).wp P a w (fun a' w' => ∃ v, a' = a.put (ops[i]).dst v ∧ Good i v w' ∧ (KL i = true ∨ Below w.heap.size w w') ∧ Below w0.heap.size w0 w') Q)
    (done : ∀ (w : World) (f : Nat → Value), (∀ i, i < ops.size → dead ops K i = false → Good i (f i) w) → Below w0.heap.size w0 w → Q .normal (fin a0 ((List.range ops.size).map fun i => (D.getD i 0, f i))) w) :
    (Code.region id ops true).wp P Q a0 w0 := by
  have hchk0 := hchk
  unfold chk at hchk0
  rw [Bool.and_eq_true, decide_eq_true_iff, List.all_eq_true] at hchk0
  obtain ⟨hsz, hall⟩ := hchk0
  have hsome : ∀ i (h : i < ops.size), (ops[i]).dst.isSome = true := fun i h => Array.all_eq_true.1 hds i h
  refine region_val hm D G Good (fun i w w' => KL i = true ∨ Below w.heap.size w w') (fun w => Below w0.heap.size w0 w) K (fun i j v w w' hij hK hdp h hr => mono i j v w w' hij hK hdp h hr)
    hG n hn hchk hgl ((Below.refl _ _).drew) (fun i h hr w => ⟨skip i h hr w, .inr (Below.refl _ _)⟩)
    (fun i h a w hr hdf hbase hpre hdep htr => Oper.wp_mono ?_ (step i h a w hr hbase hpre hdep htr)) (fun a w hs hdf hbase hg htr => ?_)
  · rintro a' w' ⟨v, rfl, hv, hb, hb0⟩
    refine ⟨_, rfl, ?_, hb, hb0⟩
    have := hsome i h
    cases hd : (ops[i]).dst with
    | none => rw [hd] at this; cases this
    | some d => exact hv
  · have hlt : ∀ i, i < ops.size → D.getD i 0 < n := fun i h => by
      have h1 := hall i (List.mem_range.2 h)
      rw [Array.getElem?_eq_getElem h] at h1
      simp only [Bool.and_eq_true] at h1
      have h2 := h1.1.1.1
      have := hsome i h
      cases hd : (ops[i]).dst with
      | none => rw [hd] at this; cases this
      | some d =>
        rw [hd] at h2
        simp only [Bool.and_eq_true] at h2
        rw [← beq_iff_eq.1 h2.1]
        exact of_decide_eq_true h2.2
    have hinj : ∀ i j, i < ops.size → j < ops.size → D.getD i 0 = D.getD j 0 → i = j := fun i j hi hj e => by
      have h1 := hall i (List.mem_range.2 hi)
      rw [Bool.and_eq_true] at h1
      have h2 := List.all_eq_true.1 h1.2 j (List.mem_range.2 hj)
      rw [e] at h2
      simpa using h2
    have hz : ∀ p ∈ (List.range ops.size).map fun i => (D.getD i 0, a.tmps.getD (D.getD i 0) undef), ∃ i, i < ops.size ∧ p.1 = D.getD i 0 ∧ p.2 = a.tmps.getD (D.getD i 0) undef := fun p hp => by
      obtain ⟨i, hi, rfl⟩ := List.mem_map.1 hp
      exact ⟨i, List.mem_range.1 hi, rfl, rfl⟩
    have e : a = fin a0 ((List.range ops.size).map fun i => (D.getD i 0, a.tmps.getD (D.getD i 0) undef)) := by
      have ht : a.tmps = (fin a0 ((List.range ops.size).map fun i => (D.getD i 0, a.tmps.getD (D.getD i 0) undef))).tmps := by
        refine tmps_ext (by rw [hs, fin_size, hn]) fun j hj => ?_
        rw [fin_size, hn] at hj
        by_cases hin : ∃ i, i < ops.size ∧ D.getD i 0 = j
        · obtain ⟨i, hi, rfl⟩ := hin
          refine (fin_in _ _ _ _ (by rw [hn]; exact hj) (fun p hp hpe => ?_) ⟨_, List.mem_map.2 ⟨i, List.mem_range.2 hi, rfl⟩, rfl⟩).symm
          obtain ⟨k, hk, h1, h2⟩ := hz p hp
          rw [h2, hinj k i hk hi (by rw [← h1, hpe])]
        · rw [fin_out _ _ _ (fun p hp e => by
            obtain ⟨k, hk, h1, _⟩ := hz p hp
            exact hin ⟨k, hk, by rw [← h1, e]⟩)]
          refine hbase j ?_
          rcases Bool.eq_false_or_eq_true (D.toList.contains j) with h | h
          · exfalso
            rw [List.contains_iff_mem] at h
            obtain ⟨i, hi, rfl⟩ := List.getElem_of_mem h
            have hi2 : i < D.size := by simpa using hi
            exact hin ⟨i, by omega, by rw [Array.getD_eq_getD_getElem?, Array.getElem?_eq_getElem hi2]; simp⟩
          · exact h
      have hd2 : a.defers = (fin a0 ((List.range ops.size).map fun i => (D.getD i 0, a.tmps.getD (D.getD i 0) undef))).defers := by rw [hdf, fin_defers]
      generalize hb2 : fin a0 ((List.range ops.size).map fun i => (D.getD i 0, a.tmps.getD (D.getD i 0) undef)) = b at *
      clear hb2
      cases a
      cases b
      simp only at ht hd2
      rw [ht, hd2]
    have hdone := done w (fun i => a.tmps.getD (D.getD i 0) undef) hg htr
    rw [← e] at hdone
    exact hdone
/-- The law in full, the slots put together at the end. -/
theorem region_fin {P : Program} {id : Nat} {ops : Array Oper} {Q : Exit → Act → World → Prop} {a0 : Act} {w0 : World} (hm : P.follows .mixedOrders = true)
    (D : Array Nat) (G : Array (Option Bool)) (Good : Nat → (Nat → Value) → World → Prop) (K : Nat → Nat → Bool) (KL : Nat → Bool) (RelK : Nat → (Nat → Value) → World → World → Prop) (Tr TrA : World → Prop) (J : (Nat → Bool) → (Nat → Value) → World → Prop)
    (jloc : ∀ L L' f f' w, (∀ k, k < ops.size → L k = L' k) → (∀ k, k < ops.size → f k = f' k) → J L f w → J L' f' w)
    (loc : ∀ i f f' w, i < ops.size → f i = f' i → (∀ k, depends ops i k = true → f k = f' k) → Good i f w → Good i f' w)
    (mono : ∀ i j f w w', i < ops.size → j < ops.size → i ≠ j → K i j = false → depends ops j i = false → Good j f w → (KL i = true ∧ RelK i f w w') ∨ Below w.heap.size w w' → Good j f w')
    (hG : ∀ i (h : i < ops.size) g b, (ops[i]).guard = some (g, b) → ∀ f w, Good g f w → f g = gval (G.getD g none))
    (n : Nat) (hn : a0.tmps.size = n) (hchk : chk ops D n = true) (hgl : ∀ i (h : i < ops.size) g b, (ops[i]).guard = some (g, b) → alive ops K i g = true) (tr0 : Tr { w0 with drawn := w0.drawn + 1 }) (tra0 : TrA { w0 with drawn := w0.drawn + 1 }) (j0 : ∀ f, J (fun _ => false) f { w0 with drawn := w0.drawn + 1 })
    (skip : ∀ i (h : i < ops.size), runs G ops[i] = false → ∀ f w, f i = undef → Good i f w) (jskip : ∀ i (h : i < ops.size), runs G ops[i] = false → ∀ L f w, L i = false → J L f w → J (put L i) (upd f i undef) w)
    (step : ∀ i (h : i < ops.size) (a : Act) (w : World), runs G ops[i] = true → (∀ j, D.toList.contains j = false → a.tmps.getD j undef = a0.tmps.getD j undef) → (∀ k, k < ops.size → depends ops k i = true → a.tmps.getD (D.getD k 0) undef = a0.tmps.getD (D.getD k 0) undef) →
      (∀ k, ((ops[i]).after.toList.any fun e => e.on == k && Region.binds .any e) = true → alive ops K i k = true → Good k (vals D a) w) → Tr w → (ahead ops KL i = true → TrA w) → (∃ L : Nat → Bool, L i = false ∧ (∀ k, depends ops i k = true → L k = true) ∧ J L (vals D a) w) →
      (ops[i]).wp P a w (fun a' w' => ∃ v, a' = a.put (ops[i]).dst v ∧ Good i (upd (vals D a) i (slotv (ops[i]).dst v)) w' ∧ ((KL i = true ∧ RelK i (upd (vals D a) i (slotv (ops[i]).dst v)) w w') ∨ Below w.heap.size w w') ∧ Tr w' ∧ (KL i = false → TrA w → TrA w') ∧ (∀ L, L i = false → J L (vals D a) w → J (put L i) (upd (vals D a) i (slotv (ops[i]).dst v)) w')) Q)
    (done : ∀ (w : World) (f : Nat → Value), (∀ i, i < ops.size → dead ops K i = false → Good i f w) → Tr w → J (fun _ => true) f w → Q .normal (fin a0 ((List.range ops.size).map fun i => (D.getD i 0, f i))) w) :
    (Code.region id ops true).wp P Q a0 w0 := by
  have hchk0 := hchk
  unfold chk at hchk0
  rw [Bool.and_eq_true, decide_eq_true_iff, List.all_eq_true] at hchk0
  obtain ⟨hsz, hall⟩ := hchk0
  have hinj : ∀ i j, i < ops.size → j < ops.size → D.getD i 0 = D.getD j 0 → i = j := fun i j hi hj e => by
    have h1 := hall i (List.mem_range.2 hi)
    rw [Bool.and_eq_true] at h1
    have h2 := List.all_eq_true.1 h1.2 j (List.mem_range.2 hj)
    rw [e] at h2
    simpa using h2
  refine region_gen hm D G Good (fun i f w w' => (KL i = true ∧ RelK i f w w') ∨ Below w.heap.size w w') Tr K TrA KL J jloc loc mono hG n hn hchk hgl tr0 tra0 j0 (fun i h hr f w hf => ⟨skip i h hr f w hf, .inr (Below.refl _ _)⟩) jskip
    (fun i h a w hr hdf hbase hpre hdep htr hta hJ => step i h a w hr hbase hpre hdep htr hta hJ) (fun a w hs hdf hbase hg htr hJ => ?_)
  have hz : ∀ p ∈ (List.range ops.size).map fun i => (D.getD i 0, a.tmps.getD (D.getD i 0) undef), ∃ i, i < ops.size ∧ p.1 = D.getD i 0 ∧ p.2 = a.tmps.getD (D.getD i 0) undef := fun p hp => by
    obtain ⟨i, hi, rfl⟩ := List.mem_map.1 hp
    exact ⟨i, List.mem_range.1 hi, rfl, rfl⟩
  have e : a = fin a0 ((List.range ops.size).map fun i => (D.getD i 0, a.tmps.getD (D.getD i 0) undef)) := by
    have ht : a.tmps = (fin a0 ((List.range ops.size).map fun i => (D.getD i 0, a.tmps.getD (D.getD i 0) undef))).tmps := by
      refine tmps_ext (by rw [hs, fin_size, hn]) fun j hj => ?_
      rw [fin_size, hn] at hj
      by_cases hin : ∃ i, i < ops.size ∧ D.getD i 0 = j
      · obtain ⟨i, hi, rfl⟩ := hin
        refine (fin_in _ _ _ _ (by rw [hn]; exact hj) (fun p hp hpe => ?_) ⟨_, List.mem_map.2 ⟨i, List.mem_range.2 hi, rfl⟩, rfl⟩).symm
        obtain ⟨k, hk, h1, h2⟩ := hz p hp
        rw [h2, hinj k i hk hi (by rw [← h1, hpe])]
      · rw [fin_out _ _ _ (fun p hp e => by
          obtain ⟨k, hk, h1, _⟩ := hz p hp
          exact hin ⟨k, hk, by rw [← h1, e]⟩)]
        refine hbase j ?_
        rcases Bool.eq_false_or_eq_true (D.toList.contains j) with h | h
        · exfalso
          rw [List.contains_iff_mem] at h
          obtain ⟨i, hi, rfl⟩ := List.getElem_of_mem h
          have hi2 : i < D.size := by simpa using hi
          exact hin ⟨i, by omega, by rw [Array.getD_eq_getD_getElem?, Array.getElem?_eq_getElem hi2]; simp⟩
        · exact h
    have hd2 : a.defers = (fin a0 ((List.range ops.size).map fun i => (D.getD i 0, a.tmps.getD (D.getD i 0) undef))).defers := by rw [hdf, fin_defers]
    generalize hb2 : fin a0 ((List.range ops.size).map fun i => (D.getD i 0, a.tmps.getD (D.getD i 0) undef)) = b at *
    clear hb2
    cases a
    cases b
    simp only at ht hd2
    rw [ht, hd2]
  have hdone := done w (vals D a) hg htr hJ
  unfold vals at hdone
  rw [← e] at hdone
  exact hdone
theorem ev {a : Act} {t : Nat} {v : Value} (h : a.tmps.getD t undef = v) : a.eval (.tmp t) = v ∧ a.tmps[t]?.getD undef = v := ⟨h, by rw [← Array.getD_eq_getD_getElem?]; exact h⟩
theorem fin_swap {P : Program} {c : Code} {Q : Exit → Act → World → Prop} {a : Act} {L L' : List (Nat × Value)} {w : World} (h : L = L') (hc : Code.wp P c Q (fin a L') w) : Code.wp P c Q (fin a L) w := by rw [h]; exact hc
end Go.Proofs.YtmelgankbegjaaaGreatDoor.Rv

set_option linter.unusedVariables false
set_option linter.unusedSimpArgs false
namespace Go.Proofs.YtmelgankbegjaaaGreatDoor.Rv
open Go Go.RowKit

/-- All but the block g is as it was. -/
def But (g : Nat) (W W' : World) : Prop := W.heap.size ≤ W'.heap.size ∧ ∀ k, k ≠ g → k < W.heap.size → W'.heap[k]? = W.heap[k]?
theorem lt_of_blk {W : World} {b : Nat} {o : Obj} (h : W.heap[b]? = some o) : b < W.heap.size := by
  rcases Nat.lt_or_ge b W.heap.size with h1 | h1
  · exact h1
  · rw [Array.getElem?_eq_none h1] at h; cases h
theorem But.blk {g b : Nat} {W W' : World} {o : Obj} (h : But g W W') (hb : W.heap[b]? = some o) (hne : b ≠ g) : W'.heap[b]? = some o := (h.2 b hne (lt_of_blk hb)).trans hb
theorem But.tr {g : Nat} {a b c : World} (h1 : But g a b) (h2 : But g b c) : But g a c := ⟨Nat.le_trans h1.1 h2.1, fun k hk hl => (h2.2 k hk (Nat.lt_of_lt_of_le hl h1.1)).trans (h1.2 k hk hl)⟩
theorem But.one (g : Nat) (w : World) (j : Nat) (u : Value) : But g w (w.setCell ⟨g, j, none⟩ u) :=
  ⟨((Below.refl 0 w).setCell (Nat.zero_le (⟨g, j, none⟩ : Addr).block) u).size, fun k hk _ => by rw [Below.heap_setCell _ _ _ _ (fun e => hk e)]⟩
theorem set_cell1 {w : World} {b : Nat} {cs : Array Value} {t : TypeId} (j : Nat) (u : Value) (h : w.heap[b]? = some (.cells cs t (0, 0))) : (w.setCell ⟨b, j, none⟩ u).heap[b]? = some (.cells (cs.setIfInBounds j u) t (0, 0)) := by
  have hlt := lt_of_blk h
  have h' : w.heap[b] = .cells cs t (0, 0) := by simpa [Array.getElem?_eq_getElem hlt] using h
  show (w.heap.modify b _)[b]? = _
  rw [Array.getElem?_eq_getElem (by simpa using hlt), Array.getElem_modify_self, h']
  rfl
theorem cells1 {w : World} {b : Nat} {v0 : Value} {t : TypeId} (h : w.heap[b]? = some (.cells #[v0] t (0, 0))) : w.cell? ⟨b, 0, none⟩ = some v0 := by
  simp [World.cell?, h]
theorem frozen1 {w : World} {b : Nat} {v0 : Value} {t : TypeId} (h : w.heap[b]? = some (.cells #[v0] t (0, 0))) : w.frozen? ⟨b, 0, none⟩ = false := by
  simp [World.frozen?, h]
theorem sets1 {w : World} {b : Nat} {v0 : Value} {t : TypeId} (h : w.heap[b]? = some (.cells #[v0] t (0, 0))) (u0 : Value) : (w.setCell ⟨b, 0, none⟩ u0).heap[b]? = some (.cells #[u0] t (0, 0)) := by
  exact set_cell1 0 u0 h
theorem buts1 (g : Nat) (w : World) (u0 : Value) : But g w (w.setCell ⟨g, 0, none⟩ u0) := But.one g w 0 u0
theorem belows1 {B g : Nat} {X w : World} (h : Below B X w) (hg : B ≤ g) (u0 : Value) : Below B X (w.setCell ⟨g, 0, none⟩ u0) := (h.setCell hg u0)
theorem cells2 {w : World} {b : Nat} {v0 v1 : Value} {t : TypeId} (h : w.heap[b]? = some (.cells #[v0, v1] t (0, 0))) : w.cell? ⟨b, 0, none⟩ = some v0 ∧ w.cell? ⟨b, 1, none⟩ = some v1 := by
  refine ⟨?_, ?_⟩ <;> simp [World.cell?, h]
theorem frozen2 {w : World} {b : Nat} {v0 v1 : Value} {t : TypeId} (h : w.heap[b]? = some (.cells #[v0, v1] t (0, 0))) : w.frozen? ⟨b, 0, none⟩ = false ∧ w.frozen? ⟨b, 1, none⟩ = false := by
  refine ⟨?_, ?_⟩ <;> simp [World.frozen?, h]
theorem sets2 {w : World} {b : Nat} {v0 v1 : Value} {t : TypeId} (h : w.heap[b]? = some (.cells #[v0, v1] t (0, 0))) (u0 u1 : Value) : ((w.setCell ⟨b, 0, none⟩ u0).setCell ⟨b, 1, none⟩ u1).heap[b]? = some (.cells #[u0, u1] t (0, 0)) := by
  exact set_cell1 1 u1 (set_cell1 0 u0 h)
theorem buts2 (g : Nat) (w : World) (u0 u1 : Value) : But g w ((w.setCell ⟨g, 0, none⟩ u0).setCell ⟨g, 1, none⟩ u1) := (But.one g w 0 u0).tr (But.one g _ 1 u1)
theorem belows2 {B g : Nat} {X w : World} (h : Below B X w) (hg : B ≤ g) (u0 u1 : Value) : Below B X ((w.setCell ⟨g, 0, none⟩ u0).setCell ⟨g, 1, none⟩ u1) := ((h.setCell hg u0).setCell hg u1)
theorem cells3 {w : World} {b : Nat} {v0 v1 v2 : Value} {t : TypeId} (h : w.heap[b]? = some (.cells #[v0, v1, v2] t (0, 0))) : w.cell? ⟨b, 0, none⟩ = some v0 ∧ w.cell? ⟨b, 1, none⟩ = some v1 ∧ w.cell? ⟨b, 2, none⟩ = some v2 := by
  refine ⟨?_, ?_, ?_⟩ <;> simp [World.cell?, h]
theorem frozen3 {w : World} {b : Nat} {v0 v1 v2 : Value} {t : TypeId} (h : w.heap[b]? = some (.cells #[v0, v1, v2] t (0, 0))) : w.frozen? ⟨b, 0, none⟩ = false ∧ w.frozen? ⟨b, 1, none⟩ = false ∧ w.frozen? ⟨b, 2, none⟩ = false := by
  refine ⟨?_, ?_, ?_⟩ <;> simp [World.frozen?, h]
theorem sets3 {w : World} {b : Nat} {v0 v1 v2 : Value} {t : TypeId} (h : w.heap[b]? = some (.cells #[v0, v1, v2] t (0, 0))) (u0 u1 u2 : Value) : (((w.setCell ⟨b, 0, none⟩ u0).setCell ⟨b, 1, none⟩ u1).setCell ⟨b, 2, none⟩ u2).heap[b]? = some (.cells #[u0, u1, u2] t (0, 0)) := by
  exact set_cell1 2 u2 (set_cell1 1 u1 (set_cell1 0 u0 h))
theorem buts3 (g : Nat) (w : World) (u0 u1 u2 : Value) : But g w (((w.setCell ⟨g, 0, none⟩ u0).setCell ⟨g, 1, none⟩ u1).setCell ⟨g, 2, none⟩ u2) := ((But.one g w 0 u0).tr (But.one g _ 1 u1)).tr (But.one g _ 2 u2)
theorem belows3 {B g : Nat} {X w : World} (h : Below B X w) (hg : B ≤ g) (u0 u1 u2 : Value) : Below B X (((w.setCell ⟨g, 0, none⟩ u0).setCell ⟨g, 1, none⟩ u1).setCell ⟨g, 2, none⟩ u2) := (((h.setCell hg u0).setCell hg u1).setCell hg u2)
theorem cells4 {w : World} {b : Nat} {v0 v1 v2 v3 : Value} {t : TypeId} (h : w.heap[b]? = some (.cells #[v0, v1, v2, v3] t (0, 0))) : w.cell? ⟨b, 0, none⟩ = some v0 ∧ w.cell? ⟨b, 1, none⟩ = some v1 ∧ w.cell? ⟨b, 2, none⟩ = some v2 ∧ w.cell? ⟨b, 3, none⟩ = some v3 := by
  refine ⟨?_, ?_, ?_, ?_⟩ <;> simp [World.cell?, h]
theorem frozen4 {w : World} {b : Nat} {v0 v1 v2 v3 : Value} {t : TypeId} (h : w.heap[b]? = some (.cells #[v0, v1, v2, v3] t (0, 0))) : w.frozen? ⟨b, 0, none⟩ = false ∧ w.frozen? ⟨b, 1, none⟩ = false ∧ w.frozen? ⟨b, 2, none⟩ = false ∧ w.frozen? ⟨b, 3, none⟩ = false := by
  refine ⟨?_, ?_, ?_, ?_⟩ <;> simp [World.frozen?, h]
theorem sets4 {w : World} {b : Nat} {v0 v1 v2 v3 : Value} {t : TypeId} (h : w.heap[b]? = some (.cells #[v0, v1, v2, v3] t (0, 0))) (u0 u1 u2 u3 : Value) : ((((w.setCell ⟨b, 0, none⟩ u0).setCell ⟨b, 1, none⟩ u1).setCell ⟨b, 2, none⟩ u2).setCell ⟨b, 3, none⟩ u3).heap[b]? = some (.cells #[u0, u1, u2, u3] t (0, 0)) := by
  exact set_cell1 3 u3 (set_cell1 2 u2 (set_cell1 1 u1 (set_cell1 0 u0 h)))
theorem buts4 (g : Nat) (w : World) (u0 u1 u2 u3 : Value) : But g w ((((w.setCell ⟨g, 0, none⟩ u0).setCell ⟨g, 1, none⟩ u1).setCell ⟨g, 2, none⟩ u2).setCell ⟨g, 3, none⟩ u3) := (((But.one g w 0 u0).tr (But.one g _ 1 u1)).tr (But.one g _ 2 u2)).tr (But.one g _ 3 u3)
theorem belows4 {B g : Nat} {X w : World} (h : Below B X w) (hg : B ≤ g) (u0 u1 u2 u3 : Value) : Below B X ((((w.setCell ⟨g, 0, none⟩ u0).setCell ⟨g, 1, none⟩ u1).setCell ⟨g, 2, none⟩ u2).setCell ⟨g, 3, none⟩ u3) := ((((h.setCell hg u0).setCell hg u1).setCell hg u2).setCell hg u3)
theorem cells5 {w : World} {b : Nat} {v0 v1 v2 v3 v4 : Value} {t : TypeId} (h : w.heap[b]? = some (.cells #[v0, v1, v2, v3, v4] t (0, 0))) : w.cell? ⟨b, 0, none⟩ = some v0 ∧ w.cell? ⟨b, 1, none⟩ = some v1 ∧ w.cell? ⟨b, 2, none⟩ = some v2 ∧ w.cell? ⟨b, 3, none⟩ = some v3 ∧ w.cell? ⟨b, 4, none⟩ = some v4 := by
  refine ⟨?_, ?_, ?_, ?_, ?_⟩ <;> simp [World.cell?, h]
theorem frozen5 {w : World} {b : Nat} {v0 v1 v2 v3 v4 : Value} {t : TypeId} (h : w.heap[b]? = some (.cells #[v0, v1, v2, v3, v4] t (0, 0))) : w.frozen? ⟨b, 0, none⟩ = false ∧ w.frozen? ⟨b, 1, none⟩ = false ∧ w.frozen? ⟨b, 2, none⟩ = false ∧ w.frozen? ⟨b, 3, none⟩ = false ∧ w.frozen? ⟨b, 4, none⟩ = false := by
  refine ⟨?_, ?_, ?_, ?_, ?_⟩ <;> simp [World.frozen?, h]
theorem sets5 {w : World} {b : Nat} {v0 v1 v2 v3 v4 : Value} {t : TypeId} (h : w.heap[b]? = some (.cells #[v0, v1, v2, v3, v4] t (0, 0))) (u0 u1 u2 u3 u4 : Value) : (((((w.setCell ⟨b, 0, none⟩ u0).setCell ⟨b, 1, none⟩ u1).setCell ⟨b, 2, none⟩ u2).setCell ⟨b, 3, none⟩ u3).setCell ⟨b, 4, none⟩ u4).heap[b]? = some (.cells #[u0, u1, u2, u3, u4] t (0, 0)) := by
  exact set_cell1 4 u4 (set_cell1 3 u3 (set_cell1 2 u2 (set_cell1 1 u1 (set_cell1 0 u0 h))))
theorem buts5 (g : Nat) (w : World) (u0 u1 u2 u3 u4 : Value) : But g w (((((w.setCell ⟨g, 0, none⟩ u0).setCell ⟨g, 1, none⟩ u1).setCell ⟨g, 2, none⟩ u2).setCell ⟨g, 3, none⟩ u3).setCell ⟨g, 4, none⟩ u4) := ((((But.one g w 0 u0).tr (But.one g _ 1 u1)).tr (But.one g _ 2 u2)).tr (But.one g _ 3 u3)).tr (But.one g _ 4 u4)
theorem belows5 {B g : Nat} {X w : World} (h : Below B X w) (hg : B ≤ g) (u0 u1 u2 u3 u4 : Value) : Below B X (((((w.setCell ⟨g, 0, none⟩ u0).setCell ⟨g, 1, none⟩ u1).setCell ⟨g, 2, none⟩ u2).setCell ⟨g, 3, none⟩ u3).setCell ⟨g, 4, none⟩ u4) := (((((h.setCell hg u0).setCell hg u1).setCell hg u2).setCell hg u3).setCell hg u4)
theorem cells6 {w : World} {b : Nat} {v0 v1 v2 v3 v4 v5 : Value} {t : TypeId} (h : w.heap[b]? = some (.cells #[v0, v1, v2, v3, v4, v5] t (0, 0))) : w.cell? ⟨b, 0, none⟩ = some v0 ∧ w.cell? ⟨b, 1, none⟩ = some v1 ∧ w.cell? ⟨b, 2, none⟩ = some v2 ∧ w.cell? ⟨b, 3, none⟩ = some v3 ∧ w.cell? ⟨b, 4, none⟩ = some v4 ∧ w.cell? ⟨b, 5, none⟩ = some v5 := by
  refine ⟨?_, ?_, ?_, ?_, ?_, ?_⟩ <;> simp [World.cell?, h]
theorem frozen6 {w : World} {b : Nat} {v0 v1 v2 v3 v4 v5 : Value} {t : TypeId} (h : w.heap[b]? = some (.cells #[v0, v1, v2, v3, v4, v5] t (0, 0))) : w.frozen? ⟨b, 0, none⟩ = false ∧ w.frozen? ⟨b, 1, none⟩ = false ∧ w.frozen? ⟨b, 2, none⟩ = false ∧ w.frozen? ⟨b, 3, none⟩ = false ∧ w.frozen? ⟨b, 4, none⟩ = false ∧ w.frozen? ⟨b, 5, none⟩ = false := by
  refine ⟨?_, ?_, ?_, ?_, ?_, ?_⟩ <;> simp [World.frozen?, h]
theorem sets6 {w : World} {b : Nat} {v0 v1 v2 v3 v4 v5 : Value} {t : TypeId} (h : w.heap[b]? = some (.cells #[v0, v1, v2, v3, v4, v5] t (0, 0))) (u0 u1 u2 u3 u4 u5 : Value) : ((((((w.setCell ⟨b, 0, none⟩ u0).setCell ⟨b, 1, none⟩ u1).setCell ⟨b, 2, none⟩ u2).setCell ⟨b, 3, none⟩ u3).setCell ⟨b, 4, none⟩ u4).setCell ⟨b, 5, none⟩ u5).heap[b]? = some (.cells #[u0, u1, u2, u3, u4, u5] t (0, 0)) := by
  exact set_cell1 5 u5 (set_cell1 4 u4 (set_cell1 3 u3 (set_cell1 2 u2 (set_cell1 1 u1 (set_cell1 0 u0 h)))))
theorem buts6 (g : Nat) (w : World) (u0 u1 u2 u3 u4 u5 : Value) : But g w ((((((w.setCell ⟨g, 0, none⟩ u0).setCell ⟨g, 1, none⟩ u1).setCell ⟨g, 2, none⟩ u2).setCell ⟨g, 3, none⟩ u3).setCell ⟨g, 4, none⟩ u4).setCell ⟨g, 5, none⟩ u5) := (((((But.one g w 0 u0).tr (But.one g _ 1 u1)).tr (But.one g _ 2 u2)).tr (But.one g _ 3 u3)).tr (But.one g _ 4 u4)).tr (But.one g _ 5 u5)
theorem belows6 {B g : Nat} {X w : World} (h : Below B X w) (hg : B ≤ g) (u0 u1 u2 u3 u4 u5 : Value) : Below B X ((((((w.setCell ⟨g, 0, none⟩ u0).setCell ⟨g, 1, none⟩ u1).setCell ⟨g, 2, none⟩ u2).setCell ⟨g, 3, none⟩ u3).setCell ⟨g, 4, none⟩ u4).setCell ⟨g, 5, none⟩ u5) := ((((((h.setCell hg u0).setCell hg u1).setCell hg u2).setCell hg u3).setCell hg u4).setCell hg u5)
theorem allrun {ops : Array Oper} {G : Array (Option Bool)} (h0 : (ops.all fun o => o.guard.isNone) = true) (i : Nat) (h : i < ops.size) : ¬ runs G ops[i] = false := by
  have h1 := Array.all_eq_true.1 h0 i h
  unfold runs
  rw [Option.isNone_iff_eq_none.1 h1]
  exact fun e => Bool.noConfusion e
/-- A variable of the operation p, once it is made, has a place of its own. -/
def One (p B : Nat) (L : Nat → Bool) (f : Nat → Value) (W : World) : Prop := L p = true → ∃ g, f p = .pointer (some ⟨g, 0, none⟩) ∧ B ≤ g ∧ g < W.heap.size
theorem One.loc {p B n : Nat} (hn : p < n) (L L' : Nat → Bool) (f f' : Nat → Value) (w : World) (h1 : ∀ k, k < n → L k = L' k) (h2 : ∀ k, k < n → f k = f' k) (h : One p B L f w) : One p B L' f' w := by
  unfold One at *
  rw [← h1 p hn, ← h2 p hn]
  exact h
theorem One.keep {p B i : Nat} (hp : i ≠ p) {L : Nat → Bool} {f : Nat → Value} {W W' : World} (v : Value) (hs : W.heap.size ≤ W'.heap.size) (h : One p B L f W) : One p B (put L i) (upd f i v) W' := by
  unfold One put upd at *
  rw [if_neg (Ne.symm hp), if_neg (Ne.symm hp)]
  intro hl
  obtain ⟨g, a, b, c⟩ := h hl
  exact ⟨g, a, b, Nat.lt_of_lt_of_le c hs⟩
theorem One.new {p B : Nat} {L : Nat → Bool} {f : Nat → Value} {W W' : World} (hB : B ≤ W.heap.size) (hs : W'.heap.size = W.heap.size + 1) (h : One p B L f W) : One p B (put L p) (upd f p (.pointer (some ⟨W.heap.size, 0, none⟩))) W' := by
  unfold One put upd
  simp only [if_true]
  exact fun _ => ⟨_, rfl, hB, by omega⟩
theorem One.start {p B : Nat} {f : Nat → Value} {W : World} : One p B (fun _ => false) f W := fun h => by cases h
/-- Two variables, once they are made, have places of their own. -/
def Two (p q B : Nat) (L : Nat → Bool) (f : Nat → Value) (W : World) : Prop :=
  (L p = true → ∃ g, f p = .pointer (some ⟨g, 0, none⟩) ∧ B ≤ g ∧ g < W.heap.size) ∧ (L q = true → ∃ g, f q = .pointer (some ⟨g, 0, none⟩) ∧ B ≤ g ∧ g < W.heap.size) ∧ (L p = true → L q = true → f p ≠ f q)
theorem Two.loc {p q B n : Nat} (hp : p < n) (hq : q < n) (L L' : Nat → Bool) (f f' : Nat → Value) (w : World) (h1 : ∀ k, k < n → L k = L' k) (h2 : ∀ k, k < n → f k = f' k) (h : Two p q B L f w) : Two p q B L' f' w := by
  unfold Two at *
  rw [← h1 p hp, ← h1 q hq, ← h2 p hp, ← h2 q hq]
  exact h
theorem Two.keep {p q B i : Nat} (hp : i ≠ p) (hq : i ≠ q) {L : Nat → Bool} {f : Nat → Value} {W W' : World} (v : Value) (hs : W.heap.size ≤ W'.heap.size) (h : Two p q B L f W) : Two p q B (put L i) (upd f i v) W' := by
  unfold Two put upd at *
  rw [if_neg (Ne.symm hp), if_neg (Ne.symm hq), if_neg (Ne.symm hp), if_neg (Ne.symm hq)]
  refine ⟨fun hl => ?_, fun hl => ?_, h.2.2⟩
  · obtain ⟨g, a, b, c⟩ := h.1 hl
    exact ⟨g, a, b, Nat.lt_of_lt_of_le c hs⟩
  · obtain ⟨g, a, b, c⟩ := h.2.1 hl
    exact ⟨g, a, b, Nat.lt_of_lt_of_le c hs⟩
theorem Two.fst {p q B : Nat} (hpq : p ≠ q) {L : Nat → Bool} {f : Nat → Value} {W W' : World} (hB : B ≤ W.heap.size) (hs : W'.heap.size = W.heap.size + 1) (h : Two p q B L f W) : Two p q B (put L p) (upd f p (.pointer (some ⟨W.heap.size, 0, none⟩))) W' := by
  unfold Two put upd at *
  simp only [if_true, Ne.symm hpq, if_false]
  refine ⟨fun _ => ⟨_, rfl, hB, by omega⟩, fun hl => ?_, fun _ hl e => ?_⟩
  · obtain ⟨g, a, b, c⟩ := h.2.1 hl
    exact ⟨g, a, b, by omega⟩
  · obtain ⟨g, a, b, c⟩ := h.2.1 hl
    rw [a] at e
    injection e with e
    injection e with e
    injection e with e
    omega
theorem Two.snd {p q B : Nat} (hpq : p ≠ q) {L : Nat → Bool} {f : Nat → Value} {W W' : World} (hB : B ≤ W.heap.size) (hs : W'.heap.size = W.heap.size + 1) (h : Two p q B L f W) : Two p q B (put L q) (upd f q (.pointer (some ⟨W.heap.size, 0, none⟩))) W' := by
  unfold Two put upd at *
  simp only [if_true, hpq, if_false]
  refine ⟨fun hl => ?_, fun _ => ⟨_, rfl, hB, by omega⟩, fun hl _ e => ?_⟩
  · obtain ⟨g, a, b, c⟩ := h.1 hl
    exact ⟨g, a, b, by omega⟩
  · obtain ⟨g, a, b, c⟩ := h.1 hl
    rw [a] at e
    injection e with e
    injection e with e
    injection e with e
    omega
theorem Two.start {p q B : Nat} {f : Nat → Value} {W : World} : Two p q B (fun _ => false) f W := ⟨fun h => (by cases h), fun h => (by cases h), fun h => (by cases h)⟩
end Go.Proofs.YtmelgankbegjaaaGreatDoor.Rv

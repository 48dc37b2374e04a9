/- RemoveOverlap in plain words: what two ranges become has the same places, and no place twice. Conditions: those written at each lemma. -/
import Derived.Test.YtfnogpelaoofbaaGreatDoorRug
set_option linter.unusedVariables false
set_option linter.unusedSimpArgs false
namespace Go.Proofs.YtfnogpelaoofbaaGreatDoor.Rg
open Go.RowKit Go.Proofs.YtfnogpelaoofbaaGreatDoor.B Go.Proofs.YtfnogpelaoofbaaGreatDoor.Sp

abbrev z0 : Cl := ⟨0, 0, 0, 0⟩
abbrev gt (l : List Cl) (i : Nat) : Cl := l.getD i z0
abbrev ga (l : List Int) (i : Nat) : Int := l.getD i 0
theorem gt_at {l : List Cl} {i : Nat} (h : i < l.length) : gt l i = l[i] := by
  unfold gt; rw [List.getD_eq_getElem?_getD, List.getElem?_eq_getElem h]; rfl
theorem gt_mem {l : List Cl} {i : Nat} (h : i < l.length) : gt l i ∈ l := by rw [gt_at h]; exact List.getElem_mem h
theorem gt_set_self {l : List Cl} {i : Nat} (x : Cl) (h : i < l.length) : gt (l.set i x) i = x := by
  unfold gt; rw [List.getD_eq_getElem?_getD, List.getElem?_set_self h]; rfl
theorem gt_set_ne {l : List Cl} {i j : Nat} (x : Cl) (h : j ≠ i) : gt (l.set i x) j = gt l j := by
  unfold gt; rw [List.getD_eq_getElem?_getD, List.getElem?_set_ne (fun e => h e.symm), List.getD_eq_getElem?_getD]
abbrev Eq1 (a b : Cl) : Prop := a.lo = b.lo ∧ a.hi = b.hi
abbrev Sb1 (a b : Cl) : Prop := b.lo ≤ a.lo ∧ a.hi ≤ b.hi
abbrev Ov1 (a b : Cl) : Prop := a.lo < b.hi ∧ b.lo < a.hi
abbrev Cn1 (a b : Cl) : Prop := a.lo ≤ b.hi ∧ b.lo ≤ a.hi
abbrev Inn (c : Cl) (t : Int) : Prop := c.lo ≤ t ∧ t < c.hi
def Sbs (p q : List Cl) : Prop := ∀ j, j < p.length → Sb1 (gt p j) (gt q j)
def Ovs (p q : List Cl) : Prop := ∀ j, j < p.length → Ov1 (gt p j) (gt q j)
/-- They differ in one column alone. -/
def One (p q : List Cl) (i : Nat) : Prop := i < p.length ∧ ¬ Eq1 (gt p i) (gt q i) ∧ ∀ j, j < p.length → j ≠ i → Eq1 (gt p j) (gt q j)
/-- What TryMerge makes of two ranges. -/
inductive Mg (p q : List Cl) : List Cl → Prop
  | l (h : Sbs q p) : Mg p q p
  | r (h : Sbs p q) : Mg p q q
  | u (i : Nat) (h : One p q i) (h2 : Cn1 (gt p i) (gt q i)) : Mg p q (p.set i (jn (gt p i) (gt q i)))
def Mrg (p q : List Cl) : Prop := Sbs p q ∨ Sbs q p ∨ ∃ i, One p q i ∧ Cn1 (gt p i) (gt q i)
theorem Mg.mrg {p q m : List Cl} (h : Mg p q m) : Mrg p q := by
  cases h with
  | l h => exact .inr (.inl h)
  | r h => exact .inl h
  | u i h h2 => exact .inr (.inr ⟨i, h, h2⟩)
/-- What RemoveOverlap makes of two ranges. -/
inductive RO : List Cl → List Cl → List (List Cl) → Bool → Prop
  | mrg {p q m : List Cl} (h : Mg p q m) : RO p q [m] true
  | no {p q : List Cl} (h : ¬ Mrg p q) (h2 : ¬ Ovs p q) : RO p q [p, q] false
  | cut {p q : List Cl} {L : List (List Cl)} {b : Bool} (i : Nat) (h : ¬ Mrg p q) (h2 : Ovs p q) (hi : i < p.length) (hf : ∀ j, j < i → Eq1 (gt p j) (gt q j)) (hn : ¬ Eq1 (gt p i) (gt q i))
      (hr : RO (p.set i (mtc (gt p i) (gt q i))) (q.set i (mtc (gt p i) (gt q i))) L b) :
      RO p q (((sub (gt p i) (mtc (gt p i) (gt q i))).map fun x => p.set i x) ++ ((sub (gt q i) (mtc (gt p i) (gt q i))).map fun x => q.set i x) ++ L) true

/-- A place lies in a range. -/
def In (l : List Cl) (a : List Int) : Prop := l.length = a.length ∧ ∀ j, j < l.length → Inn (gt l j) (ga a j)
theorem in_at {p : List Cl} {a : List Int} (i : Nat) (hi : i < p.length) : In p a ↔ p.length = a.length ∧ (∀ j, j < p.length → j ≠ i → Inn (gt p j) (ga a j)) ∧ Inn (gt p i) (ga a i) := by
  constructor
  · rintro ⟨h1, h2⟩
    exact ⟨h1, fun j hj _ => h2 j hj, h2 i hi⟩
  · rintro ⟨h1, h2, h3⟩
    refine ⟨h1, fun j hj => ?_⟩
    by_cases e : j = i
    · subst e; exact h3
    · exact h2 j hj e
theorem in_set {p : List Cl} {a : List Int} {x : Cl} (i : Nat) (hi : i < p.length) : In (p.set i x) a ↔ p.length = a.length ∧ (∀ j, j < p.length → j ≠ i → Inn (gt p j) (ga a j)) ∧ Inn x (ga a i) := by
  rw [in_at i (by rw [List.length_set]; exact hi), List.length_set, gt_set_self x hi]
  constructor
  · rintro ⟨h1, h2, h3⟩
    exact ⟨h1, fun j hj hn => (by have h := h2 j hj hn; rwa [gt_set_ne x hn] at h), h3⟩
  · rintro ⟨h1, h2, h3⟩
    exact ⟨h1, fun j hj hn => (by rw [gt_set_ne x hn]; exact h2 j hj hn), h3⟩
theorem jn_lo (a b : Cl) : (jn a b).lo = if a.lo ≤ b.lo then a.lo else b.lo := by
  show plc _ _ = _
  unfold jn
  by_cases h : a.lo ≤ b.lo
  · simp only [if_pos h]
  · simp only [if_neg h]
theorem jn_hi (a b : Cl) : (jn a b).hi = if a.hi ≤ b.hi then b.hi else a.hi := by
  show plc _ _ = _
  unfold jn
  by_cases h : a.hi ≤ b.hi
  · simp only [if_pos h]
  · simp only [if_neg h]
theorem jn_ful {a b : Cl} (pa : Ful a) (pb : Ful b) : Ful (jn a b) := by
  have h1 := pa.2.2
  have h2 := pb.2.2
  refine ⟨?_, ?_, ?_⟩
  · unfold jn
    by_cases h : a.lo ≤ b.lo
    · simp only [if_pos h]; exact pa.1
    · simp only [if_neg h]; exact pb.1
  · unfold jn
    by_cases h : a.hi ≤ b.hi
    · simp only [if_pos h]; exact pb.2.1
    · simp only [if_neg h]; exact pa.2.1
  · rw [jn_lo, jn_hi]
    split <;> split <;> omega
theorem jn_in {a b : Cl} (pa : Ful a) (pb : Ful b) (hc : Cn1 a b) (t : Int) : Inn (jn a b) t ↔ Inn a t ∨ Inn b t := by
  have h1 := pa.2.2
  have h2 := pb.2.2
  unfold Inn
  rw [jn_lo, jn_hi]
  split <;> split <;> omega
theorem mtc_in (a b : Cl) (t : Int) : Inn (mtc a b) t ↔ Inn a t ∧ Inn b t := by
  unfold Inn
  rw [mtc_lo, mtc_hi]
  split <;> split <;> omega
theorem mtc_ful {a b : Cl} (pa : Ful a) (pb : Ful b) (h : Ov1 a b) : Ful (mtc a b) := by
  have h1 := pa.2.2
  have h2 := pb.2.2
  refine ⟨(mtc_pos ⟨pa.1, pa.2.1⟩ ⟨pb.1, pb.2.1⟩).1, (mtc_pos ⟨pa.1, pa.2.1⟩ ⟨pb.1, pb.2.1⟩).2, ?_⟩
  rw [mtc_lo, mtc_hi]
  split <;> split <;> omega
theorem inB_iff (c : Cl) (t : Int) : inB c t = true ↔ Inn c t := by unfold inB; rw [Bool.and_eq_true, decide_eq_true_iff, decide_eq_true_iff]
theorem sub_in {a b : Cl} (pa : Ful a) (pb : Ful b) (t : Int) : (∃ x ∈ sub a b, Inn x t) ↔ Inn a t ∧ ¬ Inn b t := by
  have h := sub_has pa pb t
  rw [has_one, Bool.eq_iff_iff, List.any_eq_true, Bool.and_eq_true, Bool.not_eq_true', ← Bool.not_eq_true, inB_iff, inB_iff] at h
  rw [← h]
  exact ⟨fun ⟨x, h1, h2⟩ => ⟨x, h1, (inB_iff _ _).2 h2⟩, fun ⟨x, h1, h2⟩ => ⟨x, h1, (inB_iff _ _).1 h2⟩⟩
theorem sub_fuls {a b : Cl} (pa : Ful a) (pb : Ful b) : ∀ c ∈ sub a b, Ful c := fun c hc =>
  have h := sub_pcl (a := a) (b := b) ⟨pa.1, pa.2.1⟩ ⟨pb.1, pb.2.1⟩ c hc
  ⟨h.1, h.2, sub_ful pa c hc⟩
theorem sub_pair {a b : Cl} (pb : Ful b) : (sub a b).Pairwise fun x y => x.hi ≤ y.lo := by
  have h2 := pb.2.2
  unfold sub
  split
  · rw [List.pairwise_append]
    refine ⟨?_, ?_, ?_⟩
    · split <;> simp
    · split <;> simp
    · intro x hx y hy
      split at hx
      · split at hy
        · rw [List.mem_singleton.1 hx, List.mem_singleton.1 hy]
          show b.lo ≤ b.hi
          omega
        · cases hy
      · cases hx
  · simp

/-! ### what comes of it -/
/-- Two ranges of so many columns that have values. -/
abbrev Two (p q : List Cl) (n : Nat) : Prop := p.length = n ∧ q.length = n ∧ (∀ c ∈ p, Ful c) ∧ ∀ c ∈ q, Ful c
theorem set_ful {p : List Cl} {i : Nat} {x : Cl} (h : ∀ c ∈ p, Ful c) (hx : Ful x) : ∀ c ∈ p.set i x, Ful c := by
  intro c hc
  rcases List.mem_or_eq_of_mem_set hc with h1 | rfl
  · exact h c h1
  · exact hx
theorem Two.cut {p q : List Cl} {n : Nat} (h : Two p q n) (h2 : Ovs p q) {i : Nat} (hi : i < p.length) : Two (p.set i (mtc (gt p i) (gt q i))) (q.set i (mtc (gt p i) (gt q i))) n := by
  obtain ⟨h1, h3, hp, hq⟩ := h
  have hm : Ful (mtc (gt p i) (gt q i)) := mtc_ful (hp _ (gt_mem hi)) (hq _ (gt_mem (by omega))) (h2 i hi)
  exact ⟨by rw [List.length_set]; exact h1, by rw [List.length_set]; exact h3, set_ful hp hm, set_ful hq hm⟩
theorem mg_ful {p q m : List Cl} {n : Nat} (h : Two p q n) (hm : Mg p q m) : m.length = n ∧ ∀ c ∈ m, Ful c := by
  obtain ⟨h1, h3, hp, hq⟩ := h
  cases hm with
  | l _ => exact ⟨h1, hp⟩
  | r _ => exact ⟨h3, hq⟩
  | u i h4 _ => exact ⟨by rw [List.length_set]; exact h1, set_ful hp (jn_ful (hp _ (gt_mem h4.1)) (hq _ (gt_mem (by have := h4.1; omega))))⟩
theorem ro_ful {p q : List Cl} {L : List (List Cl)} {b : Bool} {n : Nat} (hr : RO p q L b) : Two p q n → ∀ m ∈ L, m.length = n ∧ ∀ c ∈ m, Ful c := by
  induction hr with
  | mrg h =>
    intro ht m hm
    rw [List.mem_singleton.1 hm]
    exact mg_ful ht h
  | no _ _ =>
    intro ht m hm
    obtain ⟨h1, h3, hp, hq⟩ := ht
    rcases List.mem_cons.1 hm with rfl | hm
    · exact ⟨h1, hp⟩
    · rw [List.mem_singleton.1 hm]; exact ⟨h3, hq⟩
  | @cut p q L b i _ h2 hi _ _ _ ih =>
    intro ht m hm
    have hc := ht.cut h2 hi
    obtain ⟨h1, h3, hp, hq⟩ := ht
    have fp := hp _ (gt_mem hi)
    have fq := hq _ (gt_mem (l := q) (i := i) (by omega))
    have hm' := mtc_ful fp fq (h2 i hi)
    rcases List.mem_append.1 hm with hm | hm
    · rcases List.mem_append.1 hm with hm | hm
      · obtain ⟨x, hx, rfl⟩ := List.mem_map.1 hm
        exact ⟨by rw [List.length_set]; exact h1, set_ful hp (sub_fuls fp hm' x hx)⟩
      · obtain ⟨x, hx, rfl⟩ := List.mem_map.1 hm
        exact ⟨by rw [List.length_set]; exact h3, set_ful hq (sub_fuls fq hm' x hx)⟩
    · exact ih hc m hm
theorem mg_in {p q m : List Cl} {n : Nat} (h : Two p q n) (hm : Mg p q m) (a : List Int) : In m a ↔ In p a ∨ In q a := by
  obtain ⟨h1, h3, hp, hq⟩ := h
  have sb : ∀ {x y : List Cl}, x.length = n → y.length = n → Sbs x y → In x a → In y a := fun hx hy hs ⟨e, hi⟩ =>
    ⟨by omega, fun j hj => by have k1 := hs j (by omega); have k2 := hi j (by omega); unfold Inn at *; omega⟩
  cases hm with
  | l h => exact ⟨.inl, fun h' => h'.elim id (sb h3 h1 h)⟩
  | r h => exact ⟨.inr, fun h' => h'.elim (sb h1 h3 h) id⟩
  | u i h4 h5 =>
    obtain ⟨hi, _, ho⟩ := h4
    have hiq : i < q.length := by omega
    rw [in_set i hi, in_at i hi, in_at i hiq, jn_in (hp _ (gt_mem hi)) (hq _ (gt_mem hiq)) h5]
    have e : (∀ j, j < p.length → j ≠ i → Inn (gt p j) (ga a j)) ↔ (∀ j, j < q.length → j ≠ i → Inn (gt q j) (ga a j)) := by
      constructor
      · intro h j hj hn
        have k1 := ho j (by omega) hn
        have k2 := h j (by omega) hn
        unfold Inn at *; omega
      · intro h j hj hn
        have k1 := ho j hj hn
        have k2 := h j (by omega) hn
        unfold Inn at *; omega
    rw [← e, h1, h3]
    constructor
    · rintro ⟨a1, a2, a3 | a3⟩
      · exact .inl ⟨a1, a2, a3⟩
      · exact .inr ⟨a1, a2, a3⟩
    · rintro (⟨a1, a2, a3⟩ | ⟨a1, a2, a3⟩)
      · exact ⟨a1, a2, .inl a3⟩
      · exact ⟨a1, a2, .inr a3⟩
/-- One of some ranges has a place. -/
def Has (L : List (List Cl)) (a : List Int) : Prop := ∃ m ∈ L, In m a
theorem has_app (L M : List (List Cl)) (a : List Int) : Has (L ++ M) a ↔ Has L a ∨ Has M a := by
  constructor
  · rintro ⟨m, hm, h⟩
    exact (List.mem_append.1 hm).elim (fun k => .inl ⟨m, k, h⟩) (fun k => .inr ⟨m, k, h⟩)
  · rintro (⟨m, hm, h⟩ | ⟨m, hm, h⟩)
    · exact ⟨m, List.mem_append_left _ hm, h⟩
    · exact ⟨m, List.mem_append_right _ hm, h⟩
theorem has_part {p : List Cl} {i : Nat} (hi : i < p.length) {o : Cl} (fp : Ful (gt p i)) (fo : Ful o) (a : List Int) : Has ((sub (gt p i) o).map fun x => p.set i x) a ↔ In p a ∧ ¬ Inn o (ga a i) := by
  rw [in_at i hi]
  constructor
  · rintro ⟨m, hm, h⟩
    obtain ⟨x, hx, rfl⟩ := List.mem_map.1 hm
    rw [in_set i hi] at h
    obtain ⟨k1, k2, k3⟩ := h
    obtain ⟨k4, k5⟩ := (sub_in fp fo (ga a i)).1 ⟨x, hx, k3⟩
    exact ⟨⟨k1, k2, k4⟩, k5⟩
  · rintro ⟨⟨k1, k2, k4⟩, k5⟩
    obtain ⟨x, hx, k3⟩ := (sub_in fp fo (ga a i)).2 ⟨k4, k5⟩
    exact ⟨_, List.mem_map.2 ⟨x, hx, rfl⟩, (in_set i hi).2 ⟨k1, k2, k3⟩⟩
theorem ro_in {p q : List Cl} {L : List (List Cl)} {b : Bool} {n : Nat} (hr : RO p q L b) : Two p q n → ∀ a, Has L a ↔ In p a ∨ In q a := by
  induction hr with
  | mrg h =>
    intro ht a
    rw [← mg_in ht h]
    exact ⟨fun ⟨m, hm, h⟩ => by rwa [List.mem_singleton.1 hm] at h, fun h => ⟨_, List.mem_singleton.2 rfl, h⟩⟩
  | no _ _ =>
    intro ht a
    constructor
    · rintro ⟨m, hm, h⟩
      rcases List.mem_cons.1 hm with rfl | hm
      · exact .inl h
      · rw [List.mem_singleton.1 hm] at h; exact .inr h
    · rintro (h | h)
      · exact ⟨_, .head _, h⟩
      · exact ⟨_, .tail _ (.head _), h⟩
  | @cut p q L b i _ h2 hi _ _ _ ih =>
    intro ht a
    have hc := ih (ht.cut h2 hi) a
    obtain ⟨h1, h3, hp, hq⟩ := ht
    have hiq : i < q.length := by omega
    have fp := hp _ (gt_mem hi)
    have fq := hq _ (gt_mem hiq)
    have fo := mtc_ful fp fq (h2 i hi)
    rw [has_app, has_app, has_part hi fp fo, has_part hiq fq fo, hc, in_set i hi, in_set i hiq, mtc_in]
    rw [in_at i hi, in_at i hiq]
    constructor
    · rintro ((⟨k, _⟩ | ⟨k, _⟩) | (⟨k1, k2, k3, k4⟩ | ⟨k1, k2, k3, k4⟩))
      · exact .inl k
      · exact .inr k
      · exact .inl ⟨k1, k2, k3⟩
      · exact .inr ⟨k1, k2, k4⟩
    · rintro (⟨k1, k2, k3⟩ | ⟨k1, k2, k3⟩)
      · by_cases k4 : Inn (gt q i) (ga a i)
        · exact .inr (.inl ⟨k1, k2, k3, k4⟩)
        · exact .inl (.inl ⟨⟨k1, k2, k3⟩, fun h => k4 h.2⟩)
      · by_cases k4 : Inn (gt p i) (ga a i)
        · exact .inr (.inr ⟨k1, k2, k4, k3⟩)
        · exact .inl (.inr ⟨⟨k1, k2, k3⟩, fun h => k4 h.1⟩)
/-- They have no place in common. -/
def Dj (l m : List Cl) : Prop := ∀ a, ¬ (In l a ∧ In m a)
theorem part_dj {p : List Cl} {i : Nat} (hi : i < p.length) {o : Cl} (fo : Ful o) : ((sub (gt p i) o).map fun x => p.set i x).Pairwise Dj := by
  rw [List.pairwise_map]
  refine (sub_pair (a := gt p i) fo).imp ?_
  intro x y hxy a ⟨k1, k2⟩
  rw [in_set i hi] at k1 k2
  have e1 := k1.2.2
  have e2 := k2.2.2
  unfold Inn at e1 e2
  omega
theorem ro_dj {p q : List Cl} {L : List (List Cl)} {b : Bool} {n : Nat} (hr : RO p q L b) : Two p q n → L.Pairwise Dj := by
  induction hr with
  | mrg h => intro _; simp
  | no _ h2 =>
    rename_i p q _
    intro ht
    obtain ⟨h1, h3, hp, hq⟩ := ht
    refine List.pairwise_cons.2 ⟨fun m hm => ?_, by simp⟩
    rw [List.mem_singleton.1 hm]
    intro a ⟨k1, k2⟩
    refine h2 fun j hj => ?_
    have e1 := k1.2 j hj
    have e2 := k2.2 j (by omega)
    unfold Inn at e1 e2
    exact ⟨by omega, by omega⟩
  | @cut p q L b i _ h2 hi _ _ hr ih =>
    intro ht
    have hc := ih (ht.cut h2 hi)
    have hin := ro_in hr (ht.cut h2 hi)
    obtain ⟨h1, h3, hp, hq⟩ := ht
    have hiq : i < q.length := by omega
    have fp := hp _ (gt_mem hi)
    have fq := hq _ (gt_mem hiq)
    have fo := mtc_ful fp fq (h2 i hi)
    have lo : ∀ m ∈ L, ∀ a, In m a → Inn (mtc (gt p i) (gt q i)) (ga a i) := fun m hm a ha => by
      rcases (hin a).1 ⟨m, hm, ha⟩ with k | k
      · rw [in_set i hi] at k; exact k.2.2
      · rw [in_set i hiq] at k; exact k.2.2
    rw [List.pairwise_append, List.pairwise_append]
    refine ⟨⟨part_dj hi fo, part_dj hiq fo, fun x hx y hy a ⟨k1, k2⟩ => ?_⟩, hc, fun x hx y hy a ⟨k1, k2⟩ => ?_⟩
    · have e1 := (has_part hi fp fo a).1 ⟨x, hx, k1⟩
      have e2 := (has_part hiq fq fo a).1 ⟨y, hy, k2⟩
      exact e1.2 ((mtc_in _ _ _).2 ⟨((in_at i hi).1 e1.1).2.2, ((in_at i hiq).1 e2.1).2.2⟩)
    · have e2 := lo y hy a k2
      rcases List.mem_append.1 hx with hx | hx
      · exact ((has_part hi fp fo a).1 ⟨x, hx, k1⟩).2 e2
      · exact ((has_part hiq fq fo a).1 ⟨x, hx, k1⟩).2 e2
theorem ro_pos {p q : List Cl} {L : List (List Cl)} {b : Bool} (hr : RO p q L b) : 0 < L.length := by
  induction hr with
  | mrg h => simp
  | no _ h2 => simp
  | cut i h h2 hi _ _ hr ih => rw [List.length_append]; omega
theorem ro_flag {p q : List Cl} {L : List (List Cl)} {b : Bool} (hr : RO p q L b) : (b = true ↔ Ovs p q ∨ Mrg p q) ∧ (b = false → L.length = 2) := by
  cases hr with
  | mrg h => exact ⟨⟨fun _ => .inr h.mrg, fun _ => rfl⟩, fun h => by cases h⟩
  | no h h2 => exact ⟨⟨fun h => (by cases h), fun k => k.elim (fun k => absurd k h2) (fun k => absurd k h)⟩, fun _ => rfl⟩
  | cut i h h2 hi _ _ hr => exact ⟨⟨fun _ => .inl h2, fun _ => rfl⟩, fun h => by cases h⟩
theorem ro_len {p q : List Cl} {L : List (List Cl)} {b : Bool} (hr : RO p q L b) : ∀ k, k ≤ p.length → (∀ j, j < k → Eq1 (gt p j) (gt q j)) → p.length = q.length → L.length ≤ 2 + 4 * (p.length - k) := by
  induction hr with
  | mrg h => intro k _ _ _; simp; omega
  | no _ h2 => intro k _ _ _; simp
  | @cut p q L b i _ h2 hi hf hn hr ih =>
    intro k hk he hl
    have hik : k ≤ i := by
      rcases Nat.lt_or_ge i k with h | h
      · exact absurd (he i h) hn
      · exact h
    have h3 := ih (i + 1) (by rw [List.length_set]; omega) (fun j hj => by
      by_cases e : j = i
      · subst e
        rw [gt_set_self _ hi, gt_set_self _ (by omega)]
        exact ⟨rfl, rfl⟩
      · rw [gt_set_ne _ e, gt_set_ne _ e]
        exact hf j (by omega)) (by rw [List.length_set, List.length_set]; exact hl)
    have h4 := sub_len (gt p i) (mtc (gt p i) (gt q i))
    have h5 := sub_len (gt q i) (mtc (gt p i) (gt q i))
    rw [List.length_set] at h3
    rw [List.length_append, List.length_append, List.length_map, List.length_map]
    omega
end Go.Proofs.YtfnogpelaoofbaaGreatDoor.Rg

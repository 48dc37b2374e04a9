/- What two ranges with values have in common: as places. Conditions: those written at each lemma. -/
import Derived.Test.YtfnogpelaoofbaaGreatDoorOve
set_option linter.unusedVariables false
set_option linter.unusedSimpArgs false
set_option maxRecDepth 100000
set_option maxHeartbeats 4000000
namespace Go.Proofs.YtfnogpelaoofbaaGreatDoor.Rg
open Go.RowKit Go.Proofs.YtfnogpelaoofbaaGreatDoor.B Go.Proofs.YtfnogpelaoofbaaGreatDoor.Sp

theorem plc_inj {k x k' x' : Int} (p : Pos k x) (q : Pos k' x') (h : plc k x = plc k' x') : k = k' ∧ x = x' := by
  obtain ⟨a1, a2, a3, a4, a5⟩ := p
  obtain ⟨b1, b2, b3, b4, b5⟩ := q
  have h1 : k = 0 ∨ k = 1 ∨ k = 4 ∨ k = 2 ∨ k = 3 := by omega
  have h2 : k' = 0 ∨ k' = 1 ∨ k' = 4 ∨ k' = 2 ∨ k' = 3 := by omega
  rcases h1 with rfl | rfl | rfl | rfl | rfl <;> rcases h2 with rfl | rfl | rfl | rfl | rfl <;> simp [plc] at h <;> omega
theorem ct_kind {k x : Int} (p : Pos k x) : (ctOf k x).kind = k ∧ (ctOf k x).key = x := by
  obtain ⟨a1, a2, a3, a4, a5⟩ := p
  have h1 : k = 0 ∨ k = 1 ∨ k = 4 ∨ k = 2 ∨ k = 3 := by omega
  rcases h1 with rfl | rfl | rfl | rfl | rfl <;> refine ⟨rfl, ?_⟩
  · show 0 = x; omega
  · show 0 = x; omega
  · show 0 = x; omega
  · rfl
  · rfl
theorem pos_ok {k x k' x' : Int} (p : Pos k x) (q : Pos k' x') : Ok k x k' x' := by
  obtain ⟨a1, a2, a3, a4, a5⟩ := p
  obtain ⟨b1, b2, b3, b4, b5⟩ := q
  exact ⟨a1, a2, by omega, by omega, b1, b2, by omega, by omega⟩
/-- What two ranges have in common. -/
def mtc (a b : Cl) : Cl := ⟨if b.lo > a.lo then b.a else a.a, if b.lo > a.lo then b.x else a.x, if b.hi < a.hi then b.b else a.b, if b.hi < a.hi then b.y else a.y⟩
abbrev Pcl (c : Cl) : Prop := Pos c.a c.x ∧ Pos c.b c.y
theorem mtc_pos {a b : Cl} (pa : Pcl a) (pb : Pcl b) : Pcl (mtc a b) := by
  unfold mtc
  refine ⟨?_, ?_⟩
  · by_cases h : b.lo > a.lo
    · simp only [if_pos h]; exact pb.1
    · simp only [if_neg h]; exact pa.1
  · by_cases h : b.hi < a.hi
    · simp only [if_pos h]; exact pb.2
    · simp only [if_neg h]; exact pa.2
theorem mtc_lo (a b : Cl) : (mtc a b).lo = if b.lo > a.lo then b.lo else a.lo := by
  unfold mtc Cl.lo
  by_cases h : plc b.a b.x > plc a.a a.x <;> simp [h]
theorem mtc_hi (a b : Cl) : (mtc a b).hi = if b.hi < a.hi then b.hi else a.hi := by
  unfold mtc Cl.hi
  by_cases h : plc b.b b.y < plc a.b a.y <;> simp [h]
theorem mtc_self (a : Cl) : mtc a a = a := by
  unfold mtc
  rw [if_neg (Int.lt_irrefl _), if_neg (Int.lt_irrefl _), if_neg (Int.lt_irrefl _), if_neg (Int.lt_irrefl _)]
theorem pcl_w {c : Cl} (p : Pcl c) : PosW c.a c.x ∧ PosW c.b c.y := by
  obtain ⟨⟨a1, a2, a3, a4, a5⟩, b1, b2, b3, b4, b5⟩ := p
  exact ⟨⟨a1, a2, by omega, by omega⟩, b1, b2, by omega, by omega⟩
theorem meet_cl (a b : Cl) (w : World) (pa : Pcl a) (pb : Pcl b) : Calls Tryz.prog 30 #[a.v, b.v] w fun e w' => e = .returned (mtc a b).v ∧ Below w.heap.size w w' := by
  have h := meet_any a.a a.x a.b a.y b.a b.x b.b b.y w (pcl_w pa).1 (pcl_w pa).2 (pcl_w pb).1 (pcl_w pb).2
  refine h.mono fun e w' ⟨he, hb⟩ => ⟨he.trans ?_, hb⟩
  unfold mtc
  by_cases h1 : plc b.a b.x > plc a.a a.x <;> by_cases h2 : plc b.b b.y < plc a.b a.y <;> simp [Cl.v, Cl.lo, Cl.hi, h1, h2]
/-- What they have in common, if there is any. -/
def rs (a b : Cl) : Cl := if (mtc a b).lo < (mtc a b).hi then mtc a b else ⟨4, 0, 4, 0⟩
theorem rs_yes {a b : Cl} (h : (mtc a b).lo < (mtc a b).hi) : rs a b = mtc a b := if_pos h
theorem rs_no {a b : Cl} (h : ¬ (mtc a b).lo < (mtc a b).hi) : rs a b = ⟨4, 0, 4, 0⟩ := if_neg h
theorem cp_pos {k x k' x' : Int} (p : Pos k x) (q : Pos k' x') : cp (ctOf k x) (ctOf k' x') = sg (plc k x) (plc k' x') := cp_plc k x k' x' (pos_ok p q)
theorem sg_neg {x y : Int} : sg x y < 0 ↔ x < y := by unfold sg; (repeat' split) <;> omega
theorem sg_le {x y : Int} : sg x y ≤ 0 ↔ x ≤ y := by unfold sg; (repeat' split) <;> omega
theorem sg_m1 {x y : Int} : sg x y = -1 ↔ x < y := by unfold sg; (repeat' split) <;> omega
theorem sg_p1 {x y : Int} : sg x y = 1 ↔ y < x := by unfold sg; (repeat' split) <;> omega
theorem ct_eq {k x k' x' : Int} (p : Pos k x) (q : Pos k' x') (h : plc k x = plc k' x') : ctOf k x = ctOf k' x' := by
  obtain ⟨rfl, rfl⟩ := plc_inj p q h
  rfl
theorem mtc_ctlo (a b : Cl) : ctOf (mtc a b).a (mtc a b).x = if b.lo > a.lo then ctOf b.a b.x else ctOf a.a a.x := by
  unfold mtc
  by_cases h : b.lo > a.lo
  · simp only [if_pos h]
  · simp only [if_neg h]
theorem mtc_cthi (a b : Cl) : ctOf (mtc a b).b (mtc a b).y = if b.hi < a.hi then ctOf b.b b.y else ctOf a.b a.y := by
  unfold mtc
  by_cases h : b.hi < a.hi
  · simp only [if_pos h]
  · simp only [if_neg h]
theorem ovY_eq {a b : Cl} (pa : Ful a) (pb : Ful b) : ovY (ctOf a.a a.x) (ctOf a.b a.y) (ctOf b.a b.x) (ctOf b.b b.y) = decide ((mtc a b).lo < (mtc a b).hi) := by
  unfold ovY
  rw [cp_pos pa.1 pb.2.1, cp_pos pb.1 pa.2.1, mtc_lo, mtc_hi, ← Bool.decide_and]
  apply decide_eq_decide.2
  rw [sg_neg, sg_neg]
  have h1 := pa.2.2
  have h2 := pb.2.2
  show (a.lo < b.hi ∧ b.lo < a.hi) ↔ _
  by_cases h3 : b.lo > a.lo <;> by_cases h4 : b.hi < a.hi <;> simp only [h3, h4, if_true, if_false] <;> omega
theorem ovC_eq {a b : Cl} (pa : Ful a) (pb : Ful b) : ctV (ovL (ctOf a.a a.x) (ctOf a.b a.y) (ctOf b.a b.x) (ctOf b.b b.y)) (ovU (ctOf a.a a.x) (ctOf a.b a.y) (ctOf b.a b.x) (ctOf b.b b.y)) = (rs a b).v := by
  have hm := mtc_pos ⟨pa.1, pa.2.1⟩ ⟨pb.1, pb.2.1⟩
  unfold ovL ovU
  rw [ovY_eq pa pb]
  by_cases h : (mtc a b).lo < (mtc a b).hi
  · rw [if_pos (decide_eq_true h), if_pos (decide_eq_true h), rs_yes h]
    have e1 : (if cp (ctOf a.a a.x) (ctOf b.a b.x) = -1 then ctOf b.a b.x else ctOf a.a a.x) = ctOf (mtc a b).a (mtc a b).x := by
      rw [mtc_ctlo, cp_pos pa.1 pb.1]
      by_cases h1 : b.lo > a.lo
      · rw [if_pos h1, if_pos (sg_m1.2 h1)]
      · rw [if_neg h1, if_neg (fun e => h1 (sg_m1.1 e))]
    have e2 : (if cp (ctOf a.b a.y) (ctOf b.b b.y) = 1 then ctOf b.b b.y else ctOf a.b a.y) = ctOf (mtc a b).b (mtc a b).y := by
      rw [mtc_cthi, cp_pos pa.2.1 pb.2.1]
      by_cases h1 : b.hi < a.hi
      · rw [if_pos h1, if_pos (sg_p1.2 h1)]
      · rw [if_neg h1, if_neg (fun e => h1 (sg_p1.1 e))]
    rw [e1, e2]
    show Value.agg _ = Value.agg _
    rw [(ct_kind hm.1).1, (ct_kind hm.1).2, (ct_kind hm.2).1, (ct_kind hm.2).2]
  · rw [if_neg (by simpa using h), if_neg (by simpa using h), rs_no h]
    rfl
theorem ok_kd {a b : Cl} (pa : Pcl a) (pb : Pcl b) : Kd a.a a.b b.a b.b := ⟨pa.1.1, pa.1.2.1, pa.2.1, pa.2.2.1, pb.1.1, pb.1.2.1, pb.2.1, pb.2.2.1⟩
theorem mx_eq {a b : Cl} (pa : Pcl a) (pb : Pcl b) : mx (ctOf a.a a.x) (ctOf b.a b.x) = ctOf (mtc a b).a (mtc a b).x := by
  unfold mx
  rw [mtc_ctlo, cp_pos pa.1 pb.1]
  by_cases h1 : b.lo > a.lo
  · rw [if_pos h1, if_pos (sg_le.2 (Int.le_of_lt h1))]
  · rw [if_neg h1]
    by_cases h2 : sg (plc a.a a.x) (plc b.a b.x) ≤ 0
    · rw [if_pos h2]
      exact ct_eq pb.1 pa.1 (by have := sg_le.1 h2; show b.lo = a.lo; have h3 : a.lo ≤ b.lo := this; omega)
    · rw [if_neg h2]
theorem mn_eq {a b : Cl} (pa : Pcl a) (pb : Pcl b) : mn (ctOf a.b a.y) (ctOf b.b b.y) = ctOf (mtc a b).b (mtc a b).y := by
  unfold mn
  rw [mtc_cthi, cp_pos pa.2 pb.2]
  by_cases h1 : b.hi < a.hi
  · rw [if_pos h1, if_neg (fun e => by have := sg_le.1 e; have h3 : a.hi ≤ b.hi := this; omega)]
  · rw [if_neg h1, if_pos (sg_le.2 (by show a.hi ≤ b.hi; omega))]
theorem tiY_eq {a b : Cl} (pa : Pcl a) (pb : Pcl b) : tiY (ctOf a.a a.x) (ctOf a.b a.y) (ctOf b.a b.x) (ctOf b.b b.y) = decide ((mtc a b).lo < (mtc a b).hi) := by
  have hm := mtc_pos pa pb
  unfold tiY
  rw [mx_eq pa pb, mn_eq pa pb, cp_pos hm.1 hm.2]
  exact decide_eq_decide.2 sg_neg
theorem tiC_eq {a b : Cl} (pa : Pcl a) (pb : Pcl b) : ctV (tiL (ctOf a.a a.x) (ctOf a.b a.y) (ctOf b.a b.x) (ctOf b.b b.y)) (tiU (ctOf a.a a.x) (ctOf a.b a.y) (ctOf b.a b.x) (ctOf b.b b.y)) = (rs a b).v := by
  have hm := mtc_pos pa pb
  unfold tiL tiU
  rw [tiY_eq pa pb, mx_eq pa pb, mn_eq pa pb]
  by_cases h : (mtc a b).lo < (mtc a b).hi
  · rw [if_pos (decide_eq_true h), if_pos (decide_eq_true h), rs_yes h]
    show Value.agg _ = Value.agg _
    rw [(ct_kind hm.1).1, (ct_kind hm.1).2, (ct_kind hm.2).1, (ct_kind hm.2).2]
  · rw [if_neg (by simpa using h), if_neg (by simpa using h), rs_no h]
    rfl
/-- Have two ranges the same values? -/
def sameC (a b : Cl) : Bool := same a.a a.x a.b a.y b.a b.x b.b b.y
theorem ok_cl {a : Cl} (pa : Pcl a) : Ok a.a a.x a.b a.y := pos_ok pa.1 pa.2
theorem same_cl (a b : Cl) (w : World) (pa : Pcl a) (pb : Pcl b) : Calls Tryz.prog 32 #[a.v, b.v] w fun e w' => e = .returned (.bool (sameC a b)) ∧ Below w.heap.size w w' :=
  same_any a.a a.x a.b a.y b.a b.x b.b b.y w (ok_cl pa) (ok_cl pb)
theorem none_cl (a : Cl) (w : World) (pa : Pcl a) : Calls Tryz.prog 29 #[a.v] w fun e w' => e = .returned (.bool (decide (a.hi ≤ a.lo))) ∧ Below w.heap.size w w' :=
  none_any a.a a.x a.b a.y w (ok_cl pa)
theorem aa_pcl : Pcl ⟨4, 0, 4, 0⟩ := ⟨by decide, by decide⟩
theorem rs_pcl {a b : Cl} (pa : Pcl a) (pb : Pcl b) : Pcl (rs a b) := by
  unfold rs
  split
  · exact mtc_pos pa pb
  · exact aa_pcl
theorem sameC_self (a : Cl) : sameC a a = true := same_self _ _ _ _
theorem sameC_rs {a b : Cl} : sameC (rs a b) (mtc a b) = true := by
  by_cases h : (mtc a b).lo < (mtc a b).hi
  · rw [rs_yes h]; exact sameC_self _
  · rw [rs_no h]
    refine decide_eq_true (.inl ⟨by decide, ?_⟩)
    show (mtc a b).hi ≤ (mtc a b).lo
    omega
theorem ful_pcl {a : Cl} (h : Ful a) : Pcl a := ⟨h.1, h.2.1⟩
end Go.Proofs.YtfnogpelaoofbaaGreatDoor.Rg

/- A range with values, made of whatever range. Conditions: those written at each lemma. -/
import Derived.Test.YtfnogpelaoofbaaGreatDoorOvd
set_option linter.unusedVariables false
set_option linter.unusedSimpArgs false
set_option maxRecDepth 100000
set_option maxHeartbeats 4000000
namespace Go.Proofs.YtfnogpelaoofbaaGreatDoor.Rg
open Go.RowKit Go.Proofs.YtfnogpelaoofbaaGreatDoor.B Go.Proofs.YtfnogpelaoofbaaGreatDoor.Sp

/-- A range of a column: two positions. -/
structure Cl where
  a : Int
  x : Int
  b : Int
  y : Int
abbrev Cl.v (c : Cl) : Value := coV c.a c.x c.b c.y
abbrev Cl.lo (c : Cl) : Int := plc c.a c.x
abbrev Cl.hi (c : Cl) : Int := plc c.b c.y
/-- What rgFull makes. -/
def full (c : Cl) : Cl :=
  if plc (rcK c.a) (rcX c.a c.x) > plc (rcK c.b) (rcX c.b c.y) then ⟨rcK c.b, rcX c.b c.y, rcK c.a, rcX c.a c.x⟩
  else if plc (rcK c.a) (rcX c.a c.x) = plc (rcK c.b) (rcX c.b c.y) then ⟨0, 0, 4, 0⟩ else ⟨rcK c.a, rcX c.a c.x, rcK c.b, rcX c.b c.y⟩
/-- A range with values. -/
abbrev Ful (c : Cl) : Prop := Pos c.a c.x ∧ Pos c.b c.y ∧ c.lo < c.hi
theorem full_ful (c : Cl) : Ful (full c) := by
  have P := rc_pos c.a c.x
  have Q := rc_pos c.b c.y
  unfold full
  by_cases h1 : plc (rcK c.a) (rcX c.a c.x) > plc (rcK c.b) (rcX c.b c.y)
  · rw [if_pos h1]; exact ⟨Q, P, h1⟩
  · rw [if_neg h1]
    by_cases h2 : plc (rcK c.a) (rcX c.a c.x) = plc (rcK c.b) (rcX c.b c.y)
    · rw [if_pos h2]; exact ⟨by decide, by decide, by decide⟩
    · rw [if_neg h2]; exact ⟨P, Q, Int.lt_iff_le_and_ne.2 ⟨Int.not_lt.1 h1, h2⟩⟩
theorem full_any (c : Cl) (w : World) : Calls Tryz.prog 23 #[c.v] w fun e w' => e = .returned (full c).v ∧ Below w.heap.size w w' := by
  obtain ⟨k1, x1, k2, x2⟩ := c
  have C1 := Lib.hid (fun W => rgcut_any k1 x1 W)
  have C2 := Lib.hid (fun W => rgcut_any k2 x2 W)
  have P := rc_pos k1 x1
  have Q := rc_pos k2 x2
  have PA := Lib.hid (fun W => place_any (rcK k1) (rcX k1 x1) W P.1 P.2.1 (by have := P.2.2.1; omega) (by have := P.2.2.2.1; omega))
  have PB := Lib.hid (fun W => place_any (rcK k2) (rcX k2 x2) W Q.1 Q.2.1 (by have := Q.2.2.1; omega) (by have := Q.2.2.2.1; omega))
  obtain ⟨R, hR⟩ : ∃ R, full ⟨k1, x1, k2, x2⟩ = R := ⟨_, rfl⟩
  rw [hR]
  unfold full at hR
  have HR := Lib.hid hR
  clear hR P Q
  simp only [Cl.v]
  generalize rcX k1 x1 = X1 at *
  generalize rcX k2 x2 = X2 at *
  generalize rcK k1 = K1 at *
  generalize rcK k2 = K2 at *
  generalize plc K1 X1 = p1 at *
  generalize plc K2 X2 = p2 at *
  have HX : Hid (Below w.heap.size w ((w.alloc (Sp.coC k1 x1 k2 x2)).alloc zeC)) := Lib.hid (by go_grown)
  have HB2 : Hid (((w.alloc (Sp.coC k1 x1 k2 x2)).alloc zeC).heap[w.heap.size]? = some (Sp.coC k1 x1 k2 x2) ∧ ((w.alloc (Sp.coC k1 x1 k2 x2)).alloc zeC).heap[w.heap.size + 1]? = some zeC ∧ ((w.alloc (Sp.coC k1 x1 k2 x2)).alloc zeC).heap.size = w.heap.size + 1 + 1) := Lib.hid ⟨heap_old (heap_alloc_new _ _), by
    have e1 : (w.alloc (Sp.coC k1 x1 k2 x2)).heap.size = w.heap.size + 1 := by simp
    rw [← e1]; exact heap_alloc_new _ _, by simp⟩
  go_enter Tryz.func23, Tryz.ntmps23
  go_upto_region 1 with fail
  generalize ((w.alloc (Sp.coC k1 x1 k2 x2)).alloc zeC) = X at *
  have hsz := HB2.out.2.2
  refine Rv.region_fin (n := 36) (by kernel_rfl) #[5, 6, 7, 8, 9, 10, 11, 12, 13, 14, 15, 16, 17, 18, 3, 4, 1016, 1017] #[] (fun i f W => if i = 17 then (fun f W => ∃ g, f 15 = .pointer (some ⟨g, 0, none⟩) ∧ W.heap[g]? = some (.cells #[.int .i64 K2, .int .i64 X2] 52 (0, 0))) f W else if i = 15 then (fun f W => ∃ g, f 15 = .pointer (some ⟨g, 0, none⟩) ∧ W.heap[g]? = some (.cells #[.int .i64 0, .int .i64 0] 52 (0, 0))) f W else if i = 16 then (fun f W => ∃ g, f 14 = .pointer (some ⟨g, 0, none⟩) ∧ W.heap[g]? = some (.cells #[.int .i64 K1, .int .i64 X1] 52 (0, 0))) f W else if i = 14 then (fun f W => ∃ g, f 14 = .pointer (some ⟨g, 0, none⟩) ∧ W.heap[g]? = some (.cells #[.int .i64 0, .int .i64 0] 52 (0, 0))) f W else f i = (#[.pointer (some ⟨w.heap.size, 0, none⟩), .pointer (some ⟨w.heap.size, 0, none⟩), .int .i64 k1, .pointer (some ⟨w.heap.size, 0, none⟩), .pointer (some ⟨w.heap.size, 1, none⟩), .int .i64 x1, cuV K1 X1, .pointer (some ⟨w.heap.size, 2, none⟩), .pointer (some ⟨w.heap.size, 2, none⟩), .int .i64 k2, .pointer (some ⟨w.heap.size, 2, none⟩), .pointer (some ⟨w.heap.size, 3, none⟩), .int .i64 x2, cuV K2 X2, undef, undef, undef, undef] : Array Value).getD i undef) (fun i j => (i == 16 && (j == 14)) || (i == 17 && (j == 14 || j == 15))) (fun i => i == 16 || i == 17) (fun i f W W' => if i = 17 then (fun f W W' => f 14 ≠ f 15 ∧ ∃ g, f 15 = .pointer (some ⟨g, 0, none⟩) ∧ Rv.But g W W') f W W' else if i = 16 then (fun f W W' => f 14 ≠ f 15 ∧ ∃ g, f 14 = .pointer (some ⟨g, 0, none⟩) ∧ Rv.But g W W') f W W' else True) (fun W => Below X.heap.size X W) (fun _ => True) (Rv.Two 14 15 X.heap.size) (Rv.Two.loc (by show 14 < 18; omega) (by show 15 < 18; omega)) (fun i f f' w hi h hd hg => ?_) (fun i j f w w' hi hj hij hK hdp h hr => ?_) (fun i h g b hg => ?_) rfl (by kernel_rfl) (fun i h g b hg => ?_) ((Below.refl _ _).drew) (trivial) (fun f => Rv.Two.start) (fun i h hr f w hf => ?_) (fun i h hr => absurd hr (Rv.allrun (by kernel_rfl) i h)) ?_ ?_
  · by_cases hi1017 : i = 17
    · subst hi1017
      rw [if_pos rfl] at hg ⊢
      obtain ⟨g, q1, q2⟩ := hg
      exact ⟨g, (hd 15 rfl).symm.trans q1, q2⟩
    rw [if_neg hi1017] at hg ⊢
    by_cases hi4 : i = 15
    · subst hi4
      rw [if_pos rfl] at hg ⊢
      obtain ⟨g, q1, q2⟩ := hg
      exact ⟨g, h.symm.trans q1, q2⟩
    rw [if_neg hi4] at hg ⊢
    by_cases hi1016 : i = 16
    · subst hi1016
      rw [if_pos rfl] at hg ⊢
      obtain ⟨g, q1, q2⟩ := hg
      exact ⟨g, (hd 14 rfl).symm.trans q1, q2⟩
    rw [if_neg hi1016] at hg ⊢
    by_cases hi3 : i = 14
    · subst hi3
      rw [if_pos rfl] at hg ⊢
      obtain ⟨g, q1, q2⟩ := hg
      exact ⟨g, h.symm.trans q1, q2⟩
    rw [if_neg hi3] at hg ⊢
    rw [← h]; exact hg
  · by_cases hj1017 : j = 17
    · subst hj1017
      rw [if_pos rfl] at h ⊢
      rcases hr with ⟨hK1, hr⟩ | hr
      · exfalso
        have e11 : i = 16 := by simpa [hij] using hK1
        subst e11
        revert hdp
        decide
      · obtain ⟨g, e, hb⟩ := h
        exact ⟨g, e, (hr.block _ (Rv.lt_of_blk hb)).trans hb⟩
    rw [if_neg hj1017] at h ⊢
    by_cases hj4 : j = 15
    · subst hj4
      rw [if_pos rfl] at h ⊢
      rcases hr with ⟨hK1, hr⟩ | hr
      · have hi2 : i = 16 ∨ i = 17 := by simpa using hK1
        rcases hi2 with e | e
        · subst e
          obtain ⟨hne, g', hp, hbut⟩ := (show f 14 ≠ f 15 ∧ ∃ g, f 14 = .pointer (some ⟨g, 0, none⟩) ∧ Rv.But g w w' from hr)
          obtain ⟨g, e1, hb⟩ := h
          exact ⟨g, e1, hbut.blk hb (fun e3 => hne (by rw [e1, hp, e3]))⟩
        · exfalso
          subst e
          revert hK
          decide
      · obtain ⟨g, e, hb⟩ := h
        exact ⟨g, e, (hr.block _ (Rv.lt_of_blk hb)).trans hb⟩
    rw [if_neg hj4] at h ⊢
    by_cases hj1016 : j = 16
    · subst hj1016
      rw [if_pos rfl] at h ⊢
      rcases hr with ⟨hK1, hr⟩ | hr
      · have e12 : i = 17 := by simpa [hij] using hK1
        subst e12
        obtain ⟨hne, g', hp, hbut⟩ := (show f 14 ≠ f 15 ∧ ∃ g, f 15 = .pointer (some ⟨g, 0, none⟩) ∧ Rv.But g w w' from hr)
        obtain ⟨g, e1, hb⟩ := h
        exact ⟨g, e1, hbut.blk hb (fun e3 => hne (by rw [e1, hp, e3]))⟩
      · obtain ⟨g, e, hb⟩ := h
        exact ⟨g, e, (hr.block _ (Rv.lt_of_blk hb)).trans hb⟩
    rw [if_neg hj1016] at h ⊢
    by_cases hj3 : j = 14
    · subst hj3
      rw [if_pos rfl] at h ⊢
      rcases hr with ⟨hK1, hr⟩ | hr
      · exfalso
        have hi2 : i = 16 ∨ i = 17 := by simpa using hK1
        rcases hi2 with e | e <;> (subst e; revert hK; decide)
      · obtain ⟨g, e, hb⟩ := h
        exact ⟨g, e, (hr.block _ (Rv.lt_of_blk hb)).trans hb⟩
    rw [if_neg hj3] at h ⊢
    exact h
  · match i, h, hg with
    | 0, _, hg => cases hg
    | 1, _, hg => cases hg
    | 2, _, hg => cases hg
    | 3, _, hg => cases hg
    | 4, _, hg => cases hg
    | 5, _, hg => cases hg
    | 6, _, hg => cases hg
    | 7, _, hg => cases hg
    | 8, _, hg => cases hg
    | 9, _, hg => cases hg
    | 10, _, hg => cases hg
    | 11, _, hg => cases hg
    | 12, _, hg => cases hg
    | 13, _, hg => cases hg
    | 14, _, hg => cases hg
    | 15, _, hg => cases hg
    | 16, _, hg => cases hg
    | 17, _, hg => cases hg
    | m + 18, h, _ => exact absurd h (by show ¬ m + 18 < 18; omega)
  · match i, h, hg with
    | 0, _, hg => cases hg
    | 1, _, hg => cases hg
    | 2, _, hg => cases hg
    | 3, _, hg => cases hg
    | 4, _, hg => cases hg
    | 5, _, hg => cases hg
    | 6, _, hg => cases hg
    | 7, _, hg => cases hg
    | 8, _, hg => cases hg
    | 9, _, hg => cases hg
    | 10, _, hg => cases hg
    | 11, _, hg => cases hg
    | 12, _, hg => cases hg
    | 13, _, hg => cases hg
    | 14, _, hg => cases hg
    | 15, _, hg => cases hg
    | 16, _, hg => cases hg
    | 17, _, hg => cases hg
    | m + 18, h, _ => exact absurd h (by show ¬ m + 18 < 18; omega)
  · match i, h, hr, hf with
    | 0, _, hr, _ => exact Bool.noConfusion (show true = false from hr)
    | 1, _, hr, _ => exact Bool.noConfusion (show true = false from hr)
    | 2, _, hr, _ => exact Bool.noConfusion (show true = false from hr)
    | 3, _, hr, _ => exact Bool.noConfusion (show true = false from hr)
    | 4, _, hr, _ => exact Bool.noConfusion (show true = false from hr)
    | 5, _, hr, _ => exact Bool.noConfusion (show true = false from hr)
    | 6, _, hr, _ => exact Bool.noConfusion (show true = false from hr)
    | 7, _, hr, _ => exact Bool.noConfusion (show true = false from hr)
    | 8, _, hr, _ => exact Bool.noConfusion (show true = false from hr)
    | 9, _, hr, _ => exact Bool.noConfusion (show true = false from hr)
    | 10, _, hr, _ => exact Bool.noConfusion (show true = false from hr)
    | 11, _, hr, _ => exact Bool.noConfusion (show true = false from hr)
    | 12, _, hr, _ => exact Bool.noConfusion (show true = false from hr)
    | 13, _, hr, _ => exact Bool.noConfusion (show true = false from hr)
    | 14, _, hr, _ => exact Bool.noConfusion (show true = false from hr)
    | 15, _, hr, _ => exact Bool.noConfusion (show true = false from hr)
    | 16, _, hr, _ => exact Bool.noConfusion (show true = false from hr)
    | 17, _, hr, _ => exact Bool.noConfusion (show true = false from hr)
    | m + 18, h, _, _ => exact absurd h (by show ¬ m + 18 < 18; omega)
  · intro i h a W hrun hbase hpre hdep htr hta hJ
    obtain ⟨n0, n1, n2, n3⟩ := Rv.cells4 ((htr.block _ (by omega)).trans HB2.out.1)
    match i, h with
    | 0, _ =>
      obtain ⟨e1, x1⟩ := Rv.ev (show a.tmps.getD 1 undef = .pointer (some ⟨w.heap.size, 0, none⟩) from hbase 1 rfl)
      exact Rv.step_op (op := Go.Op.fieldAddr 54 (Go.Operand.tmp 1) 0) (v := .pointer (some ⟨w.heap.size, 0, none⟩)) (w1 := W) rfl rfl (fun d pos aft g => by unfold execOp; go_simp) ⟨_, rfl, rfl, .inr (Below.refl _ _), htr, fun _ ht => ht, fun L _ hJ => Rv.Two.keep (by decide) (by decide) _ (Nat.le_refl _) hJ⟩
    | 1, _ =>
      obtain ⟨e5, x5⟩ := Rv.ev (show a.tmps.getD 5 undef = .pointer (some ⟨w.heap.size, 0, none⟩) from hdep 0 rfl rfl)
      exact Rv.step_op (op := Go.Op.fieldAddr 52 (Go.Operand.tmp 5) 0) (v := .pointer (some ⟨w.heap.size, 0, none⟩)) (w1 := W) rfl rfl (fun d pos aft g => by unfold execOp; go_simp) ⟨_, rfl, rfl, .inr (Below.refl _ _), htr, fun _ ht => ht, fun L _ hJ => Rv.Two.keep (by decide) (by decide) _ (Nat.le_refl _) hJ⟩
    | 2, _ =>
      obtain ⟨e6, x6⟩ := Rv.ev (show a.tmps.getD 6 undef = .pointer (some ⟨w.heap.size, 0, none⟩) from hdep 1 rfl rfl)
      exact Rv.step_op (op := Go.Op.load 3 (Go.Operand.tmp 6)) (v := .int .i64 k1) (w1 := W) rfl rfl (fun d pos aft g => by unfold execOp; go_simp) ⟨_, rfl, rfl, .inr (Below.refl _ _), htr, fun _ ht => ht, fun L _ hJ => Rv.Two.keep (by decide) (by decide) _ (Nat.le_refl _) hJ⟩
    | 3, _ =>
      obtain ⟨e1, x1⟩ := Rv.ev (show a.tmps.getD 1 undef = .pointer (some ⟨w.heap.size, 0, none⟩) from hbase 1 rfl)
      exact Rv.step_op (op := Go.Op.fieldAddr 54 (Go.Operand.tmp 1) 0) (v := .pointer (some ⟨w.heap.size, 0, none⟩)) (w1 := W) rfl rfl (fun d pos aft g => by unfold execOp; go_simp) ⟨_, rfl, rfl, .inr (Below.refl _ _), htr, fun _ ht => ht, fun L _ hJ => Rv.Two.keep (by decide) (by decide) _ (Nat.le_refl _) hJ⟩
    | 4, _ =>
      obtain ⟨e8, x8⟩ := Rv.ev (show a.tmps.getD 8 undef = .pointer (some ⟨w.heap.size, 0, none⟩) from hdep 3 rfl rfl)
      exact Rv.step_op (op := Go.Op.fieldAddr 52 (Go.Operand.tmp 8) 1) (v := .pointer (some ⟨w.heap.size, 1, none⟩)) (w1 := W) rfl rfl (fun d pos aft g => by unfold execOp; go_simp) ⟨_, rfl, rfl, .inr (Below.refl _ _), htr, fun _ ht => ht, fun L _ hJ => Rv.Two.keep (by decide) (by decide) _ (Nat.le_refl _) hJ⟩
    | 5, _ =>
      obtain ⟨e9, x9⟩ := Rv.ev (show a.tmps.getD 9 undef = .pointer (some ⟨w.heap.size, 1, none⟩) from hdep 4 rfl rfl)
      exact Rv.step_op (op := Go.Op.load 2 (Go.Operand.tmp 9)) (v := .int .i64 x1) (w1 := W) rfl rfl (fun d pos aft g => by unfold execOp; go_simp) ⟨_, rfl, rfl, .inr (Below.refl _ _), htr, fun _ ht => ht, fun L _ hJ => Rv.Two.keep (by decide) (by decide) _ (Nat.le_refl _) hJ⟩
    | 6, _ =>
      obtain ⟨e7, x7⟩ := Rv.ev (show a.tmps.getD 7 undef = .int .i64 k1 from hdep 2 rfl rfl)
      obtain ⟨e10, x10⟩ := Rv.ev (show a.tmps.getD 10 undef = .int .i64 x1 from hdep 5 rfl rfl)
      have cf : ∀ x0 x1 W, (callFunc 44 #[x0, x1]).run Tryz.prog W = .ok (.enter 44 #[x0, x1]) W := fun _ _ _ => by kernel_rfl
      refine Rv.step_fn (op := Go.Op.call { callee := Go.Callee.value (Go.Operand.func 44), args := #[Go.Operand.tmp 7, Go.Operand.tmp 10], argTypes := #[3, 3] }) (f := 44) (args := #[.int .i64 k1, .int .i64 x1]) (R := fun v W' => v = cuV K1 X1 ∧ Below W.heap.size W W') rfl rfl (fun d pos aft g => by unfold execOp; go_simp) ((C1.out W).mono ?_) ?_
      · (rintro e W' ⟨rfl, hb⟩; exact ⟨_, rfl, rfl, hb⟩)
      · (rintro v W' ⟨rfl, hb⟩; exact ⟨_, rfl, rfl, .inr hb, (fun W W' ht hb => ht.trans (hb.mono ht.size)) W W' htr hb, fun _ ht => (fun _ _ _ _ => trivial) W W' ht hb, fun L _ hJ => Rv.Two.keep (by decide) (by decide) _ (hb.size) hJ⟩)
    | 7, _ =>
      obtain ⟨e1, x1⟩ := Rv.ev (show a.tmps.getD 1 undef = .pointer (some ⟨w.heap.size, 0, none⟩) from hbase 1 rfl)
      exact Rv.step_op (op := Go.Op.fieldAddr 54 (Go.Operand.tmp 1) 1) (v := .pointer (some ⟨w.heap.size, 2, none⟩)) (w1 := W) rfl rfl (fun d pos aft g => by unfold execOp; go_simp) ⟨_, rfl, rfl, .inr (Below.refl _ _), htr, fun _ ht => ht, fun L _ hJ => Rv.Two.keep (by decide) (by decide) _ (Nat.le_refl _) hJ⟩
    | 8, _ =>
      obtain ⟨e12, x12⟩ := Rv.ev (show a.tmps.getD 12 undef = .pointer (some ⟨w.heap.size, 2, none⟩) from hdep 7 rfl rfl)
      exact Rv.step_op (op := Go.Op.fieldAddr 52 (Go.Operand.tmp 12) 0) (v := .pointer (some ⟨w.heap.size, 2, none⟩)) (w1 := W) rfl rfl (fun d pos aft g => by unfold execOp; go_simp) ⟨_, rfl, rfl, .inr (Below.refl _ _), htr, fun _ ht => ht, fun L _ hJ => Rv.Two.keep (by decide) (by decide) _ (Nat.le_refl _) hJ⟩
    | 9, _ =>
      obtain ⟨e13, x13⟩ := Rv.ev (show a.tmps.getD 13 undef = .pointer (some ⟨w.heap.size, 2, none⟩) from hdep 8 rfl rfl)
      exact Rv.step_op (op := Go.Op.load 3 (Go.Operand.tmp 13)) (v := .int .i64 k2) (w1 := W) rfl rfl (fun d pos aft g => by unfold execOp; go_simp) ⟨_, rfl, rfl, .inr (Below.refl _ _), htr, fun _ ht => ht, fun L _ hJ => Rv.Two.keep (by decide) (by decide) _ (Nat.le_refl _) hJ⟩
    | 10, _ =>
      obtain ⟨e1, x1⟩ := Rv.ev (show a.tmps.getD 1 undef = .pointer (some ⟨w.heap.size, 0, none⟩) from hbase 1 rfl)
      exact Rv.step_op (op := Go.Op.fieldAddr 54 (Go.Operand.tmp 1) 1) (v := .pointer (some ⟨w.heap.size, 2, none⟩)) (w1 := W) rfl rfl (fun d pos aft g => by unfold execOp; go_simp) ⟨_, rfl, rfl, .inr (Below.refl _ _), htr, fun _ ht => ht, fun L _ hJ => Rv.Two.keep (by decide) (by decide) _ (Nat.le_refl _) hJ⟩
    | 11, _ =>
      obtain ⟨e15, x15⟩ := Rv.ev (show a.tmps.getD 15 undef = .pointer (some ⟨w.heap.size, 2, none⟩) from hdep 10 rfl rfl)
      exact Rv.step_op (op := Go.Op.fieldAddr 52 (Go.Operand.tmp 15) 1) (v := .pointer (some ⟨w.heap.size, 3, none⟩)) (w1 := W) rfl rfl (fun d pos aft g => by unfold execOp; go_simp) ⟨_, rfl, rfl, .inr (Below.refl _ _), htr, fun _ ht => ht, fun L _ hJ => Rv.Two.keep (by decide) (by decide) _ (Nat.le_refl _) hJ⟩
    | 12, _ =>
      obtain ⟨e16, x16⟩ := Rv.ev (show a.tmps.getD 16 undef = .pointer (some ⟨w.heap.size, 3, none⟩) from hdep 11 rfl rfl)
      exact Rv.step_op (op := Go.Op.load 2 (Go.Operand.tmp 16)) (v := .int .i64 x2) (w1 := W) rfl rfl (fun d pos aft g => by unfold execOp; go_simp) ⟨_, rfl, rfl, .inr (Below.refl _ _), htr, fun _ ht => ht, fun L _ hJ => Rv.Two.keep (by decide) (by decide) _ (Nat.le_refl _) hJ⟩
    | 13, _ =>
      obtain ⟨e14, x14⟩ := Rv.ev (show a.tmps.getD 14 undef = .int .i64 k2 from hdep 9 rfl rfl)
      obtain ⟨e17, x17⟩ := Rv.ev (show a.tmps.getD 17 undef = .int .i64 x2 from hdep 12 rfl rfl)
      have cf : ∀ x0 x1 W, (callFunc 44 #[x0, x1]).run Tryz.prog W = .ok (.enter 44 #[x0, x1]) W := fun _ _ _ => by kernel_rfl
      refine Rv.step_fn (op := Go.Op.call { callee := Go.Callee.value (Go.Operand.func 44), args := #[Go.Operand.tmp 14, Go.Operand.tmp 17], argTypes := #[3, 3] }) (f := 44) (args := #[.int .i64 k2, .int .i64 x2]) (R := fun v W' => v = cuV K2 X2 ∧ Below W.heap.size W W') rfl rfl (fun d pos aft g => by unfold execOp; go_simp) ((C2.out W).mono ?_) ?_
      · (rintro e W' ⟨rfl, hb⟩; exact ⟨_, rfl, rfl, hb⟩)
      · (rintro v W' ⟨rfl, hb⟩; exact ⟨_, rfl, rfl, .inr hb, (fun W W' ht hb => ht.trans (hb.mono ht.size)) W W' htr hb, fun _ ht => (fun _ _ _ _ => trivial) W W' ht hb, fun L _ hJ => Rv.Two.keep (by decide) (by decide) _ (hb.size) hJ⟩)
    | 14, _ =>
      have hal : Below W.heap.size W (W.alloc (.cells #[.int .i64 0, .int .i64 0] 52)) := (Below.refl _ _).alloc (Nat.le_refl _) _
      exact Rv.step_op (op := Go.Op.alloc 52) (ty := 0) (v := .pointer (some ⟨W.heap.size, 0, none⟩)) (w1 := W.alloc (.cells #[.int .i64 0, .int .i64 0] 52)) rfl rfl (fun d pos aft g => by unfold execOp; go_simp) ⟨_, rfl, ⟨W.heap.size, rfl, heap_alloc_new W _⟩, .inr hal, htr.trans (hal.mono htr.size), fun _ ht => ht, fun L _ hJ => Rv.Two.fst (by decide) htr.size (by simp) hJ⟩
    | 15, _ =>
      have hal : Below W.heap.size W (W.alloc (.cells #[.int .i64 0, .int .i64 0] 52)) := (Below.refl _ _).alloc (Nat.le_refl _) _
      exact Rv.step_op (op := Go.Op.alloc 52) (ty := 0) (v := .pointer (some ⟨W.heap.size, 0, none⟩)) (w1 := W.alloc (.cells #[.int .i64 0, .int .i64 0] 52)) rfl rfl (fun d pos aft g => by unfold execOp; go_simp) ⟨_, rfl, ⟨W.heap.size, rfl, heap_alloc_new W _⟩, .inr hal, htr.trans (hal.mono htr.size), fun _ ht => ht, fun L _ hJ => Rv.Two.snd (by decide) htr.size (by simp) hJ⟩
    | 16, _ =>
      obtain ⟨g3, e3', h3⟩ : ∃ g, a.tmps.getD 3 undef = .pointer (some ⟨g, 0, none⟩) ∧ W.heap[g]? = some (.cells #[.int .i64 0, .int .i64 0] 52 (0, 0)) := hdep 14 rfl rfl
      obtain ⟨e3, x3⟩ := Rv.ev e3'
      obtain ⟨e11, x11⟩ := Rv.ev (show a.tmps.getD 11 undef = cuV K1 X1 from hdep 6 rfl rfl)
      obtain ⟨L, _, hL, hJ2⟩ := hJ
      have hne := hJ2.2.2 (hL 14 rfl) (hL 15 rfl)
      have hge : X.heap.size ≤ g3 := by
        obtain ⟨g, eg, hge, _⟩ := hJ2.1 (hL 14 rfl)
        have eg2 : Value.pointer (some ⟨g, 0, none⟩) = .pointer (some ⟨g3, 0, none⟩) := eg.symm.trans e3'
        injection eg2 with eg2
        injection eg2 with eg2
        injection eg2 with eg2
        omega
      obtain ⟨k0, k1⟩ := Rv.cells2 h3
      obtain ⟨m0, m1⟩ := Rv.frozen2 h3
      exact Rv.step_skip (op := Go.Op.store 52 (Go.Operand.tmp 3) (Go.Operand.tmp 11)) (ty := 0) (w1 := ((W.setCell ⟨g3, 0, none⟩ (.int .i64 K1)).setCell ⟨g3, 1, none⟩ (.int .i64 X1))) rfl rfl (fun d pos aft g => by unfold execOp; go_simp) ⟨undef, rfl, ⟨g3, e3', Rv.sets2 h3 _ _⟩, .inl ⟨rfl, hne, g3, e3', Rv.buts2 g3 W _ _⟩, Rv.belows2 htr hge _ _, (fun h _ => by cases h), fun L _ hJ => Rv.Two.keep (by decide) (by decide) _ ((Rv.buts2 g3 W _ _).1) hJ⟩
    | 17, _ =>
      obtain ⟨g4, e4', h4⟩ : ∃ g, a.tmps.getD 4 undef = .pointer (some ⟨g, 0, none⟩) ∧ W.heap[g]? = some (.cells #[.int .i64 0, .int .i64 0] 52 (0, 0)) := hdep 15 rfl rfl
      obtain ⟨e4, x4⟩ := Rv.ev e4'
      obtain ⟨e18, x18⟩ := Rv.ev (show a.tmps.getD 18 undef = cuV K2 X2 from hdep 13 rfl rfl)
      obtain ⟨L, _, hL, hJ2⟩ := hJ
      have hne := hJ2.2.2 (hL 14 rfl) (hL 15 rfl)
      have hge : X.heap.size ≤ g4 := by
        obtain ⟨g, eg, hge, _⟩ := hJ2.2.1 (hL 15 rfl)
        have eg2 : Value.pointer (some ⟨g, 0, none⟩) = .pointer (some ⟨g4, 0, none⟩) := eg.symm.trans e4'
        injection eg2 with eg2
        injection eg2 with eg2
        injection eg2 with eg2
        omega
      obtain ⟨k0, k1⟩ := Rv.cells2 h4
      obtain ⟨m0, m1⟩ := Rv.frozen2 h4
      exact Rv.step_skip (op := Go.Op.store 52 (Go.Operand.tmp 4) (Go.Operand.tmp 18)) (ty := 0) (w1 := ((W.setCell ⟨g4, 0, none⟩ (.int .i64 K2)).setCell ⟨g4, 1, none⟩ (.int .i64 X2))) rfl rfl (fun d pos aft g => by unfold execOp; go_simp) ⟨undef, rfl, ⟨g4, e4', Rv.sets2 h4 _ _⟩, .inl ⟨rfl, hne, g4, e4', Rv.buts2 g4 W _ _⟩, Rv.belows2 htr hge _ _, (fun h _ => by cases h), fun L _ hJ => Rv.Two.keep (by decide) (by decide) _ ((Rv.buts2 g4 W _ _).1) hJ⟩
    | m + 18, h => exact absurd h (by show ¬ m + 18 < 18; omega)
  intro W f hf htr hJ
  have f0 : f 0 = .pointer (some ⟨w.heap.size, 0, none⟩) := hf 0 (by show 0 < 18; omega) rfl
  have f1 : f 1 = .pointer (some ⟨w.heap.size, 0, none⟩) := hf 1 (by show 1 < 18; omega) rfl
  have f2 : f 2 = .int .i64 k1 := hf 2 (by show 2 < 18; omega) rfl
  have f3 : f 3 = .pointer (some ⟨w.heap.size, 0, none⟩) := hf 3 (by show 3 < 18; omega) rfl
  have f4 : f 4 = .pointer (some ⟨w.heap.size, 1, none⟩) := hf 4 (by show 4 < 18; omega) rfl
  have f5 : f 5 = .int .i64 x1 := hf 5 (by show 5 < 18; omega) rfl
  have f6 : f 6 = cuV K1 X1 := hf 6 (by show 6 < 18; omega) rfl
  have f7 : f 7 = .pointer (some ⟨w.heap.size, 2, none⟩) := hf 7 (by show 7 < 18; omega) rfl
  have f8 : f 8 = .pointer (some ⟨w.heap.size, 2, none⟩) := hf 8 (by show 8 < 18; omega) rfl
  have f9 : f 9 = .int .i64 k2 := hf 9 (by show 9 < 18; omega) rfl
  have f10 : f 10 = .pointer (some ⟨w.heap.size, 2, none⟩) := hf 10 (by show 10 < 18; omega) rfl
  have f11 : f 11 = .pointer (some ⟨w.heap.size, 3, none⟩) := hf 11 (by show 11 < 18; omega) rfl
  have f12 : f 12 = .int .i64 x2 := hf 12 (by show 12 < 18; omega) rfl
  have f13 : f 13 = cuV K2 X2 := hf 13 (by show 13 < 18; omega) rfl
  have HS16 := Lib.hid (show (fun f W => ∃ g, f 14 = .pointer (some ⟨g, 0, none⟩) ∧ W.heap[g]? = some (.cells #[.int .i64 K1, .int .i64 X1] 52 (0, 0))) f W from hf 16 (by show 16 < 18; omega) rfl)
  have HS17 := Lib.hid (show (fun f W => ∃ g, f 15 = .pointer (some ⟨g, 0, none⟩) ∧ W.heap[g]? = some (.cells #[.int .i64 K2, .int .i64 X2] 52 (0, 0))) f W from hf 17 (by show 17 < 18; omega) rfl)
  clear hf
  refine (show ∀ (a : Act) (w : World), Code.wp _ _ _ a w → _ from by assumption) _ _ ?_
  refine Rv.fin_swap (L' := [(5, f 0), (6, f 1), (7, f 2), (8, f 3), (9, f 4), (10, f 5), (11, f 6), (12, f 7), (13, f 8), (14, f 9), (15, f 10), (16, f 11), (17, f 12), (18, f 13), (3, f 14), (4, f 15), (1016, f 16), (1017, f 17)]) rfl ?_
  rw [f0, f1, f2, f3, f4, f5, f6, f7, f8, f9, f10, f11, f12, f13]
  clear f0 f1 f2 f3 f4 f5 f6 f7 f8 f9 f10 f11 f12 f13
  simp only [Rv.fin, List.foldl_cons, List.foldl_nil, Act.put, List.setIfInBounds_toArray, List.set_cons_succ, List.set_cons_zero, List.set_nil]
  obtain ⟨g3, e14, hg3⟩ := HS16.out
  obtain ⟨g4, e15, hg4⟩ := HS17.out
  have hne : g3 ≠ g4 := fun e => hJ.2.2 rfl rfl (by rw [e14, e15, e])
  obtain ⟨g3', q3, hge3, _⟩ := hJ.1 rfl
  obtain ⟨g4', q4, hge4, _⟩ := hJ.2.1 rfl
  rw [e14] at q3
  rw [e15] at q4
  injection q3 with q3; injection q3 with q3; injection q3 with q3; subst q3
  injection q4 with q4; injection q4 with q4; injection q4 with q4; subst q4
  rw [e14, e15]
  clear e14 e15 HS16 HS17 hJ
  have H3 := Lib.hid hg3
  have H4 := Lib.hid hg4
  have HZ := Lib.hid ((htr.block _ (by omega)).trans HB2.out.2.1)
  have HXW := Lib.hid (HX.out.trans (htr.mono (by omega)))
  have hl3 := Rv.lt_of_blk hg3
  have hl4 := Rv.lt_of_blk hg4
  have hsW : w.heap.size + 1 + 1 ≤ W.heap.size := by have := htr.size; omega
  rw [hsz] at hge3 hge4
  clear htr HX HB2 hg3 hg4 hsz
  go_upto_region 2 with fail
  generalize W = X at *
  refine Rv.region_goods (n := 36) (by kernel_rfl) #[19, 20, 21, 22, 23] #[] (fun i v W => v = (#[cuV K1 X1, .int .i64 p1, cuV K2 X2, .int .i64 p2, .bool (decide (p1 > p2))] : Array Value).getD i undef) (fun i v w w' h hb => ?_) (fun i h g b hg => ?_) rfl (by kernel_rfl) (by kernel_rfl) (fun i h hr w => ?_) ?_ ?_
  · exact h
  · match i, h, hg with
    | 0, _, hg => cases hg
    | 1, _, hg => cases hg
    | 2, _, hg => cases hg
    | 3, _, hg => cases hg
    | 4, _, hg => cases hg
    | m + 5, h, _ => exact absurd h (by show ¬ m + 5 < 5; omega)
  · match i, h, hr with
    | 0, _, hr => exact Bool.noConfusion (show true = false from hr)
    | 1, _, hr => exact Bool.noConfusion (show true = false from hr)
    | 2, _, hr => exact Bool.noConfusion (show true = false from hr)
    | 3, _, hr => exact Bool.noConfusion (show true = false from hr)
    | 4, _, hr => exact Bool.noConfusion (show true = false from hr)
    | m + 5, h, _ => exact absurd h (by show ¬ m + 5 < 5; omega)
  · intro i h a W hrun hbase hpre hdep htr
    obtain ⟨n0, n1⟩ := Rv.cells2 ((htr.block _ (by omega)).trans H3.out)
    obtain ⟨r0, r1⟩ := Rv.cells2 ((htr.block _ (by omega)).trans H4.out)
    match i, h with
    | 0, _ =>
      obtain ⟨e3, x3⟩ := Rv.ev (show a.tmps.getD 3 undef = .pointer (some ⟨g3, 0, none⟩) from hbase 3 rfl)
      exact Rv.step_op (op := Go.Op.load 52 (Go.Operand.tmp 3)) (v := cuV K1 X1) (w1 := W) rfl rfl (fun d pos aft g => by unfold execOp; go_simp) ⟨_, rfl, rfl, Below.refl _ _⟩
    | 1, _ =>
      obtain ⟨e19, x19⟩ := Rv.ev (show a.tmps.getD 19 undef = cuV K1 X1 from hdep 0 rfl)
      have cf : ∀ x0 W, (callFunc 45 #[x0]).run Tryz.prog W = .ok (.enter 45 #[x0]) W := fun _ _ => by kernel_rfl
      refine Rv.step_fn (op := Go.Op.call { callee := Go.Callee.value (Go.Operand.func 45), args := #[Go.Operand.tmp 19], argTypes := #[52] }) (f := 45) (args := #[cuV K1 X1]) (R := fun v W' => v = .int .i64 p1 ∧ Below W.heap.size W W') rfl rfl (fun d pos aft g => by unfold execOp; go_simp) ((PA.out W).mono ?_) ?_
      · (rintro e W' ⟨rfl, hb⟩; exact ⟨_, rfl, rfl, hb⟩)
      · (rintro v W' ⟨rfl, hb⟩; exact ⟨_, rfl, rfl, hb⟩)
    | 2, _ =>
      obtain ⟨e4, x4⟩ := Rv.ev (show a.tmps.getD 4 undef = .pointer (some ⟨g4, 0, none⟩) from hbase 4 rfl)
      exact Rv.step_op (op := Go.Op.load 52 (Go.Operand.tmp 4)) (v := cuV K2 X2) (w1 := W) rfl rfl (fun d pos aft g => by unfold execOp; go_simp) ⟨_, rfl, rfl, Below.refl _ _⟩
    | 3, _ =>
      obtain ⟨e21, x21⟩ := Rv.ev (show a.tmps.getD 21 undef = cuV K2 X2 from hdep 2 rfl)
      have cf : ∀ x0 W, (callFunc 45 #[x0]).run Tryz.prog W = .ok (.enter 45 #[x0]) W := fun _ _ => by kernel_rfl
      refine Rv.step_fn (op := Go.Op.call { callee := Go.Callee.value (Go.Operand.func 45), args := #[Go.Operand.tmp 21], argTypes := #[52] }) (f := 45) (args := #[cuV K2 X2]) (R := fun v W' => v = .int .i64 p2 ∧ Below W.heap.size W W') rfl rfl (fun d pos aft g => by unfold execOp; go_simp) ((PB.out W).mono ?_) ?_
      · (rintro e W' ⟨rfl, hb⟩; exact ⟨_, rfl, rfl, hb⟩)
      · (rintro v W' ⟨rfl, hb⟩; exact ⟨_, rfl, rfl, hb⟩)
    | 4, _ =>
      obtain ⟨e20, x20⟩ := Rv.ev (show a.tmps.getD 20 undef = .int .i64 p1 from hdep 1 rfl)
      obtain ⟨e22, x22⟩ := Rv.ev (show a.tmps.getD 22 undef = .int .i64 p2 from hdep 3 rfl)
      exact Rv.step_op (op := Go.Op.binOp Go.BinOp.gtr 3 (Go.Operand.tmp 20) (Go.Operand.tmp 22) 3) (v := .bool (decide (p1 > p2))) (w1 := W) rfl rfl (fun d pos aft g => by unfold execOp; go_simp) ⟨_, rfl, rfl, Below.refl _ _⟩
    | m + 5, h => exact absurd h (by show ¬ m + 5 < 5; omega)
  intro W f hf htr
  have f0 : f 0 = cuV K1 X1 := hf 0 (by show 0 < 5; omega)
  have f1 : f 1 = .int .i64 p1 := hf 1 (by show 1 < 5; omega)
  have f2 : f 2 = cuV K2 X2 := hf 2 (by show 2 < 5; omega)
  have f3 : f 3 = .int .i64 p2 := hf 3 (by show 3 < 5; omega)
  have f4 : f 4 = .bool (decide (p1 > p2)) := hf 4 (by show 4 < 5; omega)
  refine (show ∀ (a : Act) (w : World), Code.wp _ _ _ a w → _ from by assumption) _ _ ?_
  refine Rv.fin_swap (L' := [(19, f 0), (20, f 1), (21, f 2), (22, f 3), (23, f 4)]) rfl ?_
  rw [f0, f1, f2, f3, f4]
  clear f0 f1 f2 f3 f4
  simp only [Rv.fin, List.foldl_cons, List.foldl_nil, Act.put, List.setIfInBounds_toArray, List.set_cons_succ, List.set_cons_zero]
  have HXW2 := Lib.hid (HXW.out.trans (htr.mono (by omega)))
  have G3 := Lib.hid ((htr.block _ (by omega)).trans H3.out)
  have G4 := Lib.hid ((htr.block _ (by omega)).trans H4.out)
  have GZ := Lib.hid ((htr.block _ (by omega)).trans HZ.out)
  have hsV := Nat.le_trans hsW htr.size
  have hm3 := Nat.lt_of_lt_of_le hl3 htr.size
  have hm4 := Nat.lt_of_lt_of_le hl4 htr.size
  clear htr H3 H4 HZ HXW hsW hl3 hl4
  by_cases h1 : p1 > p2
  · have g1 : decide (p1 > p2) = true := by simp [h1]
    have hR := HR.out
    rw [if_pos h1] at hR
    subst hR
    rw [g1]
    obtain ⟨c0, c1⟩ := Rv.cells2 G3.out
    obtain ⟨d0, d1⟩ := Rv.cells2 G4.out
    obtain ⟨m0, m1⟩ := Rv.frozen2 G3.out
    obtain ⟨l0, l1⟩ := Rv.frozen2 G4.out
    have hne' := Ne.symm hne
    go_upto_region 4 with fail
    have H3 := Lib.hid (((Rv.buts2 g4 _ (.int .i64 K1) (.int .i64 X1)).blk (Rv.sets2 G3.out (.int .i64 K2) (.int .i64 X2)) hne))
    have H4 := Lib.hid (Rv.sets2 ((Rv.buts2 g3 W (.int .i64 K2) (.int .i64 X2)).blk G4.out hne') (.int .i64 K1) (.int .i64 X1))
    have HZ := Lib.hid ((Rv.buts2 g4 _ (.int .i64 K1) (.int .i64 X1)).blk ((Rv.buts2 g3 W (.int .i64 K2) (.int .i64 X2)).blk GZ.out (by omega)) (by omega))
    have HXW := Lib.hid (Rv.belows2 (Rv.belows2 HXW2.out (show w.heap.size ≤ g3 by omega) (.int .i64 K2) (.int .i64 X2)) (show w.heap.size ≤ g4 by omega) (.int .i64 K1) (.int .i64 X1))
    have hsW := Nat.le_trans hsV (Nat.le_trans (Rv.buts2 g3 W (.int .i64 K2) (.int .i64 X2)).1 (Rv.buts2 g4 _ (.int .i64 K1) (.int .i64 X1)).1)
    have hl3 := Rv.lt_of_blk H3.out
    have hl4 := Rv.lt_of_blk H4.out
    clear G3 G4 GZ HXW2 hsV hm3 hm4 c0 c1 d0 d1 m0 m1 l0 l1
    generalize ((((W.setCell ⟨g3, 0, none⟩ (.int .i64 K2)).setCell ⟨g3, 1, none⟩ (.int .i64 X2)).setCell ⟨g4, 0, none⟩ (.int .i64 K1)).setCell ⟨g4, 1, none⟩ (.int .i64 X1)) = X at *
    refine Rv.region_goods (n := 36) (by kernel_rfl) #[26, 27, 28, 29, 30] #[] (fun i v W => v = (#[cuV K2 X2, .int .i64 p2, cuV K1 X1, .int .i64 p1, .bool (p2 == p1)] : Array Value).getD i undef) (fun i v w w' h hb => ?_) (fun i h g b hg => ?_) rfl (by kernel_rfl) (by kernel_rfl) (fun i h hr w => ?_) ?_ ?_
    · exact h
    · match i, h, hg with
      | 0, _, hg => cases hg
      | 1, _, hg => cases hg
      | 2, _, hg => cases hg
      | 3, _, hg => cases hg
      | 4, _, hg => cases hg
      | m + 5, h, _ => exact absurd h (by show ¬ m + 5 < 5; omega)
    · match i, h, hr with
      | 0, _, hr => exact Bool.noConfusion (show true = false from hr)
      | 1, _, hr => exact Bool.noConfusion (show true = false from hr)
      | 2, _, hr => exact Bool.noConfusion (show true = false from hr)
      | 3, _, hr => exact Bool.noConfusion (show true = false from hr)
      | 4, _, hr => exact Bool.noConfusion (show true = false from hr)
      | m + 5, h, _ => exact absurd h (by show ¬ m + 5 < 5; omega)
    · intro i h a W hrun hbase hpre hdep htr
      obtain ⟨n0, n1⟩ := Rv.cells2 ((htr.block _ (by omega)).trans H3.out)
      obtain ⟨r0, r1⟩ := Rv.cells2 ((htr.block _ (by omega)).trans H4.out)
      match i, h with
      | 0, _ =>
        obtain ⟨e3, x3⟩ := Rv.ev (show a.tmps.getD 3 undef = .pointer (some ⟨g3, 0, none⟩) from hbase 3 rfl)
        exact Rv.step_op (op := Go.Op.load 52 (Go.Operand.tmp 3)) (v := cuV K2 X2) (w1 := W) rfl rfl (fun d pos aft g => by unfold execOp; go_simp) ⟨_, rfl, rfl, Below.refl _ _⟩
      | 1, _ =>
        obtain ⟨e26, x26⟩ := Rv.ev (show a.tmps.getD 26 undef = cuV K2 X2 from hdep 0 rfl)
        have cf : ∀ x0 W, (callFunc 45 #[x0]).run Tryz.prog W = .ok (.enter 45 #[x0]) W := fun _ _ => by kernel_rfl
        refine Rv.step_fn (op := Go.Op.call { callee := Go.Callee.value (Go.Operand.func 45), args := #[Go.Operand.tmp 26], argTypes := #[52] }) (f := 45) (args := #[cuV K2 X2]) (R := fun v W' => v = .int .i64 p2 ∧ Below W.heap.size W W') rfl rfl (fun d pos aft g => by unfold execOp; go_simp) ((PB.out W).mono ?_) ?_
        · (rintro e W' ⟨rfl, hb⟩; exact ⟨_, rfl, rfl, hb⟩)
        · (rintro v W' ⟨rfl, hb⟩; exact ⟨_, rfl, rfl, hb⟩)
      | 2, _ =>
        obtain ⟨e4, x4⟩ := Rv.ev (show a.tmps.getD 4 undef = .pointer (some ⟨g4, 0, none⟩) from hbase 4 rfl)
        exact Rv.step_op (op := Go.Op.load 52 (Go.Operand.tmp 4)) (v := cuV K1 X1) (w1 := W) rfl rfl (fun d pos aft g => by unfold execOp; go_simp) ⟨_, rfl, rfl, Below.refl _ _⟩
      | 3, _ =>
        obtain ⟨e28, x28⟩ := Rv.ev (show a.tmps.getD 28 undef = cuV K1 X1 from hdep 2 rfl)
        have cf : ∀ x0 W, (callFunc 45 #[x0]).run Tryz.prog W = .ok (.enter 45 #[x0]) W := fun _ _ => by kernel_rfl
        refine Rv.step_fn (op := Go.Op.call { callee := Go.Callee.value (Go.Operand.func 45), args := #[Go.Operand.tmp 28], argTypes := #[52] }) (f := 45) (args := #[cuV K1 X1]) (R := fun v W' => v = .int .i64 p1 ∧ Below W.heap.size W W') rfl rfl (fun d pos aft g => by unfold execOp; go_simp) ((PA.out W).mono ?_) ?_
        · (rintro e W' ⟨rfl, hb⟩; exact ⟨_, rfl, rfl, hb⟩)
        · (rintro v W' ⟨rfl, hb⟩; exact ⟨_, rfl, rfl, hb⟩)
      | 4, _ =>
        obtain ⟨e27, x27⟩ := Rv.ev (show a.tmps.getD 27 undef = .int .i64 p2 from hdep 1 rfl)
        obtain ⟨e29, x29⟩ := Rv.ev (show a.tmps.getD 29 undef = .int .i64 p1 from hdep 3 rfl)
        exact Rv.step_op (op := Go.Op.binOp Go.BinOp.eql 3 (Go.Operand.tmp 27) (Go.Operand.tmp 29) 3) (v := .bool (p2 == p1)) (w1 := W) rfl rfl (fun d pos aft g => by unfold execOp; go_simp) ⟨_, rfl, rfl, Below.refl _ _⟩
      | m + 5, h => exact absurd h (by show ¬ m + 5 < 5; omega)
    intro W f hf htr
    have f0 : f 0 = cuV K2 X2 := hf 0 (by show 0 < 5; omega)
    have f1 : f 1 = .int .i64 p2 := hf 1 (by show 1 < 5; omega)
    have f2 : f 2 = cuV K1 X1 := hf 2 (by show 2 < 5; omega)
    have f3 : f 3 = .int .i64 p1 := hf 3 (by show 3 < 5; omega)
    have f4 : f 4 = .bool (p2 == p1) := hf 4 (by show 4 < 5; omega)
    refine (show ∀ (a : Act) (w : World), Code.wp _ _ _ a w → _ from by assumption) _ _ ?_
    refine Rv.fin_swap (L' := [(26, f 0), (27, f 1), (28, f 2), (29, f 3), (30, f 4)]) rfl ?_
    rw [f0, f1, f2, f3, f4]
    clear f0 f1 f2 f3 f4
    simp only [Rv.fin, List.foldl_cons, List.foldl_nil, Act.put, List.setIfInBounds_toArray, List.set_cons_succ, List.set_cons_zero]
    have HXW2 := Lib.hid (HXW.out.trans (htr.mono (by omega)))
    have G3 := Lib.hid ((htr.block _ (by omega)).trans H3.out)
    have G4 := Lib.hid ((htr.block _ (by omega)).trans H4.out)
    have GZ := Lib.hid ((htr.block _ (by omega)).trans HZ.out)
    have hsV := Nat.le_trans hsW htr.size
    have hm3 := Nat.lt_of_lt_of_le hl3 htr.size
    have hm4 := Nat.lt_of_lt_of_le hl4 htr.size
    clear htr H3 H4 HZ HXW hsW hl3 hl4
    have g2 : (p2 == p1) = false := by simp; omega
    rw [g2]
    obtain ⟨c0, c1⟩ := Rv.cells2 G3.out
    obtain ⟨d0, d1⟩ := Rv.cells2 G4.out
    obtain ⟨s0, s1, s2, s3⟩ := Rv.cells4 GZ.out
    obtain ⟨t0, t1, t2, t3⟩ := Rv.frozen4 GZ.out
    go_wp2
    refine bodyPost_ret (v := coV K2 X2 K1 X1) ?_ rfl ⟨rfl, ?_⟩
    · simp only [results, show Tryz.f23.results = #[.cell 2 54] by kernel_rfl]; go_simp
    · first | exact Rv.belows4 HXW2.out (Nat.le_succ _) _ _ _ _ | skip
  · have g1 : decide (p1 > p2) = false := by simp [h1]
    have hR := HR.out
    rw [if_neg h1] at hR
    rw [g1]
    go_upto_region 4 with fail
    have H3 := G3
    have H4 := G4
    have HZ := GZ
    have HXW := HXW2
    have hsW := hsV
    have hl3 := hm3
    have hl4 := hm4
    clear G3 G4 GZ HXW2 hsV hm3 hm4
    generalize W = X at *
    refine Rv.region_goods (n := 36) (by kernel_rfl) #[26, 27, 28, 29, 30] #[] (fun i v W => v = (#[cuV K1 X1, .int .i64 p1, cuV K2 X2, .int .i64 p2, .bool (p1 == p2)] : Array Value).getD i undef) (fun i v w w' h hb => ?_) (fun i h g b hg => ?_) rfl (by kernel_rfl) (by kernel_rfl) (fun i h hr w => ?_) ?_ ?_
    · exact h
    · match i, h, hg with
      | 0, _, hg => cases hg
      | 1, _, hg => cases hg
      | 2, _, hg => cases hg
      | 3, _, hg => cases hg
      | 4, _, hg => cases hg
      | m + 5, h, _ => exact absurd h (by show ¬ m + 5 < 5; omega)
    · match i, h, hr with
      | 0, _, hr => exact Bool.noConfusion (show true = false from hr)
      | 1, _, hr => exact Bool.noConfusion (show true = false from hr)
      | 2, _, hr => exact Bool.noConfusion (show true = false from hr)
      | 3, _, hr => exact Bool.noConfusion (show true = false from hr)
      | 4, _, hr => exact Bool.noConfusion (show true = false from hr)
      | m + 5, h, _ => exact absurd h (by show ¬ m + 5 < 5; omega)
    · intro i h a W hrun hbase hpre hdep htr
      obtain ⟨n0, n1⟩ := Rv.cells2 ((htr.block _ (by omega)).trans H3.out)
      obtain ⟨r0, r1⟩ := Rv.cells2 ((htr.block _ (by omega)).trans H4.out)
      match i, h with
      | 0, _ =>
        obtain ⟨e3, x3⟩ := Rv.ev (show a.tmps.getD 3 undef = .pointer (some ⟨g3, 0, none⟩) from hbase 3 rfl)
        exact Rv.step_op (op := Go.Op.load 52 (Go.Operand.tmp 3)) (v := cuV K1 X1) (w1 := W) rfl rfl (fun d pos aft g => by unfold execOp; go_simp) ⟨_, rfl, rfl, Below.refl _ _⟩
      | 1, _ =>
        obtain ⟨e26, x26⟩ := Rv.ev (show a.tmps.getD 26 undef = cuV K1 X1 from hdep 0 rfl)
        have cf : ∀ x0 W, (callFunc 45 #[x0]).run Tryz.prog W = .ok (.enter 45 #[x0]) W := fun _ _ => by kernel_rfl
        refine Rv.step_fn (op := Go.Op.call { callee := Go.Callee.value (Go.Operand.func 45), args := #[Go.Operand.tmp 26], argTypes := #[52] }) (f := 45) (args := #[cuV K1 X1]) (R := fun v W' => v = .int .i64 p1 ∧ Below W.heap.size W W') rfl rfl (fun d pos aft g => by unfold execOp; go_simp) ((PA.out W).mono ?_) ?_
        · (rintro e W' ⟨rfl, hb⟩; exact ⟨_, rfl, rfl, hb⟩)
        · (rintro v W' ⟨rfl, hb⟩; exact ⟨_, rfl, rfl, hb⟩)
      | 2, _ =>
        obtain ⟨e4, x4⟩ := Rv.ev (show a.tmps.getD 4 undef = .pointer (some ⟨g4, 0, none⟩) from hbase 4 rfl)
        exact Rv.step_op (op := Go.Op.load 52 (Go.Operand.tmp 4)) (v := cuV K2 X2) (w1 := W) rfl rfl (fun d pos aft g => by unfold execOp; go_simp) ⟨_, rfl, rfl, Below.refl _ _⟩
      | 3, _ =>
        obtain ⟨e28, x28⟩ := Rv.ev (show a.tmps.getD 28 undef = cuV K2 X2 from hdep 2 rfl)
        have cf : ∀ x0 W, (callFunc 45 #[x0]).run Tryz.prog W = .ok (.enter 45 #[x0]) W := fun _ _ => by kernel_rfl
        refine Rv.step_fn (op := Go.Op.call { callee := Go.Callee.value (Go.Operand.func 45), args := #[Go.Operand.tmp 28], argTypes := #[52] }) (f := 45) (args := #[cuV K2 X2]) (R := fun v W' => v = .int .i64 p2 ∧ Below W.heap.size W W') rfl rfl (fun d pos aft g => by unfold execOp; go_simp) ((PB.out W).mono ?_) ?_
        · (rintro e W' ⟨rfl, hb⟩; exact ⟨_, rfl, rfl, hb⟩)
        · (rintro v W' ⟨rfl, hb⟩; exact ⟨_, rfl, rfl, hb⟩)
      | 4, _ =>
        obtain ⟨e27, x27⟩ := Rv.ev (show a.tmps.getD 27 undef = .int .i64 p1 from hdep 1 rfl)
        obtain ⟨e29, x29⟩ := Rv.ev (show a.tmps.getD 29 undef = .int .i64 p2 from hdep 3 rfl)
        exact Rv.step_op (op := Go.Op.binOp Go.BinOp.eql 3 (Go.Operand.tmp 27) (Go.Operand.tmp 29) 3) (v := .bool (p1 == p2)) (w1 := W) rfl rfl (fun d pos aft g => by unfold execOp; go_simp) ⟨_, rfl, rfl, Below.refl _ _⟩
      | m + 5, h => exact absurd h (by show ¬ m + 5 < 5; omega)
    intro W f hf htr
    have f0 : f 0 = cuV K1 X1 := hf 0 (by show 0 < 5; omega)
    have f1 : f 1 = .int .i64 p1 := hf 1 (by show 1 < 5; omega)
    have f2 : f 2 = cuV K2 X2 := hf 2 (by show 2 < 5; omega)
    have f3 : f 3 = .int .i64 p2 := hf 3 (by show 3 < 5; omega)
    have f4 : f 4 = .bool (p1 == p2) := hf 4 (by show 4 < 5; omega)
    refine (show ∀ (a : Act) (w : World), Code.wp _ _ _ a w → _ from by assumption) _ _ ?_
    refine Rv.fin_swap (L' := [(26, f 0), (27, f 1), (28, f 2), (29, f 3), (30, f 4)]) rfl ?_
    rw [f0, f1, f2, f3, f4]
    clear f0 f1 f2 f3 f4
    simp only [Rv.fin, List.foldl_cons, List.foldl_nil, Act.put, List.setIfInBounds_toArray, List.set_cons_succ, List.set_cons_zero]
    have HXW2 := Lib.hid (HXW.out.trans (htr.mono (by omega)))
    have G3 := Lib.hid ((htr.block _ (by omega)).trans H3.out)
    have G4 := Lib.hid ((htr.block _ (by omega)).trans H4.out)
    have GZ := Lib.hid ((htr.block _ (by omega)).trans HZ.out)
    have hsV := Nat.le_trans hsW htr.size
    have hm3 := Nat.lt_of_lt_of_le hl3 htr.size
    have hm4 := Nat.lt_of_lt_of_le hl4 htr.size
    clear htr H3 H4 HZ HXW hsW hl3 hl4
    by_cases h2 : p1 = p2
    · rw [if_pos h2] at hR
      subst hR
      have g2 : (p1 == p2) = true := by simp [h2]
      rw [g2]
      obtain ⟨c0, c1⟩ := Rv.cells2 G3.out
      obtain ⟨d0, d1⟩ := Rv.cells2 G4.out
      obtain ⟨s0, s1, s2, s3⟩ := Rv.cells4 GZ.out
      obtain ⟨t0, t1, t2, t3⟩ := Rv.frozen4 GZ.out
      go_wp2
      refine bodyPost_ret (v := coV 0 0 4 0) ?_ rfl ⟨rfl, ?_⟩
      · simp only [results, show Tryz.f23.results = #[.cell 2 54] by kernel_rfl]; go_simp
      · first | exact Rv.belows4 HXW2.out (Nat.le_succ _) _ _ _ _ | skip
    · rw [if_neg h2] at hR
      subst hR
      have g2 : (p1 == p2) = false := by simp [h2]
      rw [g2]
      obtain ⟨c0, c1⟩ := Rv.cells2 G3.out
      obtain ⟨d0, d1⟩ := Rv.cells2 G4.out
      obtain ⟨s0, s1, s2, s3⟩ := Rv.cells4 GZ.out
      obtain ⟨t0, t1, t2, t3⟩ := Rv.frozen4 GZ.out
      go_wp2
      refine bodyPost_ret (v := coV K1 X1 K2 X2) ?_ rfl ⟨rfl, ?_⟩
      · simp only [results, show Tryz.f23.results = #[.cell 2 54] by kernel_rfl]; go_simp
      · first | exact Rv.belows4 HXW2.out (Nat.le_succ _) _ _ _ _ | skip
end Go.Proofs.YtfnogpelaoofbaaGreatDoor.Rg

/- FnRGMeets: for whatever two ranges the law returns true. Conditions: those written at each lemma. -/
import Derived.Test.YtfnogpelaoofbaaDoorOvf
set_option linter.unusedVariables false
set_option linter.unusedSimpArgs false
set_option maxRecDepth 100000
set_option maxHeartbeats 4000000
namespace Go.Proofs.YtfnogpelaoofbaaDoor.Rg
open Go.RowKit Go.Proofs.YtfnogpelaoofbaaDoor.B Go.Proofs.YtfnogpelaoofbaaDoor.Sp

abbrev cl4 (c : Cl) : Obj := .cells #[.int .i64 c.a, .int .i64 c.x, .int .i64 c.b, .int .i64 c.y] 27
theorem blk_keep {W W1 : World} {g : Nat} {o : Obj} (h : W.heap[g]? = some o) (hb : Below W.heap.size W W1) : W1.heap[g]? = some o := (hb.block _ (Rv.lt_of_blk h)).trans h
/-- Ranges that lie in blocks of their own. -/
def Ms (B : Nat) (w W : World) (L : List (Nat × Cl)) : Prop := (∀ p ∈ L, W.heap[p.1]? = some (cl4 p.2)) ∧ Below B w W ∧ B ≤ W.heap.size
theorem Ms.keep {B : Nat} {w W W1 : World} {L : List (Nat × Cl)} (h : Ms B w W L) (hb : Below W.heap.size W W1) : Ms B w W1 L :=
  ⟨fun p hp => blk_keep (h.1 p hp) hb, h.2.1.trans (hb.mono h.2.2), Nat.le_trans h.2.2 hb.size⟩
theorem Ms.push {B : Nat} {w W : World} {L : List (Nat × Cl)} (h : Ms B w W L) (c : Cl) : Ms B w (W.alloc (cl4 c)) ((W.heap.size, c) :: L) := by
  have k := h.keep ((Below.refl _ _).alloc (Nat.le_refl _) (cl4 c))
  refine ⟨fun p hp => ?_, k.2⟩
  rcases List.mem_cons.1 hp with rfl | hp
  · exact heap_alloc_new _ _
  · exact k.1 p hp
theorem Ms.get {B : Nat} {w W : World} {L : List (Nat × Cl)} (h : Ms B w W L) (g : Nat) (c : Cl) (hm : (g, c) ∈ L) :
    W.cell? ⟨g, 0, none⟩ = some (.int .i64 c.a) ∧ W.cell? ⟨g, 1, none⟩ = some (.int .i64 c.x) ∧ W.cell? ⟨g, 2, none⟩ = some (.int .i64 c.b) ∧ W.cell? ⟨g, 3, none⟩ = some (.int .i64 c.y) ∧ g < W.heap.size := by
  have hb := h.1 _ hm
  obtain ⟨a, b, c, d⟩ := Rv.cells4 hb
  exact ⟨a, b, c, d, Rv.lt_of_blk hb⟩
theorem law5 (c1 c2 : Cl) (w : World) : Calls Tryd.prog 5 #[c1.v, c2.v] w fun e w' => e = .returned (.bool true) ∧ Below w.heap.size w w' := by
  have C1 := Lib.hid (fun W => full_any c1 W)
  have C2 := Lib.hid (fun W => full_any c2 W)
  have HA := full_ful c1
  have HC := full_ful c2
  generalize full c1 = A at *
  generalize full c2 = C at *
  have ha := ful_pcl HA
  have hc := ful_pcl HC
  have hm := mtc_pos ha hc
  have ME := Lib.hid (fun W => meet_cl A C W ha hc)
  have OV := Lib.hid (fun W => overlaps_cl A C W HA HC)
  have IN := Lib.hid (fun W => intersect_cl A C W ha hc)
  have IS := Lib.hid (fun W => intersect_cl A A W ha ha)
  have NO := Lib.hid (fun W => none_cl (mtc A C) W hm)
  have SX := Lib.hid (fun W => same_cl (rs A C) (mtc A C) W (rs_pcl ha hc) hm)
  have SA := Lib.hid (fun W => same_cl A A W ha ha)
  rw [sameC_rs] at SX
  rw [sameC_self] at SA
  rw [show rs A A = A by rw [rs_yes (by rw [mtc_self]; exact HA.2.2), mtc_self], mtc_self, show decide (A.lo < A.hi) = true by simpa using HA.2.2] at IS
  have HL : Hid (decide ((mtc A C).hi ≤ (mtc A C).lo) = !decide ((mtc A C).lo < (mtc A C).hi)) := Lib.hid (by by_cases h : (mtc A C).lo < (mtc A C).hi <;> simp [h] <;> omega)
  rw [HL.out] at NO
  obtain ⟨yes, hyes⟩ : ∃ yes, decide ((mtc A C).lo < (mtc A C).hi) = yes := ⟨_, rfl⟩
  rw [hyes] at NO OV IN
  clear HL hyes
  generalize rs A C = R at *
  generalize mtc A C = M at *
  clear HA HC ha hc hm
  have HX : Hid (Below w.heap.size w ((w.alloc (cl4 c1)).alloc (cl4 c2))) := Lib.hid (by go_grown)
  have HB2 : Hid (((w.alloc (cl4 c1)).alloc (cl4 c2)).heap[w.heap.size]? = some (cl4 c1) ∧ ((w.alloc (cl4 c1)).alloc (cl4 c2)).heap[w.heap.size + 1]? = some (cl4 c2) ∧ ((w.alloc (cl4 c1)).alloc (cl4 c2)).heap.size = w.heap.size + 1 + 1) := Lib.hid ⟨heap_old (heap_alloc_new _ _), by
    have e1 : (w.alloc (cl4 c1)).heap.size = w.heap.size + 1 := by simp
    rw [← e1]; exact heap_alloc_new _ _, by simp⟩
  go_enter Tryd.func5, Tryd.ntmps5
  go_upto_region 1 with fail
  generalize ((w.alloc (cl4 c1)).alloc (cl4 c2)) = X at *
  have hsz := HB2.out.2.2
  refine Rv.region_fin (n := 86) (by kernel_rfl) #[17, 18, 19, 20, 5, 6, 1006, 1007] #[] (fun i f W => if i = 7 then (fun f W => ∃ g, f 5 = .pointer (some ⟨g, 0, none⟩) ∧ W.heap[g]? = some (.cells #[.int .i64 C.a, .int .i64 C.x, .int .i64 C.b, .int .i64 C.y] 27 (0, 0))) f W else if i = 5 then (fun f W => ∃ g, f 5 = .pointer (some ⟨g, 0, none⟩) ∧ W.heap[g]? = some (.cells #[.int .i64 0, .int .i64 0, .int .i64 0, .int .i64 0] 27 (0, 0))) f W else if i = 6 then (fun f W => ∃ g, f 4 = .pointer (some ⟨g, 0, none⟩) ∧ W.heap[g]? = some (.cells #[.int .i64 A.a, .int .i64 A.x, .int .i64 A.b, .int .i64 A.y] 27 (0, 0))) f W else if i = 4 then (fun f W => ∃ g, f 4 = .pointer (some ⟨g, 0, none⟩) ∧ W.heap[g]? = some (.cells #[.int .i64 0, .int .i64 0, .int .i64 0, .int .i64 0] 27 (0, 0))) f W else f i = (#[c1.v, A.v, c2.v, C.v, undef, undef, undef, undef] : Array Value).getD i undef) (fun i j => (i == 6 && (j == 4)) || (i == 7 && (j == 4 || j == 5))) (fun i => i == 6 || i == 7) (fun i f W W' => if i = 7 then (fun f W W' => f 4 ≠ f 5 ∧ ∃ g, f 5 = .pointer (some ⟨g, 0, none⟩) ∧ Rv.But g W W') f W W' else if i = 6 then (fun f W W' => f 4 ≠ f 5 ∧ ∃ g, f 4 = .pointer (some ⟨g, 0, none⟩) ∧ Rv.But g W W') f W W' else True) (fun W => Below X.heap.size X W) (fun _ => True) (Rv.Two 4 5 X.heap.size) (Rv.Two.loc (by show 4 < 8; omega) (by show 5 < 8; omega)) (fun i f f' w hi h hd hg => ?_) (fun i j f w w' hi hj hij hK hdp h hr => ?_) (fun i h g b hg => ?_) rfl (by kernel_rfl) (fun i h g b hg => ?_) ((Below.refl _ _).drew) (trivial) (fun f => Rv.Two.start) (fun i h hr f w hf => ?_) (fun i h hr => absurd hr (Rv.allrun (by kernel_rfl) i h)) ?_ ?_
  · by_cases hi1007 : i = 7
    · subst hi1007
      rw [if_pos rfl] at hg ⊢
      obtain ⟨g, q1, q2⟩ := hg
      exact ⟨g, (hd 5 rfl).symm.trans q1, q2⟩
    rw [if_neg hi1007] at hg ⊢
    by_cases hi6 : i = 5
    · subst hi6
      rw [if_pos rfl] at hg ⊢
      obtain ⟨g, q1, q2⟩ := hg
      exact ⟨g, h.symm.trans q1, q2⟩
    rw [if_neg hi6] at hg ⊢
    by_cases hi1006 : i = 6
    · subst hi1006
      rw [if_pos rfl] at hg ⊢
      obtain ⟨g, q1, q2⟩ := hg
      exact ⟨g, (hd 4 rfl).symm.trans q1, q2⟩
    rw [if_neg hi1006] at hg ⊢
    by_cases hi5 : i = 4
    · subst hi5
      rw [if_pos rfl] at hg ⊢
      obtain ⟨g, q1, q2⟩ := hg
      exact ⟨g, h.symm.trans q1, q2⟩
    rw [if_neg hi5] at hg ⊢
    rw [← h]; exact hg
  · by_cases hj1007 : j = 7
    · subst hj1007
      rw [if_pos rfl] at h ⊢
      rcases hr with ⟨hK1, hr⟩ | hr
      · exfalso
        have e11 : i = 6 := by simpa [hij] using hK1
        subst e11
        revert hdp
        decide
      · obtain ⟨g, e, hb⟩ := h
        exact ⟨g, e, (hr.block _ (Rv.lt_of_blk hb)).trans hb⟩
    rw [if_neg hj1007] at h ⊢
    by_cases hj6 : j = 5
    · subst hj6
      rw [if_pos rfl] at h ⊢
      rcases hr with ⟨hK1, hr⟩ | hr
      · have hi2 : i = 6 ∨ i = 7 := by simpa using hK1
        rcases hi2 with e | e
        · subst e
          obtain ⟨hne, g', hp, hbut⟩ := (show f 4 ≠ f 5 ∧ ∃ g, f 4 = .pointer (some ⟨g, 0, none⟩) ∧ Rv.But g w w' from hr)
          obtain ⟨g, e1, hb⟩ := h
          exact ⟨g, e1, hbut.blk hb (fun e3 => hne (by rw [e1, hp, e3]))⟩
        · exfalso
          subst e
          revert hK
          decide
      · obtain ⟨g, e, hb⟩ := h
        exact ⟨g, e, (hr.block _ (Rv.lt_of_blk hb)).trans hb⟩
    rw [if_neg hj6] at h ⊢
    by_cases hj1006 : j = 6
    · subst hj1006
      rw [if_pos rfl] at h ⊢
      rcases hr with ⟨hK1, hr⟩ | hr
      · have e12 : i = 7 := by simpa [hij] using hK1
        subst e12
        obtain ⟨hne, g', hp, hbut⟩ := (show f 4 ≠ f 5 ∧ ∃ g, f 5 = .pointer (some ⟨g, 0, none⟩) ∧ Rv.But g w w' from hr)
        obtain ⟨g, e1, hb⟩ := h
        exact ⟨g, e1, hbut.blk hb (fun e3 => hne (by rw [e1, hp, e3]))⟩
      · obtain ⟨g, e, hb⟩ := h
        exact ⟨g, e, (hr.block _ (Rv.lt_of_blk hb)).trans hb⟩
    rw [if_neg hj1006] at h ⊢
    by_cases hj5 : j = 4
    · subst hj5
      rw [if_pos rfl] at h ⊢
      rcases hr with ⟨hK1, hr⟩ | hr
      · exfalso
        have hi2 : i = 6 ∨ i = 7 := by simpa using hK1
        rcases hi2 with e | e <;> (subst e; revert hK; decide)
      · obtain ⟨g, e, hb⟩ := h
        exact ⟨g, e, (hr.block _ (Rv.lt_of_blk hb)).trans hb⟩
    rw [if_neg hj5] at h ⊢
    exact h
  · match i, h, hg with
    | 0, _, hg => cases hg
    | 1, _, hg => cases hg
    | 2, _, hg => cases hg
    | 3, _, hg => cases hg
    | 4, _, hg => cases hg
    | 5, _, hg => cases hg
    | 6, _, hg => cases hg
    | 7, _, hg => cases hg
    | m + 8, h, _ => exact absurd h (by show ¬ m + 8 < 8; omega)
  · match i, h, hg with
    | 0, _, hg => cases hg
    | 1, _, hg => cases hg
    | 2, _, hg => cases hg
    | 3, _, hg => cases hg
    | 4, _, hg => cases hg
    | 5, _, hg => cases hg
    | 6, _, hg => cases hg
    | 7, _, hg => cases hg
    | m + 8, h, _ => exact absurd h (by show ¬ m + 8 < 8; omega)
  · match i, h, hr, hf with
    | 0, _, hr, _ => exact Bool.noConfusion (show true = false from hr)
    | 1, _, hr, _ => exact Bool.noConfusion (show true = false from hr)
    | 2, _, hr, _ => exact Bool.noConfusion (show true = false from hr)
    | 3, _, hr, _ => exact Bool.noConfusion (show true = false from hr)
    | 4, _, hr, _ => exact Bool.noConfusion (show true = false from hr)
    | 5, _, hr, _ => exact Bool.noConfusion (show true = false from hr)
    | 6, _, hr, _ => exact Bool.noConfusion (show true = false from hr)
    | 7, _, hr, _ => exact Bool.noConfusion (show true = false from hr)
    | m + 8, h, _, _ => exact absurd h (by show ¬ m + 8 < 8; omega)
  · intro i h a W hrun hbase hpre hdep htr hta hJ
    obtain ⟨n0, n1, n2, n3⟩ := Rv.cells4 ((htr.block _ (by omega)).trans HB2.out.1)
    obtain ⟨r0, r1, r2, r3⟩ := Rv.cells4 ((htr.block _ (by omega)).trans HB2.out.2.1)
    match i, h with
    | 0, _ =>
      obtain ⟨e2, x2⟩ := Rv.ev (show a.tmps.getD 2 undef = .pointer (some ⟨w.heap.size, 0, none⟩) from hbase 2 rfl)
      exact Rv.step_op (op := Go.Op.load 27 (Go.Operand.tmp 2)) (v := c1.v) (w1 := W) rfl rfl (fun d pos aft g => by unfold execOp; go_simp) ⟨_, rfl, rfl, .inr (Below.refl _ _), htr, fun _ ht => ht, fun L _ hJ => Rv.Two.keep (by decide) (by decide) _ (Nat.le_refl _) hJ⟩
    | 1, _ =>
      obtain ⟨e17, x17⟩ := Rv.ev (show a.tmps.getD 17 undef = c1.v from hdep 0 rfl rfl)
      have cf : ∀ x0 W, (callFunc 17 #[x0]).run Tryd.prog W = .ok (.enter 17 #[x0]) W := fun _ _ => by kernel_rfl
      refine Rv.step_fn (op := Go.Op.call { callee := Go.Callee.value (Go.Operand.func 17), args := #[Go.Operand.tmp 17], argTypes := #[27] }) (f := 17) (args := #[c1.v]) (R := fun v W' => v = A.v ∧ Below W.heap.size W W') rfl rfl (fun d pos aft g => by unfold execOp; go_simp) ((C1.out W).mono ?_) ?_
      · (rintro e W' ⟨rfl, hb⟩; exact ⟨_, rfl, rfl, hb⟩)
      · (rintro v W' ⟨rfl, hb⟩; exact ⟨_, rfl, rfl, .inr hb, (fun W W' ht hb => ht.trans (hb.mono ht.size)) W W' htr hb, fun _ ht => (fun _ _ _ _ => trivial) W W' ht hb, fun L _ hJ => Rv.Two.keep (by decide) (by decide) _ (hb.size) hJ⟩)
    | 2, _ =>
      obtain ⟨e3, x3⟩ := Rv.ev (show a.tmps.getD 3 undef = .pointer (some ⟨w.heap.size + 1, 0, none⟩) from hbase 3 rfl)
      exact Rv.step_op (op := Go.Op.load 27 (Go.Operand.tmp 3)) (v := c2.v) (w1 := W) rfl rfl (fun d pos aft g => by unfold execOp; go_simp) ⟨_, rfl, rfl, .inr (Below.refl _ _), htr, fun _ ht => ht, fun L _ hJ => Rv.Two.keep (by decide) (by decide) _ (Nat.le_refl _) hJ⟩
    | 3, _ =>
      obtain ⟨e19, x19⟩ := Rv.ev (show a.tmps.getD 19 undef = c2.v from hdep 2 rfl rfl)
      have cf : ∀ x0 W, (callFunc 17 #[x0]).run Tryd.prog W = .ok (.enter 17 #[x0]) W := fun _ _ => by kernel_rfl
      refine Rv.step_fn (op := Go.Op.call { callee := Go.Callee.value (Go.Operand.func 17), args := #[Go.Operand.tmp 19], argTypes := #[27] }) (f := 17) (args := #[c2.v]) (R := fun v W' => v = C.v ∧ Below W.heap.size W W') rfl rfl (fun d pos aft g => by unfold execOp; go_simp) ((C2.out W).mono ?_) ?_
      · (rintro e W' ⟨rfl, hb⟩; exact ⟨_, rfl, rfl, hb⟩)
      · (rintro v W' ⟨rfl, hb⟩; exact ⟨_, rfl, rfl, .inr hb, (fun W W' ht hb => ht.trans (hb.mono ht.size)) W W' htr hb, fun _ ht => (fun _ _ _ _ => trivial) W W' ht hb, fun L _ hJ => Rv.Two.keep (by decide) (by decide) _ (hb.size) hJ⟩)
    | 4, _ =>
      have hal : Below W.heap.size W (W.alloc (.cells #[.int .i64 0, .int .i64 0, .int .i64 0, .int .i64 0] 27)) := (Below.refl _ _).alloc (Nat.le_refl _) _
      exact Rv.step_op (op := Go.Op.alloc 27) (ty := 0) (v := .pointer (some ⟨W.heap.size, 0, none⟩)) (w1 := W.alloc (.cells #[.int .i64 0, .int .i64 0, .int .i64 0, .int .i64 0] 27)) rfl rfl (fun d pos aft g => by unfold execOp; go_simp) ⟨_, rfl, ⟨W.heap.size, rfl, heap_alloc_new W _⟩, .inr hal, htr.trans (hal.mono htr.size), fun _ ht => ht, fun L _ hJ => Rv.Two.fst (by decide) htr.size (by simp) hJ⟩
    | 5, _ =>
      have hal : Below W.heap.size W (W.alloc (.cells #[.int .i64 0, .int .i64 0, .int .i64 0, .int .i64 0] 27)) := (Below.refl _ _).alloc (Nat.le_refl _) _
      exact Rv.step_op (op := Go.Op.alloc 27) (ty := 0) (v := .pointer (some ⟨W.heap.size, 0, none⟩)) (w1 := W.alloc (.cells #[.int .i64 0, .int .i64 0, .int .i64 0, .int .i64 0] 27)) rfl rfl (fun d pos aft g => by unfold execOp; go_simp) ⟨_, rfl, ⟨W.heap.size, rfl, heap_alloc_new W _⟩, .inr hal, htr.trans (hal.mono htr.size), fun _ ht => ht, fun L _ hJ => Rv.Two.snd (by decide) htr.size (by simp) hJ⟩
    | 6, _ =>
      obtain ⟨g5, e5', h5⟩ : ∃ g, a.tmps.getD 5 undef = .pointer (some ⟨g, 0, none⟩) ∧ W.heap[g]? = some (.cells #[.int .i64 0, .int .i64 0, .int .i64 0, .int .i64 0] 27 (0, 0)) := hdep 4 rfl rfl
      obtain ⟨e5, x5⟩ := Rv.ev e5'
      obtain ⟨e18, x18⟩ := Rv.ev (show a.tmps.getD 18 undef = A.v from hdep 1 rfl rfl)
      obtain ⟨L, _, hL, hJ2⟩ := hJ
      have hne := hJ2.2.2 (hL 4 rfl) (hL 5 rfl)
      have hge : X.heap.size ≤ g5 := by
        obtain ⟨g, eg, hge, _⟩ := hJ2.1 (hL 4 rfl)
        have eg2 : Value.pointer (some ⟨g, 0, none⟩) = .pointer (some ⟨g5, 0, none⟩) := eg.symm.trans e5'
        injection eg2 with eg2
        injection eg2 with eg2
        injection eg2 with eg2
        omega
      obtain ⟨k0, k1, k2, k3⟩ := Rv.cells4 h5
      obtain ⟨m0, m1, m2, m3⟩ := Rv.frozen4 h5
      exact Rv.step_skip (op := Go.Op.store 27 (Go.Operand.tmp 5) (Go.Operand.tmp 18)) (ty := 0) (w1 := ((((W.setCell ⟨g5, 0, none⟩ (.int .i64 A.a)).setCell ⟨g5, 1, none⟩ (.int .i64 A.x)).setCell ⟨g5, 2, none⟩ (.int .i64 A.b)).setCell ⟨g5, 3, none⟩ (.int .i64 A.y))) rfl rfl (fun d pos aft g => by unfold execOp; go_simp) ⟨undef, rfl, ⟨g5, e5', Rv.sets4 h5 _ _ _ _⟩, .inl ⟨rfl, hne, g5, e5', Rv.buts4 g5 W _ _ _ _⟩, Rv.belows4 htr hge _ _ _ _, (fun h _ => by cases h), fun L _ hJ => Rv.Two.keep (by decide) (by decide) _ ((Rv.buts4 g5 W _ _ _ _).1) hJ⟩
    | 7, _ =>
      obtain ⟨g6, e6', h6⟩ : ∃ g, a.tmps.getD 6 undef = .pointer (some ⟨g, 0, none⟩) ∧ W.heap[g]? = some (.cells #[.int .i64 0, .int .i64 0, .int .i64 0, .int .i64 0] 27 (0, 0)) := hdep 5 rfl rfl
      obtain ⟨e6, x6⟩ := Rv.ev e6'
      obtain ⟨e20, x20⟩ := Rv.ev (show a.tmps.getD 20 undef = C.v from hdep 3 rfl rfl)
      obtain ⟨L, _, hL, hJ2⟩ := hJ
      have hne := hJ2.2.2 (hL 4 rfl) (hL 5 rfl)
      have hge : X.heap.size ≤ g6 := by
        obtain ⟨g, eg, hge, _⟩ := hJ2.2.1 (hL 5 rfl)
        have eg2 : Value.pointer (some ⟨g, 0, none⟩) = .pointer (some ⟨g6, 0, none⟩) := eg.symm.trans e6'
        injection eg2 with eg2
        injection eg2 with eg2
        injection eg2 with eg2
        omega
      obtain ⟨k0, k1, k2, k3⟩ := Rv.cells4 h6
      obtain ⟨m0, m1, m2, m3⟩ := Rv.frozen4 h6
      exact Rv.step_skip (op := Go.Op.store 27 (Go.Operand.tmp 6) (Go.Operand.tmp 20)) (ty := 0) (w1 := ((((W.setCell ⟨g6, 0, none⟩ (.int .i64 C.a)).setCell ⟨g6, 1, none⟩ (.int .i64 C.x)).setCell ⟨g6, 2, none⟩ (.int .i64 C.b)).setCell ⟨g6, 3, none⟩ (.int .i64 C.y))) rfl rfl (fun d pos aft g => by unfold execOp; go_simp) ⟨undef, rfl, ⟨g6, e6', Rv.sets4 h6 _ _ _ _⟩, .inl ⟨rfl, hne, g6, e6', Rv.buts4 g6 W _ _ _ _⟩, Rv.belows4 htr hge _ _ _ _, (fun h _ => by cases h), fun L _ hJ => Rv.Two.keep (by decide) (by decide) _ ((Rv.buts4 g6 W _ _ _ _).1) hJ⟩
    | m + 8, h => exact absurd h (by show ¬ m + 8 < 8; omega)
  intro W f hf htr hJ
  have f0 : f 0 = c1.v := hf 0 (by show 0 < 8; omega) rfl
  have f1 : f 1 = A.v := hf 1 (by show 1 < 8; omega) rfl
  have f2 : f 2 = c2.v := hf 2 (by show 2 < 8; omega) rfl
  have f3 : f 3 = C.v := hf 3 (by show 3 < 8; omega) rfl
  have HS6 := Lib.hid (show (fun f W => ∃ g, f 4 = .pointer (some ⟨g, 0, none⟩) ∧ W.heap[g]? = some (.cells #[.int .i64 A.a, .int .i64 A.x, .int .i64 A.b, .int .i64 A.y] 27 (0, 0))) f W from hf 6 (by show 6 < 8; omega) rfl)
  have HS7 := Lib.hid (show (fun f W => ∃ g, f 5 = .pointer (some ⟨g, 0, none⟩) ∧ W.heap[g]? = some (.cells #[.int .i64 C.a, .int .i64 C.x, .int .i64 C.b, .int .i64 C.y] 27 (0, 0))) f W from hf 7 (by show 7 < 8; omega) rfl)
  clear hf
  refine (show ∀ (a : Act) (w : World), Code.wp _ _ _ a w → _ from by assumption) _ _ ?_
  refine Rv.fin_swap (L' := [(17, f 0), (18, f 1), (19, f 2), (20, f 3), (5, f 4), (6, f 5), (1006, f 6), (1007, f 7)]) rfl ?_
  rw [f0, f1, f2, f3]
  clear f0 f1 f2 f3
  simp only [Rv.fin, List.foldl_cons, List.foldl_nil, Act.put, List.setIfInBounds_toArray, List.set_cons_succ, List.set_cons_zero, List.set_nil]
  obtain ⟨g5, e4, hg5⟩ := HS6.out
  obtain ⟨g6, e5, hg6⟩ := HS7.out
  rw [e4, e5]
  clear e4 e5 HS6 HS7 hJ
  have hs1 : w.heap.size ≤ W.heap.size := by have := htr.size; omega
  have MM1 : Hid (Ms w.heap.size w W [(g5, A), (g6, C)]) := Lib.hid ⟨fun p hp => by
    rcases List.mem_cons.1 hp with rfl | hp
    · exact hg5
    · obtain rfl := List.mem_singleton.1 hp
      exact hg6, HX.out.trans (htr.mono (by omega)), hs1⟩
  obtain ⟨a1_0, b1_0, c1_0, d1_0, l1_0⟩ := MM1.out.get g6 C (by simp)
  obtain ⟨a1_1, b1_1, c1_1, d1_1, l1_1⟩ := MM1.out.get g5 A (by simp)
  clear htr HX HB2 hg5 hg6 hsz C1 C2 hs1
  generalize W = W1 at *
  cases yes
  · have tok1 : True := trivial
    go_wp2_with (first
      | (go_at_call 18; (with_reducible refine (ME.out _).mono ?_); rintro e W2 ⟨rfl, hb2⟩; have MM2 := Lib.hid (MM1.out.keep hb2); clear hb2 a1_0 b1_0 c1_0 d1_0 l1_0 a1_1 b1_1 c1_1 d1_1 l1_1; obtain ⟨a2_0, b2_0, c2_0, d2_0, l2_0⟩ := MM2.out.get (g6) C (by simp); obtain ⟨a2_1, b2_1, c2_1, d2_1, l2_1⟩ := MM2.out.get (g5) A (by simp))
      | (go_at_call 19; (with_reducible refine (OV.out _).mono ?_); rintro e W3 ⟨rfl, hb3⟩; have MM3 := Lib.hid ((MM2.out.push M).keep hb3); clear hb3 a2_0 b2_0 c2_0 d2_0 l2_0 a2_1 b2_1 c2_1 d2_1 l2_1; obtain ⟨a3_0, b3_0, c3_0, d3_0, l3_0⟩ := MM3.out.get (g6) C (by simp); obtain ⟨a3_1, b3_1, c3_1, d3_1, l3_1⟩ := MM3.out.get (g5) A (by simp); obtain ⟨a3_2, b3_2, c3_2, d3_2, l3_2⟩ := MM3.out.get (W2.heap.size) M (by simp))
      | (go_at_call 20; (with_reducible refine (IN.out _).mono ?_); rintro e W4 ⟨rfl, hb4⟩; have MM4 := Lib.hid ((MM3.out.push R).keep hb4); clear hb4 a3_0 b3_0 c3_0 d3_0 l3_0 a3_1 b3_1 c3_1 d3_1 l3_1 a3_2 b3_2 c3_2 d3_2 l3_2; obtain ⟨a4_0, b4_0, c4_0, d4_0, l4_0⟩ := MM4.out.get (g6) C (by simp); obtain ⟨a4_1, b4_1, c4_1, d4_1, l4_1⟩ := MM4.out.get (g5) A (by simp); obtain ⟨a4_2, b4_2, c4_2, d4_2, l4_2⟩ := MM4.out.get (W2.heap.size) M (by simp); obtain ⟨a4_3, b4_3, c4_3, d4_3, l4_3⟩ := MM4.out.get (W3.heap.size) R (by simp))
      | (go_at_call 20; (with_reducible refine (IS.out _).mono ?_); rintro e W5 ⟨rfl, hb5⟩; have MM5 := Lib.hid ((MM4.out.push R).keep hb5); clear hb5 a4_0 b4_0 c4_0 d4_0 l4_0 a4_1 b4_1 c4_1 d4_1 l4_1 a4_2 b4_2 c4_2 d4_2 l4_2 a4_3 b4_3 c4_3 d4_3 l4_3; obtain ⟨a5_0, b5_0, c5_0, d5_0, l5_0⟩ := MM5.out.get (g6) C (by simp); obtain ⟨a5_1, b5_1, c5_1, d5_1, l5_1⟩ := MM5.out.get (g5) A (by simp); obtain ⟨a5_2, b5_2, c5_2, d5_2, l5_2⟩ := MM5.out.get (W2.heap.size) M (by simp); obtain ⟨a5_3, b5_3, c5_3, d5_3, l5_3⟩ := MM5.out.get (W3.heap.size) R (by simp); obtain ⟨a5_4, b5_4, c5_4, d5_4, l5_4⟩ := MM5.out.get (W4.heap.size) R (by simp))
      | (go_at_call 16; (with_reducible refine (NO.out _).mono ?_); rintro e W6 ⟨rfl, hb6⟩; have MM6 := Lib.hid ((MM5.out.push A).keep hb6); clear hb6 a5_0 b5_0 c5_0 d5_0 l5_0 a5_1 b5_1 c5_1 d5_1 l5_1 a5_2 b5_2 c5_2 d5_2 l5_2 a5_3 b5_3 c5_3 d5_3 l5_3 a5_4 b5_4 c5_4 d5_4 l5_4; obtain ⟨a6_0, b6_0, c6_0, d6_0, l6_0⟩ := MM6.out.get (g6) C (by simp); obtain ⟨a6_1, b6_1, c6_1, d6_1, l6_1⟩ := MM6.out.get (g5) A (by simp); obtain ⟨a6_2, b6_2, c6_2, d6_2, l6_2⟩ := MM6.out.get (W2.heap.size) M (by simp); obtain ⟨a6_3, b6_3, c6_3, d6_3, l6_3⟩ := MM6.out.get (W3.heap.size) R (by simp); obtain ⟨a6_4, b6_4, c6_4, d6_4, l6_4⟩ := MM6.out.get (W4.heap.size) R (by simp); obtain ⟨a6_5, b6_5, c6_5, d6_5, l6_5⟩ := MM6.out.get (W5.heap.size) A (by simp))
      | (go_at_call 15; (with_reducible refine (SX.out _).mono ?_); rintro e W7 ⟨rfl, hb7⟩; have MM7 := Lib.hid (MM6.out.keep hb7); clear hb7 a6_0 b6_0 c6_0 d6_0 l6_0 a6_1 b6_1 c6_1 d6_1 l6_1 a6_2 b6_2 c6_2 d6_2 l6_2 a6_3 b6_3 c6_3 d6_3 l6_3 a6_4 b6_4 c6_4 d6_4 l6_4 a6_5 b6_5 c6_5 d6_5 l6_5; obtain ⟨a7_0, b7_0, c7_0, d7_0, l7_0⟩ := MM7.out.get (g6) C (by simp); obtain ⟨a7_1, b7_1, c7_1, d7_1, l7_1⟩ := MM7.out.get (g5) A (by simp); obtain ⟨a7_2, b7_2, c7_2, d7_2, l7_2⟩ := MM7.out.get (W2.heap.size) M (by simp); obtain ⟨a7_3, b7_3, c7_3, d7_3, l7_3⟩ := MM7.out.get (W3.heap.size) R (by simp); obtain ⟨a7_4, b7_4, c7_4, d7_4, l7_4⟩ := MM7.out.get (W4.heap.size) R (by simp); obtain ⟨a7_5, b7_5, c7_5, d7_5, l7_5⟩ := MM7.out.get (W5.heap.size) A (by simp))
      | (go_at_call 15; (with_reducible refine (SA.out _).mono ?_); rintro e W8 ⟨rfl, hb8⟩; have MM8 := Lib.hid (MM7.out.keep hb8); clear hb8 a7_0 b7_0 c7_0 d7_0 l7_0 a7_1 b7_1 c7_1 d7_1 l7_1 a7_2 b7_2 c7_2 d7_2 l7_2 a7_3 b7_3 c7_3 d7_3 l7_3 a7_4 b7_4 c7_4 d7_4 l7_4 a7_5 b7_5 c7_5 d7_5 l7_5; obtain ⟨a8_0, b8_0, c8_0, d8_0, l8_0⟩ := MM8.out.get (g6) C (by simp); obtain ⟨a8_1, b8_1, c8_1, d8_1, l8_1⟩ := MM8.out.get (g5) A (by simp); obtain ⟨a8_2, b8_2, c8_2, d8_2, l8_2⟩ := MM8.out.get (W2.heap.size) M (by simp); obtain ⟨a8_3, b8_3, c8_3, d8_3, l8_3⟩ := MM8.out.get (W3.heap.size) R (by simp); obtain ⟨a8_4, b8_4, c8_4, d8_4, l8_4⟩ := MM8.out.get (W4.heap.size) R (by simp); obtain ⟨a8_5, b8_5, c8_5, d8_5, l8_5⟩ := MM8.out.get (W5.heap.size) A (by simp))
      | fail)
    go_ret
    exact ⟨rfl, MM8.out.2.1⟩
  · have tok1 : True := trivial
    go_wp2_with (first
      | (go_at_call 18; (with_reducible refine (ME.out _).mono ?_); rintro e W2 ⟨rfl, hb2⟩; have MM2 := Lib.hid (MM1.out.keep hb2); clear hb2 a1_0 b1_0 c1_0 d1_0 l1_0 a1_1 b1_1 c1_1 d1_1 l1_1; obtain ⟨a2_0, b2_0, c2_0, d2_0, l2_0⟩ := MM2.out.get (g6) C (by simp); obtain ⟨a2_1, b2_1, c2_1, d2_1, l2_1⟩ := MM2.out.get (g5) A (by simp))
      | (go_at_call 19; (with_reducible refine (OV.out _).mono ?_); rintro e W3 ⟨rfl, hb3⟩; have MM3 := Lib.hid ((MM2.out.push M).keep hb3); clear hb3 a2_0 b2_0 c2_0 d2_0 l2_0 a2_1 b2_1 c2_1 d2_1 l2_1; obtain ⟨a3_0, b3_0, c3_0, d3_0, l3_0⟩ := MM3.out.get (g6) C (by simp); obtain ⟨a3_1, b3_1, c3_1, d3_1, l3_1⟩ := MM3.out.get (g5) A (by simp); obtain ⟨a3_2, b3_2, c3_2, d3_2, l3_2⟩ := MM3.out.get (W2.heap.size) M (by simp))
      | (go_at_call 20; (with_reducible refine (IN.out _).mono ?_); rintro e W4 ⟨rfl, hb4⟩; have MM4 := Lib.hid ((MM3.out.push R).keep hb4); clear hb4 a3_0 b3_0 c3_0 d3_0 l3_0 a3_1 b3_1 c3_1 d3_1 l3_1 a3_2 b3_2 c3_2 d3_2 l3_2; obtain ⟨a4_0, b4_0, c4_0, d4_0, l4_0⟩ := MM4.out.get (g6) C (by simp); obtain ⟨a4_1, b4_1, c4_1, d4_1, l4_1⟩ := MM4.out.get (g5) A (by simp); obtain ⟨a4_2, b4_2, c4_2, d4_2, l4_2⟩ := MM4.out.get (W2.heap.size) M (by simp); obtain ⟨a4_3, b4_3, c4_3, d4_3, l4_3⟩ := MM4.out.get (W3.heap.size) R (by simp))
      | (go_at_call 20; (with_reducible refine (IS.out _).mono ?_); rintro e W5 ⟨rfl, hb5⟩; have MM5 := Lib.hid ((MM4.out.push R).keep hb5); clear hb5 a4_0 b4_0 c4_0 d4_0 l4_0 a4_1 b4_1 c4_1 d4_1 l4_1 a4_2 b4_2 c4_2 d4_2 l4_2 a4_3 b4_3 c4_3 d4_3 l4_3; obtain ⟨a5_0, b5_0, c5_0, d5_0, l5_0⟩ := MM5.out.get (g6) C (by simp); obtain ⟨a5_1, b5_1, c5_1, d5_1, l5_1⟩ := MM5.out.get (g5) A (by simp); obtain ⟨a5_2, b5_2, c5_2, d5_2, l5_2⟩ := MM5.out.get (W2.heap.size) M (by simp); obtain ⟨a5_3, b5_3, c5_3, d5_3, l5_3⟩ := MM5.out.get (W3.heap.size) R (by simp); obtain ⟨a5_4, b5_4, c5_4, d5_4, l5_4⟩ := MM5.out.get (W4.heap.size) R (by simp))
      | (go_at_call 16; (with_reducible refine (NO.out _).mono ?_); rintro e W6 ⟨rfl, hb6⟩; have MM6 := Lib.hid ((MM5.out.push A).keep hb6); clear hb6 a5_0 b5_0 c5_0 d5_0 l5_0 a5_1 b5_1 c5_1 d5_1 l5_1 a5_2 b5_2 c5_2 d5_2 l5_2 a5_3 b5_3 c5_3 d5_3 l5_3 a5_4 b5_4 c5_4 d5_4 l5_4; obtain ⟨a6_0, b6_0, c6_0, d6_0, l6_0⟩ := MM6.out.get (g6) C (by simp); obtain ⟨a6_1, b6_1, c6_1, d6_1, l6_1⟩ := MM6.out.get (g5) A (by simp); obtain ⟨a6_2, b6_2, c6_2, d6_2, l6_2⟩ := MM6.out.get (W2.heap.size) M (by simp); obtain ⟨a6_3, b6_3, c6_3, d6_3, l6_3⟩ := MM6.out.get (W3.heap.size) R (by simp); obtain ⟨a6_4, b6_4, c6_4, d6_4, l6_4⟩ := MM6.out.get (W4.heap.size) R (by simp); obtain ⟨a6_5, b6_5, c6_5, d6_5, l6_5⟩ := MM6.out.get (W5.heap.size) A (by simp))
      | (have _t1 := tok1; clear tok1; go_at_call 15; (with_reducible refine (SX.out _).mono ?_); rintro e W7 ⟨rfl, hb7⟩; have MM7 := Lib.hid (MM6.out.keep hb7); clear hb7 a6_0 b6_0 c6_0 d6_0 l6_0 a6_1 b6_1 c6_1 d6_1 l6_1 a6_2 b6_2 c6_2 d6_2 l6_2 a6_3 b6_3 c6_3 d6_3 l6_3 a6_4 b6_4 c6_4 d6_4 l6_4 a6_5 b6_5 c6_5 d6_5 l6_5; obtain ⟨a7_0, b7_0, c7_0, d7_0, l7_0⟩ := MM7.out.get (g6) C (by simp); obtain ⟨a7_1, b7_1, c7_1, d7_1, l7_1⟩ := MM7.out.get (g5) A (by simp); obtain ⟨a7_2, b7_2, c7_2, d7_2, l7_2⟩ := MM7.out.get (W2.heap.size) M (by simp); obtain ⟨a7_3, b7_3, c7_3, d7_3, l7_3⟩ := MM7.out.get (W3.heap.size) R (by simp); obtain ⟨a7_4, b7_4, c7_4, d7_4, l7_4⟩ := MM7.out.get (W4.heap.size) R (by simp); obtain ⟨a7_5, b7_5, c7_5, d7_5, l7_5⟩ := MM7.out.get (W5.heap.size) A (by simp))
      | (go_at_call 15; (with_reducible refine (SX.out _).mono ?_); rintro e W8 ⟨rfl, hb8⟩; have MM8 := Lib.hid (MM7.out.keep hb8); clear hb8 a7_0 b7_0 c7_0 d7_0 l7_0 a7_1 b7_1 c7_1 d7_1 l7_1 a7_2 b7_2 c7_2 d7_2 l7_2 a7_3 b7_3 c7_3 d7_3 l7_3 a7_4 b7_4 c7_4 d7_4 l7_4 a7_5 b7_5 c7_5 d7_5 l7_5; obtain ⟨a8_0, b8_0, c8_0, d8_0, l8_0⟩ := MM8.out.get (g6) C (by simp); obtain ⟨a8_1, b8_1, c8_1, d8_1, l8_1⟩ := MM8.out.get (g5) A (by simp); obtain ⟨a8_2, b8_2, c8_2, d8_2, l8_2⟩ := MM8.out.get (W2.heap.size) M (by simp); obtain ⟨a8_3, b8_3, c8_3, d8_3, l8_3⟩ := MM8.out.get (W3.heap.size) R (by simp); obtain ⟨a8_4, b8_4, c8_4, d8_4, l8_4⟩ := MM8.out.get (W4.heap.size) R (by simp); obtain ⟨a8_5, b8_5, c8_5, d8_5, l8_5⟩ := MM8.out.get (W5.heap.size) A (by simp))
      | (go_at_call 15; (with_reducible refine (SA.out _).mono ?_); rintro e W9 ⟨rfl, hb9⟩; have MM9 := Lib.hid (MM8.out.keep hb9); clear hb9 a8_0 b8_0 c8_0 d8_0 l8_0 a8_1 b8_1 c8_1 d8_1 l8_1 a8_2 b8_2 c8_2 d8_2 l8_2 a8_3 b8_3 c8_3 d8_3 l8_3 a8_4 b8_4 c8_4 d8_4 l8_4 a8_5 b8_5 c8_5 d8_5 l8_5; obtain ⟨a9_0, b9_0, c9_0, d9_0, l9_0⟩ := MM9.out.get (g6) C (by simp); obtain ⟨a9_1, b9_1, c9_1, d9_1, l9_1⟩ := MM9.out.get (g5) A (by simp); obtain ⟨a9_2, b9_2, c9_2, d9_2, l9_2⟩ := MM9.out.get (W2.heap.size) M (by simp); obtain ⟨a9_3, b9_3, c9_3, d9_3, l9_3⟩ := MM9.out.get (W3.heap.size) R (by simp); obtain ⟨a9_4, b9_4, c9_4, d9_4, l9_4⟩ := MM9.out.get (W4.heap.size) R (by simp); obtain ⟨a9_5, b9_5, c9_5, d9_5, l9_5⟩ := MM9.out.get (W5.heap.size) A (by simp))
      | fail)
    go_ret
    exact ⟨rfl, MM9.out.2.1⟩
end Go.Proofs.YtfnogpelaoofbaaDoor.Rg

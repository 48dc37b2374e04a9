/- The specification's merge of two that are not both objects. Conditions: those written at each lemma. -/
import Derived.Test.YtmelgankbegjaaaMn
set_option linter.unusedVariables false
set_option linter.unusedSimpArgs false
set_option maxRecDepth 100000
set_option maxHeartbeats 8000000
namespace Go.Proofs.Ytmelgankbegjaaa.Js
open Go.RowKit Go.Proofs.Ytmelgankbegjaaa.B

theorem JNs.append {p : Nat → Prop} {W : World} {us : List J} {ws : List Value} : ∀ {ts : List J} {hs : List Value}, JNs p W ts hs → JNs p W us ws → JNs p W (ts ++ us) (hs ++ ws)
  | [], hs, h, hx => by
    rw [show hs = [] from h]
    exact hx
  | t :: r, hs, h, hx => by
    obtain ⟨x, hs', rfl, h1, h2⟩ := h
    exact ⟨x, hs' ++ ws, rfl, h1, JNs.append h2 hx⟩
theorem mg_flat (Pp : Nat → Prop) (ta tb : J) (v1 v2 : Value) (w : World) (hP : ∀ x, Pp x → x < w.heap.size) (hwa : Wf ta) (hwb : Wf tb) (hja : JN Pp w ta v1) (hjb : JN Pp w tb v2) (hne : ¬ (ta.k = 5 ∧ tb.k = 5)) :
    Calls Try.prog 13 #[v1, v2] w fun e w' => ∃ u, e = .returned u ∧ JN (fun x => Pp x ∨ w.heap.size ≤ x) w' (.mk 4 0 .empty [] (lsJ ta ++ lsJ tb)) u ∧ Below w.heap.size w w' := by
  have l1 := ls_len hwa
  have l2 := ls_len hwb
  have HJA0 := Lib.hid hja
  have HJB0 := Lib.hid hjb
  obtain ⟨A, c, A2, c2, rfl, _⟩ := hja.five
  obtain ⟨C, d, C2, d2, rfl, _⟩ := hjb.five
  have HA := Lib.hid (old_blk (o := .cells #[.int .i64 0, .int .i64 0, .string ⟨#[]⟩, .slice none 0 0, .slice none 0 0] 26) (old_blk (o := .cells #[.int .i64 tb.k, .int .i64 tb.n, .string tb.s, .slice C tb.ns.length d, .slice C2 tb.is.length d2] 26) (heap_alloc_new w (.cells #[.int .i64 ta.k, .int .i64 ta.n, .string ta.s, .slice A ta.ns.length c, .slice A2 ta.is.length c2] 26))))
  have HB := Lib.hid (old_blk (o := .cells #[.int .i64 0, .int .i64 0, .string ⟨#[]⟩, .slice none 0 0, .slice none 0 0] 26) (show ((w.alloc (.cells #[.int .i64 ta.k, .int .i64 ta.n, .string ta.s, .slice A ta.ns.length c, .slice A2 ta.is.length c2] 26)).alloc (.cells #[.int .i64 tb.k, .int .i64 tb.n, .string tb.s, .slice C tb.ns.length d, .slice C2 tb.is.length d2] 26)).heap[w.heap.size + 1]? = some (.cells #[.int .i64 tb.k, .int .i64 tb.n, .string tb.s, .slice C tb.ns.length d, .slice C2 tb.is.length d2] 26 (0, 0)) from by
    have := heap_alloc_new (w.alloc (.cells #[.int .i64 ta.k, .int .i64 ta.n, .string ta.s, .slice A ta.ns.length c, .slice A2 ta.is.length c2] 26)) (.cells #[.int .i64 tb.k, .int .i64 tb.n, .string tb.s, .slice C tb.ns.length d, .slice C2 tb.is.length d2] 26)
    simpa using this))
  have HZ := Lib.hid (show (((w.alloc (.cells #[.int .i64 ta.k, .int .i64 ta.n, .string ta.s, .slice A ta.ns.length c, .slice A2 ta.is.length c2] 26)).alloc (.cells #[.int .i64 tb.k, .int .i64 tb.n, .string tb.s, .slice C tb.ns.length d, .slice C2 tb.is.length d2] 26)).alloc (.cells #[.int .i64 0, .int .i64 0, .string ⟨#[]⟩, .slice none 0 0, .slice none 0 0] 26)).heap[w.heap.size + 1 + 1]? = some (.cells #[.int .i64 0, .int .i64 0, .string ⟨#[]⟩, .slice none 0 0, .slice none 0 0] 26 (0, 0)) from by
    have := heap_alloc_new ((w.alloc (.cells #[.int .i64 ta.k, .int .i64 ta.n, .string ta.s, .slice A ta.ns.length c, .slice A2 ta.is.length c2] 26)).alloc (.cells #[.int .i64 tb.k, .int .i64 tb.n, .string tb.s, .slice C tb.ns.length d, .slice C2 tb.is.length d2] 26)) (.cells #[.int .i64 0, .int .i64 0, .string ⟨#[]⟩, .slice none 0 0, .slice none 0 0] 26)
    simpa using this)
  have hX : Below w.heap.size w (((w.alloc (.cells #[.int .i64 ta.k, .int .i64 ta.n, .string ta.s, .slice A ta.ns.length c, .slice A2 ta.is.length c2] 26)).alloc (.cells #[.int .i64 tb.k, .int .i64 tb.n, .string tb.s, .slice C tb.ns.length d, .slice C2 tb.is.length d2] 26)).alloc (.cells #[.int .i64 0, .int .i64 0, .string ⟨#[]⟩, .slice none 0 0, .slice none 0 0] 26)) := (((Below.refl _ _).alloc (Nat.le_refl _) _).alloc (by simp) _).alloc (by simp; omega) _
  have HX := Lib.hid hX
  have HJA := HJA0
  have HJB := HJB0
  have HP := Lib.hid hP
  have HWA := Lib.hid hwa
  have HWB := Lib.hid hwb
  have HL1 := Lib.hid l1
  have HL2 := Lib.hid l2
  obtain ⟨y0, y1, y2, y3, y4⟩ := Rv.cells5 HA.out
  obtain ⟨x0, x1, x2, x3, x4⟩ := Rv.cells5 HB.out
  have hg : ((ta.k != 5) || (tb.k != 5)) = true := by
    by_cases h1 : ta.k = 5
    · have h2 : tb.k ≠ 5 := fun e => hne ⟨h1, e⟩
      simp [h2]
    · simp [h1]
  clear HJA0 HJB0 hX hwa hwb hja hjb hP l1 l2 hne
  cases hd1 : (ta.k != 5) <;> rw [hd1] at hg
  all_goals
    simp only [Bool.false_or, Bool.true_or] at hg
    go_enter Try.func13, Try.ntmps13
    go_upto_region 2 with fail
    clear y0 y1 y2 y3 y4 x0 x1 x2 x3 x4 hg hd1
    generalize ((w.alloc (.cells #[.int .i64 ta.k, .int .i64 ta.n, .string ta.s, .slice A ta.ns.length c, .slice A2 ta.is.length c2] 26)).alloc (.cells #[.int .i64 tb.k, .int .i64 tb.n, .string tb.s, .slice C tb.ns.length d, .slice C2 tb.is.length d2] 26)).alloc (.cells #[.int .i64 0, .int .i64 0, .string ⟨#[]⟩, .slice none 0 0, .slice none 0 0] 26) = X at *
    have hga := Rv.lt_of_blk HA.out
    have hgb := Rv.lt_of_blk HB.out
    have hgz := Rv.lt_of_blk HZ.out
    refine Rv.region_fin2 (n := 64) (by kernel_rfl) #[16, 17, 18, 19, 20, 21, 1006] #[] (fun i f W => if i = 6 then (fun f W => ∃ (A7 : Option Addr) (c7 : Nat) (hs gs : List Value), W.heap[w.heap.size + 1 + 1]? = some (.cells #[.int .i64 4, .int .i64 0, .string ⟨#[]⟩, .slice none 0 0, .slice A7 ((lsJ ta).length + (lsJ tb).length) c7] 26 (0, 0)) ∧ W.ownsRow X.heap.size 26 5 (.slice A7 ((lsJ ta).length + (lsJ tb).length) c7) ((lsJ ta).length + (lsJ tb).length) (flat hs ++ flat gs) ∧ JNs Pp W (lsJ ta) hs ∧ JNs Pp W (lsJ tb) gs) f W else if i = 5 then (fun f W => ∃ (A7 : Option Addr) (c7 : Nat) (hs gs : List Value), f 5 = .agg #[.int .i64 4, .int .i64 0, .string ⟨#[]⟩, .slice none 0 0, .slice A7 ((lsJ ta).length + (lsJ tb).length) c7] ∧ W.ownsRow X.heap.size 26 5 (.slice A7 ((lsJ ta).length + (lsJ tb).length) c7) ((lsJ ta).length + (lsJ tb).length) (flat hs ++ flat gs) ∧ JNs Pp W (lsJ ta) hs ∧ JNs Pp W (lsJ tb) gs) f W else if i = 4 then (fun f W => ∃ (A7 : Option Addr) (c7 : Nat) (hs gs : List Value), f 4 = .slice A7 ((lsJ ta).length + (lsJ tb).length) c7 ∧ W.ownsRow X.heap.size 26 5 (.slice A7 ((lsJ ta).length + (lsJ tb).length) c7) ((lsJ ta).length + (lsJ tb).length) (flat hs ++ flat gs) ∧ JNs Pp W (lsJ ta) hs ∧ JNs Pp W (lsJ tb) gs) f W else if i = 3 then (fun f W => ∃ (A8 : Option Addr) (c8 : Nat) (gs : List Value), f 3 = .slice A8 (lsJ tb).length c8 ∧ Rd W 5 (.slice A8 (lsJ tb).length c8) (lsJ tb).length (flat gs) ∧ JNs Pp W (lsJ tb) gs) f W else if i = 1 then (fun f W => ∃ (A9 : Option Addr) (c9 : Nat) (hs : List Value), f 1 = .slice A9 (lsJ ta).length c9 ∧ W.ownsRow X.heap.size 26 5 (.slice A9 (lsJ ta).length c9) (lsJ ta).length (flat hs) ∧ JNs Pp W (lsJ ta) hs) f W else f i = (#[.agg #[.int .i64 ta.k, .int .i64 ta.n, .string ta.s, .slice A ta.ns.length c, .slice A2 ta.is.length c2], undef, .agg #[.int .i64 tb.k, .int .i64 tb.n, .string tb.s, .slice C tb.ns.length d, .slice C2 tb.is.length d2], undef, undef, undef, undef] : Array Value).getD i undef) (fun i j => (i == 4 && (j == 1 || j == 3)) || (i == 6 && (j == 1 || j == 3 || j == 4 || j == 5))) (fun i => i == 4 || i == 6) (fun i => i == 6) (fun i f W W' => True) (fun W => Below w.heap.size w W) (fun W => Below X.heap.size X W) (fun _ _ _ => True) (fun _ _ _ _ _ _ _ _ => trivial) (fun i f f' w hi h hd hg => ?_) (fun i j f w w' hi hj hij hK hdp h hr => ?_) (fun i h g b hg => ?_) rfl (by kernel_rfl) (fun i h g b hg => ?_) (HX.out.drew) ((Below.refl _ _).drew) (fun _ => trivial) (fun i h hr f w hf => ?_) (fun _ _ _ _ _ _ _ _ => trivial) ?_ ?_
    · by_cases hi1006 : i = 6
      · subst hi1006
        rw [if_pos rfl] at hg ⊢
        exact hg
      rw [if_neg hi1006] at hg ⊢
      by_cases hi21 : i = 5
      · subst hi21
        rw [if_pos rfl] at hg ⊢
        obtain ⟨A7, c7, hs, gs, q1, q2⟩ := hg
        exact ⟨A7, c7, hs, gs, h.symm.trans q1, q2⟩
      rw [if_neg hi21] at hg ⊢
      by_cases hi20 : i = 4
      · subst hi20
        rw [if_pos rfl] at hg ⊢
        obtain ⟨A7, c7, hs, gs, q1, q2⟩ := hg
        exact ⟨A7, c7, hs, gs, h.symm.trans q1, q2⟩
      rw [if_neg hi20] at hg ⊢
      by_cases hi19 : i = 3
      · subst hi19
        rw [if_pos rfl] at hg ⊢
        obtain ⟨A9, c9, hs, q1, q2⟩ := hg
        exact ⟨A9, c9, hs, h.symm.trans q1, q2⟩
      rw [if_neg hi19] at hg ⊢
      by_cases hi17 : i = 1
      · subst hi17
        rw [if_pos rfl] at hg ⊢
        obtain ⟨A9, c9, hs, q1, q2⟩ := hg
        exact ⟨A9, c9, hs, h.symm.trans q1, q2⟩
      rw [if_neg hi17] at hg ⊢
      rw [← h]; exact hg
    · by_cases hj1006 : j = 6
      · subst hj1006
        rw [if_pos rfl] at h ⊢
        rcases hr with ⟨hK1, hr⟩ | hr
        · have hi2 : i = 4 ∨ i = 6 := by simpa [or_assoc] using hK1
          rcases hi2 with e | e
          · subst e; exfalso; revert hdp; decide
          · exact absurd e hij
        · obtain ⟨A7, c7, hs, gs, e, h1, h2, h3⟩ := h
          exact ⟨A7, c7, hs, gs, (hr.block _ (Rv.lt_of_blk e)).trans e, own_below h1 hr, h2.below hr, h3.below hr⟩
      rw [if_neg hj1006] at h ⊢
      by_cases hj21 : j = 5
      · subst hj21
        rw [if_pos rfl] at h ⊢
        rcases hr with ⟨hK1, hr⟩ | hr
        · have hi2 : i = 4 ∨ i = 6 := by simpa [or_assoc] using hK1
          rcases hi2 with e | e
          · subst e; exfalso; revert hdp; decide
          · subst e; exfalso; revert hK; decide
        · obtain ⟨A7, c7, hs, gs, e, h1, h2, h3⟩ := h
          exact ⟨A7, c7, hs, gs, e, own_below h1 hr, h2.below hr, h3.below hr⟩
      rw [if_neg hj21] at h ⊢
      by_cases hj20 : j = 4
      · subst hj20
        rw [if_pos rfl] at h ⊢
        rcases hr with ⟨hK1, hr⟩ | hr
        · have hi2 : i = 4 ∨ i = 6 := by simpa [or_assoc] using hK1
          rcases hi2 with e | e
          · exact absurd e hij
          · subst e; exfalso; revert hK; decide
        · obtain ⟨A7, c7, hs, gs, e, h1, h2, h3⟩ := h
          exact ⟨A7, c7, hs, gs, e, own_below h1 hr, h2.below hr, h3.below hr⟩
      rw [if_neg hj20] at h ⊢
      by_cases hj19 : j = 3
      · subst hj19
        rw [if_pos rfl] at h ⊢
        rcases hr with ⟨hK1, hr⟩ | hr
        · have hi2 : i = 4 ∨ i = 6 := by simpa [or_assoc] using hK1
          rcases hi2 with e | e
          · subst e; exfalso; revert hK; decide
          · subst e; exfalso; revert hK; decide
        · obtain ⟨A9, c9, hs, e, h1, h2⟩ := h
          exact ⟨A9, c9, hs, e, h1.below hr, h2.below hr⟩
      rw [if_neg hj19] at h ⊢
      by_cases hj17 : j = 1
      · subst hj17
        rw [if_pos rfl] at h ⊢
        rcases hr with ⟨hK1, hr⟩ | hr
        · have hi2 : i = 4 ∨ i = 6 := by simpa [or_assoc] using hK1
          rcases hi2 with e | e
          · subst e; exfalso; revert hK; decide
          · subst e; exfalso; revert hK; decide
        · obtain ⟨A9, c9, hs, e, h1, h2⟩ := h
          exact ⟨A9, c9, hs, e, own_below h1 hr, h2.below hr⟩
      rw [if_neg hj17] at h ⊢
      exact h
    · match i, h, hg with
      | 0, _, hg => cases hg
      | 1, _, hg => cases hg
      | 2, _, hg => cases hg
      | 3, _, hg => cases hg
      | 4, _, hg => cases hg
      | 5, _, hg => cases hg
      | 6, _, hg => cases hg
      | m + 7, h, _ => exact absurd h (by show ¬ m + 7 < 7; omega)
    · match i, h, hg with
      | 0, _, hg => cases hg
      | 1, _, hg => cases hg
      | 2, _, hg => cases hg
      | 3, _, hg => cases hg
      | 4, _, hg => cases hg
      | 5, _, hg => cases hg
      | 6, _, hg => cases hg
      | m + 7, h, _ => exact absurd h (by show ¬ m + 7 < 7; omega)
    · match i, h, hr, hf with
      | 0, _, hr, _ => exact Bool.noConfusion (show true = false from hr)
      | 1, _, hr, _ => exact Bool.noConfusion (show true = false from hr)
      | 2, _, hr, _ => exact Bool.noConfusion (show true = false from hr)
      | 3, _, hr, _ => exact Bool.noConfusion (show true = false from hr)
      | 4, _, hr, _ => exact Bool.noConfusion (show true = false from hr)
      | 5, _, hr, _ => exact Bool.noConfusion (show true = false from hr)
      | 6, _, hr, _ => exact Bool.noConfusion (show true = false from hr)
      | m + 7, h, _, _ => exact absurd h (by show ¬ m + 7 < 7; omega)
    · intro i h a W hrun hbase hpre hdep htr hta hJ
      match i, h with
      | 0, _ =>
        obtain ⟨e2, x2⟩ := Rv.ev (show a.tmps.getD 2 undef = .pointer (some ⟨w.heap.size, 0, none⟩) from hbase 2 rfl)
        obtain ⟨y0, y1, y2, y3, y4⟩ := Rv.cells5 (((hta (by decide)).block _ hga).trans HA.out)
        exact Rv.step_op (op := Go.Op.load 26 (Go.Operand.tmp 2)) (v := .agg #[.int .i64 ta.k, .int .i64 ta.n, .string ta.s, .slice A ta.ns.length c, .slice A2 ta.is.length c2]) (w1 := W) rfl rfl (fun d pos aft g => by unfold execOp; go_simp) ⟨_, rfl, rfl, .inr (Below.refl _ _), htr, fun _ ht => ht, fun _ _ _ => trivial⟩
      | 1, _ =>
        obtain ⟨e16, x16⟩ := Rv.ev (show a.tmps.getD 16 undef = .agg #[.int .i64 ta.k, .int .i64 ta.n, .string ta.s, .slice A ta.ns.length c, .slice A2 ta.is.length c2] from hdep 0 rfl rfl)
        have cf : ∀ x0 W, (callFunc 22 #[x0]).run Try.prog W = .ok (.enter 22 #[x0]) W := fun _ _ => by kernel_rfl
        have hx := (hta (by decide)).size
        refine Rv.step_fn (op := Go.Op.call { callee := Go.Callee.value (Go.Operand.func 22), args := #[Go.Operand.tmp 16], argTypes := #[26] }) (ty := 24) (f := 22) (args := #[.agg #[.int .i64 ta.k, .int .i64 ta.n, .string ta.s, .slice A ta.ns.length c, .slice A2 ta.is.length c2]]) (R := fun v W' => (∃ (A9 : Option Addr) (c9 : Nat) (hs : List Value), v = .slice A9 (lsJ ta).length c9 ∧ W'.ownsRow X.heap.size 26 5 (.slice A9 (lsJ ta).length c9) (lsJ ta).length (flat hs) ∧ JNs Pp W' (lsJ ta) hs) ∧ Below W.heap.size W W') rfl rfl (fun d pos aft g => by unfold execOp; go_simp) ((list_own Pp ta _ W HWA.out (fun x hx => Nat.lt_of_lt_of_le (HP.out x hx) htr.size) (HJA.out.below htr)).mono ?_) ?_
        · (rintro e W' ⟨A9, c9, hs, rfl, h1, h2, hb⟩; exact ⟨_, rfl, ⟨A9, c9, hs, rfl, h1.mono hx, h2⟩, hb⟩)
        · (rintro v W' ⟨hv, hb⟩; exact ⟨_, rfl, hv, .inr hb, htr.trans (hb.mono htr.size), (fun _ ht => ht.trans (hb.mono ht.size)), fun _ _ _ => trivial⟩)
      | 2, _ =>
        obtain ⟨e3, x3⟩ := Rv.ev (show a.tmps.getD 3 undef = .pointer (some ⟨w.heap.size + 1, 0, none⟩) from hbase 3 rfl)
        obtain ⟨x0, x1, x2, x3, x4⟩ := Rv.cells5 (((hta (by decide)).block _ hgb).trans HB.out)
        exact Rv.step_op (op := Go.Op.load 26 (Go.Operand.tmp 3)) (v := .agg #[.int .i64 tb.k, .int .i64 tb.n, .string tb.s, .slice C tb.ns.length d, .slice C2 tb.is.length d2]) (w1 := W) rfl rfl (fun d pos aft g => by unfold execOp; go_simp) ⟨_, rfl, rfl, .inr (Below.refl _ _), htr, fun _ ht => ht, fun _ _ _ => trivial⟩
      | 3, _ =>
        obtain ⟨e18, x18⟩ := Rv.ev (show a.tmps.getD 18 undef = .agg #[.int .i64 tb.k, .int .i64 tb.n, .string tb.s, .slice C tb.ns.length d, .slice C2 tb.is.length d2] from hdep 2 rfl rfl)
        have cf : ∀ x0 W, (callFunc 22 #[x0]).run Try.prog W = .ok (.enter 22 #[x0]) W := fun _ _ => by kernel_rfl
        have hx := (hta (by decide)).size
        refine Rv.step_fn (op := Go.Op.call { callee := Go.Callee.value (Go.Operand.func 22), args := #[Go.Operand.tmp 18], argTypes := #[26] }) (ty := 24) (f := 22) (args := #[.agg #[.int .i64 tb.k, .int .i64 tb.n, .string tb.s, .slice C tb.ns.length d, .slice C2 tb.is.length d2]]) (R := fun v W' => (∃ (A8 : Option Addr) (c8 : Nat) (gs : List Value), v = .slice A8 (lsJ tb).length c8 ∧ Rd W' 5 (.slice A8 (lsJ tb).length c8) (lsJ tb).length (flat gs) ∧ JNs Pp W' (lsJ tb) gs) ∧ Below W.heap.size W W') rfl rfl (fun d pos aft g => by unfold execOp; go_simp) ((list_own Pp tb _ W HWB.out (fun x hx => Nat.lt_of_lt_of_le (HP.out x hx) htr.size) (HJB.out.below htr)).mono ?_) ?_
        · (rintro e W' ⟨A9, c9, hs, rfl, h1, h2, hb⟩; exact ⟨_, rfl, ⟨A9, c9, hs, rfl, Rd.of_own h1, h2⟩, hb⟩)
        · (rintro v W' ⟨hv, hb⟩; exact ⟨_, rfl, hv, .inr hb, htr.trans (hb.mono htr.size), (fun _ ht => ht.trans (hb.mono ht.size)), fun _ _ _ => trivial⟩)
      | 4, _ =>
        obtain ⟨A9, c9, hs, eA, k9, n9⟩ : ∃ (A9 : Option Addr) (c9 : Nat) (hs : List Value), a.tmps.getD 17 undef = .slice A9 (lsJ ta).length c9 ∧ W.ownsRow X.heap.size 26 5 (.slice A9 (lsJ ta).length c9) (lsJ ta).length (flat hs) ∧ JNs Pp W (lsJ ta) hs := hdep 1 rfl rfl
        obtain ⟨e17, x17⟩ := Rv.ev eA
        obtain ⟨A8, c8, gs, eB, k8, n8⟩ : ∃ (A8 : Option Addr) (c8 : Nat) (gs : List Value), a.tmps.getD 19 undef = .slice A8 (lsJ tb).length c8 ∧ Rd W 5 (.slice A8 (lsJ tb).length c8) (lsJ tb).length (flat gs) ∧ JNs Pp W (lsJ tb) gs := hdep 3 rfl rfl
        obtain ⟨e19, x19⟩ := Rv.ev eB
        have hx := (hta (by decide)).size
        have l1 := HL1.out
        have l2 := HL2.out
        obtain ⟨v', w', hrun, k2, k3, k4⟩ := run_append_rd (P := Try.prog) W X.heap.size 24 24 26 (.agg #[.int .i64 0, .int .i64 0, .string ⟨#[]⟩, .slice none 0 0, .slice none 0 0]) 5 80 Try.underlying24 info26 rfl (by omega) (by omega) _ _ _ k9 _ _ _ k8 (flat_cells n8) (by omega) hx
        obtain ⟨A7, c7, rfl, _⟩ := (Rd.of_own k2).shape
        have hob : ∀ k, (Value.slice A9 (lsJ ta).length c9).ownBlock = some k → X.heap.size ≤ k := fun k hk => (k9.lt k hk).1
        have hne : ∀ x, Pp x → some x ≠ (Value.slice A9 (lsJ ta).length c9).ownBlock := fun x hx' e => by have := hob x e.symm; have := HP.out x hx'; have := HX.out.size; omega
        exact Rv.step_op (op := Go.Op.call { callee := Go.Callee.builtin Go.Builtin.append, args := #[Go.Operand.tmp 17, Go.Operand.tmp 19], argTypes := #[24, 24] }) (ty := 24) (v := .slice A7 ((lsJ ta).length + (lsJ tb).length) c7) (w1 := w') rfl rfl (fun d pos aft g => by unfold execOp; simp only [resolve, invoke, builtin, Sem.run_bind, Sem.run_pure, Result.andThen_ok, List.map_toArray, List.map_cons, List.map_nil, e17, e19, hrun]) ⟨_, rfl, ⟨A7, c7, hs, gs, rfl, k2, n9.grown k3 hne, n8.grown k3 hne⟩, .inl ⟨rfl, trivial⟩, htr.grown k3 htr.size (fun k hk => by have := hob k hk; have := HX.out.size; omega), (fun _ ht => ht.grown k3 ht.size hob), fun _ _ _ => trivial⟩
      | 5, _ =>
        obtain ⟨A7, c7, hs, gs, eC, k7⟩ : ∃ (A7 : Option Addr) (c7 : Nat) (hs gs : List Value), a.tmps.getD 20 undef = .slice A7 ((lsJ ta).length + (lsJ tb).length) c7 ∧ W.ownsRow X.heap.size 26 5 (.slice A7 ((lsJ ta).length + (lsJ tb).length) c7) ((lsJ ta).length + (lsJ tb).length) (flat hs ++ flat gs) ∧ JNs Pp W (lsJ ta) hs ∧ JNs Pp W (lsJ tb) gs := hdep 4 rfl rfl
        obtain ⟨e20, x20⟩ := Rv.ev eC
        exact Rv.step_op (op := Go.Op.build 26 #[(0, Go.Operand.const (Go.Value.int Go.IntKind.i64 4)), (4, Go.Operand.tmp 20)]) (ty := 26) (v := .agg #[.int .i64 4, .int .i64 0, .string ⟨#[]⟩, .slice none 0 0, .slice A7 ((lsJ ta).length + (lsJ tb).length) c7]) (w1 := W) rfl rfl (fun d pos aft g => by unfold execOp; go_simp) ⟨_, rfl, ⟨A7, c7, hs, gs, rfl, k7⟩, .inr (Below.refl _ _), htr, (fun _ ht => ht), fun _ _ _ => trivial⟩
      | 6, _ =>
        obtain ⟨e4, x4⟩ := Rv.ev (show a.tmps.getD 4 undef = .pointer (some ⟨w.heap.size + 1 + 1, 0, none⟩) from hbase 4 rfl)
        obtain ⟨A7, c7, hs, gs, eD, k7⟩ : ∃ (A7 : Option Addr) (c7 : Nat) (hs gs : List Value), a.tmps.getD 21 undef = .agg #[.int .i64 4, .int .i64 0, .string ⟨#[]⟩, .slice none 0 0, .slice A7 ((lsJ ta).length + (lsJ tb).length) c7] ∧ W.ownsRow X.heap.size 26 5 (.slice A7 ((lsJ ta).length + (lsJ tb).length) c7) ((lsJ ta).length + (lsJ tb).length) (flat hs ++ flat gs) ∧ JNs Pp W (lsJ ta) hs ∧ JNs Pp W (lsJ tb) gs := hdep 5 rfl rfl
        obtain ⟨e21, x21⟩ := Rv.ev eD
        have hx := (hta (by decide)).size
        have hq := ((hta (by decide)).block _ hgz).trans HZ.out
        obtain ⟨s0, s1, s2, s3, s4⟩ := Rv.cells5 hq
        obtain ⟨z0, z1, z2, z3, z4⟩ := Rv.frozen5 hq
        have gs' := fun (V : World) j u => grown_set (Below.refl _ V) (w.heap.size + 1 + 1) j u
        have hgg := (grown_then (grown_then (grown_then (grown_then (gs' W 0 (.int .i64 4)) (gs' _ 1 (.int .i64 0))) (gs' _ 2 (.string ⟨#[]⟩))) (gs' _ 3 (.slice none 0 0))) (gs' _ 4 (.slice A7 ((lsJ ta).length + (lsJ tb).length) c7)))
        have hne : ∀ x, Pp x → some x ≠ some (w.heap.size + 1 + 1) := fun x hx' e => by have := HP.out x hx'; injection e with e; omega
        exact Rv.step_skip (op := Go.Op.store 26 (Go.Operand.tmp 4) (Go.Operand.tmp 21)) (ty := 0) (w1 := (((((W.setCell ⟨w.heap.size + 1 + 1, 0, none⟩ (.int .i64 4)).setCell ⟨w.heap.size + 1 + 1, 1, none⟩ (.int .i64 0)).setCell ⟨w.heap.size + 1 + 1, 2, none⟩ (.string ⟨#[]⟩)).setCell ⟨w.heap.size + 1 + 1, 3, none⟩ (.slice none 0 0)).setCell ⟨w.heap.size + 1 + 1, 4, none⟩ (.slice A7 ((lsJ ta).length + (lsJ tb).length) c7))) rfl rfl (fun d pos aft g => by unfold execOp; go_simp) ⟨undef, rfl, ⟨A7, c7, hs, gs, Rv.sets5 hq _ _ _ _ _, own_kept k7.1 hgg (fun k hk e => by have := (k7.1.lt k hk).1; injection e with e; omega), k7.2.1.grown hgg hne, k7.2.2.grown hgg hne⟩, .inl ⟨rfl, trivial⟩, htr.grown hgg htr.size (fun k hk => by injection hk with hk; omega), (fun h _ => by cases h), fun _ _ _ => trivial⟩
      | m + 7, h => exact absurd h (by show ¬ m + 7 < 7; omega)
    intro W f hf htr hJ
    have f0 : f 0 = .agg #[.int .i64 ta.k, .int .i64 ta.n, .string ta.s, .slice A ta.ns.length c, .slice A2 ta.is.length c2] := hf 0 (by show 0 < 7; omega) rfl
    have f2 : f 2 = .agg #[.int .i64 tb.k, .int .i64 tb.n, .string tb.s, .slice C tb.ns.length d, .slice C2 tb.is.length d2] := hf 2 (by show 2 < 7; omega) rfl
    have HS6 := Lib.hid (show (fun f W => ∃ (A7 : Option Addr) (c7 : Nat) (hs gs : List Value), W.heap[w.heap.size + 1 + 1]? = some (.cells #[.int .i64 4, .int .i64 0, .string ⟨#[]⟩, .slice none 0 0, .slice A7 ((lsJ ta).length + (lsJ tb).length) c7] 26 (0, 0)) ∧ W.ownsRow X.heap.size 26 5 (.slice A7 ((lsJ ta).length + (lsJ tb).length) c7) ((lsJ ta).length + (lsJ tb).length) (flat hs ++ flat gs) ∧ JNs Pp W (lsJ ta) hs ∧ JNs Pp W (lsJ tb) gs) f W from hf 6 (by show 6 < 7; omega) rfl)
    clear hf
    refine (show ∀ (a : Act) (w : World), Code.wp _ _ _ a w → _ from by assumption) _ _ ?_
    refine Rv.fin_swap (L' := [(16, f 0), (17, f 1), (18, f 2), (19, f 3), (20, f 4), (21, f 5), (1006, f 6)]) rfl ?_
    rw [f0, f2]
    clear f0 f2
    simp only [Rv.fin, List.foldl_cons, List.foldl_nil, Act.put, List.setIfInBounds_toArray, List.set_cons_succ, List.set_cons_zero, List.set_nil]
    obtain ⟨A7, c7, hs, gs, hb7, hr7, hn1, hn2⟩ := HS6.out
    obtain ⟨q0, q1, q2, q3, q4⟩ := Rv.cells5 hb7
    have hxs := HX.out.size
    have HJF := Lib.hid (show JN (fun x => Pp x ∨ w.heap.size ≤ x) W (.mk 4 0 .empty [] (lsJ ta ++ lsJ tb)) (.agg #[.int .i64 4, .int .i64 0, .string ⟨#[]⟩, .slice none 0 0, .slice A7 ((lsJ ta).length + (lsJ tb).length) c7]) from
      ⟨none, 0, A7, c7, hs ++ gs, by rw [List.length_append]; rfl, Rp.nil _ _ _, by
        rw [List.length_append, flat_app]
        exact (Rp.own hr7).weak (fun x _ hx => .inr (by have := hx.1; omega)), (hn1.weak (q := fun x => Pp x ∨ w.heap.size ≤ x) (fun _ _ h => .inl h)).append (hn2.weak (q := fun x => Pp x ∨ w.heap.size ≤ x) (fun _ _ h => .inl h))⟩)
    have HBF := Lib.hid htr
    clear htr HS6 hb7 hr7 hn1 hn2 hxs
    go_wp2
    refine bodyPost_ret (v := .agg #[.int .i64 4, .int .i64 0, .string ⟨#[]⟩, .slice none 0 0, .slice A7 ((lsJ ta).length + (lsJ tb).length) c7]) ?_ rfl ⟨_, rfl, HJF.out, HBF.out⟩
    simp only [results, show Try.f13.results = #[.cell 4 26] by kernel_rfl]
    go_simp
end Go.Proofs.Ytmelgankbegjaaa.Js

/- A point as a geometry: its value; whether it lies within another one. Conditions: those written at each lemma. -/
import Derived.Test.YtfelbaibbanllaaGreatGer
import Derived.Test.YtfelbaibbanllaaGreatGec
import Derived.Test.YtfelbaibbanllaaGreatRv
set_option linter.unusedVariables false
set_option linter.unusedSimpArgs false
set_option maxRecDepth 100000
set_option maxHeartbeats 8000000
namespace Go.Proofs.YtfelbaibbanllaaGreat.Ge
open Go.RowKit Go.Proofs.YtfelbaibbanllaaGreat.B
attribute [local go_sem] run_store_float

abbrev gv (A : Option Addr) (c : Nat) : Value := .agg #[.int .i64 1, .int .u32 0, .slice A 1 c, .slice none 0 0, .slice none 0 0, .slice none 0 0]
theorem geOf_any (A : Option Addr) (c : Nat) (w : World) : Calls Tryz.prog 6 #[.slice A 1 c] w fun e w' => e = .returned (gv A c) ∧ Below w.heap.size w w' := by
  go_enter Tryz.func6, Tryz.ntmps6
  go_wp2
  refine bodyPost_ret (v := gv A c) ?_ rfl ⟨rfl, ?_⟩
  · simp only [results, show Tryz.f6.results = #[.cell 2 33] by kernel_rfl]
    go_simp
  · go_grown
theorem value_any (A : Option Addr) (c : Nat) (p : Nat × Nat) (w : World) (hr : Rd w 2 (.slice A 1 c) 1 (pc [p])) :
    Calls Tryz.prog 19 #[gv A c] w fun e w' => e = .returned (.iface 56 (gpV p)) ∧ Below w.heap.size w w' := by
  have hX := Lib.hid ((Below.refl w.heap.size w).alloc (Nat.le_refl _) (.cells #[.int .i64 1, .int .u32 0, .slice A 1 c, .slice none 0 0, .slice none 0 0, .slice none 0 0] 33))
  have PT := Lib.hid (points_any A c [p] _ (hr.below hX.out) (by simp))
  obtain ⟨x, y⟩ := p
  have h1 : [(x, y)].length = 1 := rfl
  rw [h1] at PT
  clear hr h1
  go_enter Tryz.func19, Tryz.ntmps19
  go_wp2_with (go_at_call 29; go_loud (with_reducible refine PT.out.mono ?_); rintro e w2 ⟨A2, c2, rfl, ho, hb⟩; go_loud (obtain ⟨b, o, rfl, hb0, k0, k1, k2⟩ := qc_at (Rd.of_own ho) 0 (by simp); simp only [List.getElem_cons_zero, Nat.zero_mul, Nat.add_zero] at k0 k1 k2; have HB := Lib.hid (hX.out.trans (hb.mono hX.out.size)); clear ho hb))
  go_ret
  exact ⟨rfl, HB.out⟩
theorem assert56 (p : Nat × Nat) (W : World) : (Instr.typeAssert (.iface 56 (gpV p)) 48 56 true).run Tryz.prog W = .ok (.tuple #[gpV p, .bool true]) W := by kernel_rfl
theorem within_any (p q : Nat × Nat) (w : World) : Calls Tryz.prog 47 #[gpV p, .iface 56 (gpV q)] w fun e w' => e = .returned (.bool (peq p q)) ∧ Below w.heap.size w w' := by
  have E := Lib.hid (fun W => ptEq_any p q W)
  generalize peq p q = B at *
  obtain ⟨x, y⟩ := p
  obtain ⟨x2, y2⟩ := q
  have ta := assert56 (x2, y2)
  have hX := Lib.hid (((Below.refl w.heap.size w).alloc (Nat.le_refl _) (.cells #[.int .u32 0, .float .f64 x, .float .f64 y] 56)).alloc (by simp) (.cells #[.int .u32 0, .float .f64 x2, .float .f64 y2] 56))
  go_enter Tryz.func47, Tryz.ntmps47
  go_wp2_with (go_at_call 48; go_loud (with_reducible refine (E.out _).mono ?_); rintro e w2 ⟨rfl, hb⟩; have HB := Lib.hid (hX.out.trans (hb.mono hX.out.size)); clear hb)
  go_ret
  exact ⟨rfl, HB.out⟩
theorem isWithin_any (p q : Nat × Nat) (w : World) : Calls Tryz.prog 39 #[.iface 56 (gpV p), .iface 56 (gpV q)] w fun e w' => e = .returned (.bool (peq p q)) ∧ Below w.heap.size w w' := by
  have E := Lib.hid (fun W => within_any p q W)
  generalize peq p q = B at *
  obtain ⟨x, y⟩ := p
  have ta := assert56 (x, y)
  have hX := Lib.hid ((Below.refl w.heap.size w).alloc (Nat.le_refl _) (.cells #[.int .u32 0, .float .f64 x, .float .f64 y] 56))
  go_enter Tryz.func39, Tryz.ntmps39
  go_wp2_with (go_at_call 47; go_loud (with_reducible refine (E.out _).mono ?_); rintro e w2 ⟨rfl, hb⟩; have HB := Lib.hid (hX.out.trans (hb.mono hX.out.size)); clear hb)
  go_ret
  exact ⟨rfl, HB.out⟩
theorem feq_comm (x y : Nat) : feq x y = feq y x := by
  show (F.dbl.order x y == some .eq) = (F.dbl.order y x == some .eq)
  unfold Ieee.Format.order
  generalize F.dbl.read x = a
  generalize F.dbl.read y = b
  cases a with
  | nan s t => cases b <;> rfl
  | infinity s => cases b with
    | nan _ _ => rfl
    | infinity t => cases s <;> cases t <;> rfl
    | number t _ _ => cases s <;> rfl
  | number s m i => cases b with
    | nan _ _ => rfl
    | infinity t => cases t <;> rfl
    | number t n j =>
      simp only [Ieee.Datum.order, Int.min_comm j i]
      generalize Ieee.signed s m (i - min i j).toNat = u
      generalize Ieee.signed t n (j - min i j).toNat = v
      simp only [compare, compareOfLessAndEq]
      rcases Int.lt_trichotomy u v with h | h | h
      · rw [if_pos h, if_neg (by omega), if_neg (by omega)]
        rfl
      · subst h; rfl
      · rw [if_neg (by omega), if_neg (by omega), if_pos h]
        rfl
theorem peq_comm (p q : Nat × Nat) : peq p q = peq q p := by unfold peq; rw [feq_comm, feq_comm p.2]
theorem isEqual_any (p q : Nat × Nat) (w : World) : Calls Tryz.prog 28 #[.iface 56 (gpV p), .iface 56 (gpV q)] w fun e w' => e = .returned (.bool (peq p q)) ∧ Below w.heap.size w w' := by
  have E := Lib.hid (fun W => isWithin_any p q W)
  have E2 := Lib.hid (fun W => show Calls Tryz.prog 39 #[.iface 56 (gpV q), .iface 56 (gpV p)] W fun e w' => e = .returned (.bool (peq p q)) ∧ Below W.heap.size W w' from by rw [peq_comm p q]; exact isWithin_any q p W)
  generalize peq p q = B at *
  generalize gpV p = vp at *
  generalize gpV q = vq at *
  cases B
  · go_enter Tryz.func28, Tryz.ntmps28
    go_wp2_with (go_at_call 39; go_loud (with_reducible refine (E.out _).mono ?_); rintro e w2 ⟨rfl, hb⟩; have HB := Lib.hid hb; clear hb)
    go_ret
    exact ⟨rfl, HB.out⟩
  · go_enter Tryz.func28, Tryz.ntmps28
    go_wp2_with (first
      | (go_at_call 39; (with_reducible refine (E.out w).mono ?_); rintro e w2 ⟨rfl, hb⟩; have HB := Lib.hid hb; clear hb)
      | (go_at_call 39; (with_reducible refine (E2.out _).mono ?_); rintro e w3 ⟨rfl, hb⟩; have HB2 := Lib.hid (HB.out.trans (hb.mono HB.out.size)); clear hb))
    go_ret
    exact ⟨rfl, HB2.out⟩
theorem isEqualDoor_any (p q : Nat × Nat) (w : World) : Calls Tryz.prog 18 #[.iface 56 (gpV p), .iface 56 (gpV q)] w fun e w' => e = .returned (.bool (peq p q)) ∧ Below w.heap.size w w' := by
  have E := Lib.hid (fun W => isEqual_any p q W)
  generalize peq p q = B at *
  generalize gpV p = vp at *
  generalize gpV q = vq at *
  go_enter Tryz.func18, Tryz.ntmps18
  go_wp2_with (go_at_call 28; go_loud (with_reducible refine (E.out _).mono ?_); rintro e w2 ⟨rfl, hb⟩; have HB := Lib.hid hb; clear hb)
  go_ret
  exact ⟨rfl, HB.out⟩
theorem six {w : World} {b : Nat} {v0 v1 v2 v3 v4 v5 : Value} {t : TypeId} (h : w.heap[b]? = some (.cells #[v0, v1, v2, v3, v4, v5] t (0, 0))) : w.cell? ⟨b, 0, none⟩ = some v0 ∧ w.cell? ⟨b, 1, none⟩ = some v1 ∧ w.cell? ⟨b, 2, none⟩ = some v2 ∧ w.cell? ⟨b, 3, none⟩ = some v3 ∧ w.cell? ⟨b, 4, none⟩ = some v4 ∧ w.cell? ⟨b, 5, none⟩ = some v5 := by
  refine ⟨?_, ?_, ?_, ?_, ?_, ?_⟩ <;> simp [World.cell?, h]
theorem three_blocks (w : World) (x y z : Obj) : (((w.alloc x).alloc y).alloc z).heap[w.heap.size]? = some x ∧ (((w.alloc x).alloc y).alloc z).heap[w.heap.size + 1]? = some y ∧ (((w.alloc x).alloc y).alloc z).heap[w.heap.size + 2]? = some z ∧ (((w.alloc x).alloc y).alloc z).heap.size = w.heap.size + 3 := by
  have h1 := heap_alloc_new w x
  have h2 := heap_alloc_new (w.alloc x) y
  have h3 := heap_alloc_new ((w.alloc x).alloc y) z
  have s1 : (w.alloc x).heap.size = w.heap.size + 1 := by simp
  have s2 : ((w.alloc x).alloc y).heap.size = w.heap.size + 2 := by simp
  have s3 : (((w.alloc x).alloc y).alloc z).heap.size = w.heap.size + 3 := by simp
  have b2 : Below ((w.alloc x).alloc y).heap.size ((w.alloc x).alloc y) (((w.alloc x).alloc y).alloc z) := (Below.refl _ _).alloc (Nat.le_refl _) _
  have b1 : Below (w.alloc x).heap.size (w.alloc x) ((w.alloc x).alloc y) := (Below.refl _ _).alloc (Nat.le_refl _) _
  refine ⟨?_, ?_, ?_, s3⟩
  · exact (b2.block _ (by omega)).trans ((b1.block _ (by omega)).trans h1)
  · rw [s1] at h2
    exact (b2.block _ (by omega)).trans h2
  · rw [s2] at h3
    exact h3
theorem set_one {w : World} {b : Nat} {v : Value} {t : TypeId} (h : w.heap[b]? = some (.cells #[v] t (0, 0))) (u : Value) : (w.setCell ⟨b, 0, none⟩ u).heap[b]? = some (.cells #[u] t (0, 0)) := by
  have hlt := lt_of_block h
  have h' : w.heap[b] = .cells #[v] t (0, 0) := by simpa [Array.getElem?_eq_getElem hlt] using h
  show (w.heap.modify b _)[b]? = _
  rw [Array.getElem?_eq_getElem (by simpa using hlt), Array.getElem_modify_self, h']
  rfl
/-- What is asked of two points. -/
theorem geEqual_any (A1 A2 : Option Addr) (c1 c2 : Nat) (p q : Nat × Nat) (w : World) (hr1 : Rd w 2 (.slice A1 1 c1) 1 (pc [p])) (hr2 : Rd w 2 (.slice A2 1 c2) 1 (pc [q])) :
    Calls Tryz.prog 8 #[gv A1 c1, gv A2 c2] w fun e w' => e = .returned (.bool (peq p q)) ∧ Below w.heap.size w w' := by
  have V1 := Lib.hid (fun W (hW : Below w.heap.size w W) => value_any A1 c1 p W (hr1.below hW))
  have V2 := Lib.hid (fun W (hW : Below w.heap.size w W) => value_any A2 c2 q W (hr2.below hW))
  have E := Lib.hid (fun W => isEqualDoor_any p q W)
  generalize peq p q = B at *
  generalize gpV p = vp at *
  generalize gpV q = vq at *
  have HW := Lib.hid ((((Below.refl w.heap.size w).alloc (Nat.le_refl _) (.cells #[.int .i64 1, .int .u32 0, .slice A1 1 c1, .slice none 0 0, .slice none 0 0, .slice none 0 0] 33)).alloc (by simp) (.cells #[.int .i64 1, .int .u32 0, .slice A2 1 c2, .slice none 0 0, .slice none 0 0, .slice none 0 0] 33)).alloc (by simp; omega) (.cells #[.bool false] 4))
  have HB1 := Lib.hid (three_blocks w (.cells #[.int .i64 1, .int .u32 0, .slice A1 1 c1, .slice none 0 0, .slice none 0 0, .slice none 0 0] 33) (.cells #[.int .i64 1, .int .u32 0, .slice A2 1 c2, .slice none 0 0, .slice none 0 0, .slice none 0 0] 33) (.cells #[.bool false] 4)).1
  have HB2 := Lib.hid (three_blocks w (.cells #[.int .i64 1, .int .u32 0, .slice A1 1 c1, .slice none 0 0, .slice none 0 0, .slice none 0 0] 33) (.cells #[.int .i64 1, .int .u32 0, .slice A2 1 c2, .slice none 0 0, .slice none 0 0, .slice none 0 0] 33) (.cells #[.bool false] 4)).2.1
  have HR3 := Lib.hid (three_blocks w (.cells #[.int .i64 1, .int .u32 0, .slice A1 1 c1, .slice none 0 0, .slice none 0 0, .slice none 0 0] 33) (.cells #[.int .i64 1, .int .u32 0, .slice A2 1 c2, .slice none 0 0, .slice none 0 0, .slice none 0 0] 33) (.cells #[.bool false] 4)).2.2.1
  have hsz := (three_blocks w (.cells #[.int .i64 1, .int .u32 0, .slice A1 1 c1, .slice none 0 0, .slice none 0 0, .slice none 0 0] 33) (.cells #[.int .i64 1, .int .u32 0, .slice A2 1 c2, .slice none 0 0, .slice none 0 0, .slice none 0 0] 33) (.cells #[.bool false] 4)).2.2.2
  clear hr1 hr2
  go_enter_defers Tryz.func8, Tryz.ntmps8
  go_upto_region 2 with fail
  generalize (((w.alloc (.cells #[.int .i64 1, .int .u32 0, .slice A1 1 c1, .slice none 0 0, .slice none 0 0, .slice none 0 0] 33)).alloc (.cells #[.int .i64 1, .int .u32 0, .slice A2 1 c2, .slice none 0 0, .slice none 0 0, .slice none 0 0] 33)).alloc (.cells #[.bool false] 4)) = X at *
  refine wp_region_noPanic ?_
  refine Rv.region_fin (n := 10) (by kernel_rfl) #[5, 6, 7, 8, 9, 1005] #[] (fun i f W => if i = 5 then (fun _ W => W.heap[w.heap.size + 2]? = some (.cells #[.bool B] 4 (0, 0))) f W else f i = (#[gv A1 c1, .iface 56 vp, gv A2 c2, .iface 56 vq, .bool B, undef] : Array Value).getD i undef) (fun i j => false) (fun i => i == 5) (fun i f W W' => True) (fun W => Below (w.heap.size + 2) X W ∧ X.heap.size ≤ W.heap.size) (fun W => W.heap[w.heap.size + 2]? = some (.cells #[.bool false] 4 (0, 0))) (fun _ _ _ => True) (fun _ _ _ _ _ _ _ _ => trivial) (fun i f f' w hi h hd hg => ?_) (fun i j f w w' hi hj hij hK hdp h hr => ?_) (fun i h g b hg => ?_) rfl (by kernel_rfl) (fun i h g b hg => ?_) (⟨(Below.refl _ _).drew, Nat.le_refl _⟩) (HR3.out) (fun _ => trivial) (fun i h hr f w hf => ?_) (fun _ _ _ _ _ _ _ _ => trivial) ?_ ?_
  · by_cases hi1005 : i = 5
    · subst hi1005
      rw [if_pos rfl] at hg ⊢
      exact hg
    rw [if_neg hi1005] at hg ⊢
    rw [← h]; exact hg
  · by_cases hj1005 : j = 5
    · subst hj1005
      rw [if_pos rfl] at h ⊢
      rcases hr with ⟨hr, _⟩ | hr
      · exact absurd (beq_iff_eq.1 hr) hij
      · exact (hr.block _ (lt_of_block h)).trans h
    rw [if_neg hj1005] at h ⊢
    exact h
  · match i, h, hg with
    | 0, _, hg => cases hg
    | 1, _, hg => cases hg
    | 2, _, hg => cases hg
    | 3, _, hg => cases hg
    | 4, _, hg => cases hg
    | 5, _, hg => cases hg
    | m + 6, h, _ => exact absurd h (by show ¬ m + 6 < 6; omega)
  · match i, h, hg with
    | 0, _, hg => cases hg
    | 1, _, hg => cases hg
    | 2, _, hg => cases hg
    | 3, _, hg => cases hg
    | 4, _, hg => cases hg
    | 5, _, hg => cases hg
    | m + 6, h, _ => exact absurd h (by show ¬ m + 6 < 6; omega)
  · match i, h, hr, hf with
    | 0, _, hr, _ => exact Bool.noConfusion (show true = false from hr)
    | 1, _, hr, _ => exact Bool.noConfusion (show true = false from hr)
    | 2, _, hr, _ => exact Bool.noConfusion (show true = false from hr)
    | 3, _, hr, _ => exact Bool.noConfusion (show true = false from hr)
    | 4, _, hr, _ => exact Bool.noConfusion (show true = false from hr)
    | 5, _, hr, _ => exact Bool.noConfusion (show true = false from hr)
    | m + 6, h, _, _ => exact absurd h (by show ¬ m + 6 < 6; omega)
  · intro i h a W hrun hbase hpre hdep htr hta hJ
    obtain ⟨k0, k1, k2, k3, k4, k5⟩ := six ((htr.1.block _ (by omega)).trans HB1.out)
    obtain ⟨m0, m1, m2, m3, m4, m5⟩ := six ((htr.1.block _ (by omega)).trans HB2.out)
    have hwW := HW.out.trans (htr.1.mono (by omega))
    match i, h with
    | 0, _ =>
      obtain ⟨e2, x2⟩ := Rv.ev (show a.tmps.getD 2 undef = .pointer (some ⟨w.heap.size, 0, none⟩) from hbase 2 rfl)
      exact Rv.step_op (op := Go.Op.load 33 (Go.Operand.tmp 2)) (v := gv A1 c1) (w1 := W) rfl rfl (fun d pos aft g => by unfold execOp; go_simp) ⟨_, rfl, rfl, .inr (Below.refl _ _), htr, fun _ ht => ht, fun _ _ _ => trivial⟩
    | 1, _ =>
      obtain ⟨e5, x5⟩ := Rv.ev (show a.tmps.getD 5 undef = gv A1 c1 from hdep 0 rfl rfl)
      have cf : ∀ x0 W, (callFunc 19 #[x0]).run Tryz.prog W = .ok (.enter 19 #[x0]) W := fun _ _ => by kernel_rfl
      refine Rv.step_fn (op := Go.Op.call { callee := Go.Callee.value (Go.Operand.func 19), args := #[Go.Operand.tmp 5], argTypes := #[33] }) (f := 19) (args := #[gv A1 c1]) (R := fun v W' => v = .iface 56 vp ∧ Below W.heap.size W W') rfl rfl (fun d pos aft g => by unfold execOp; go_simp) ((V1.out W hwW).mono ?_) ?_
      · (rintro e W' ⟨rfl, hb⟩; exact ⟨_, rfl, rfl, hb⟩)
      · (rintro v W' ⟨rfl, hb⟩; exact ⟨_, rfl, rfl, .inr hb, (fun W W' ht hb => ⟨ht.1.trans (hb.mono (by have := ht.2; omega)), Nat.le_trans ht.2 hb.size⟩) W W' htr hb, fun _ ht => (fun W W' ht hb => (hb.block _ (lt_of_block ht)).trans ht) W W' ht hb, fun _ _ _ => trivial⟩)
    | 2, _ =>
      obtain ⟨e3, x3⟩ := Rv.ev (show a.tmps.getD 3 undef = .pointer (some ⟨w.heap.size + 1, 0, none⟩) from hbase 3 rfl)
      exact Rv.step_op (op := Go.Op.load 33 (Go.Operand.tmp 3)) (v := gv A2 c2) (w1 := W) rfl rfl (fun d pos aft g => by unfold execOp; go_simp) ⟨_, rfl, rfl, .inr (Below.refl _ _), htr, fun _ ht => ht, fun _ _ _ => trivial⟩
    | 3, _ =>
      obtain ⟨e7, x7⟩ := Rv.ev (show a.tmps.getD 7 undef = gv A2 c2 from hdep 2 rfl rfl)
      have cf : ∀ x0 W, (callFunc 19 #[x0]).run Tryz.prog W = .ok (.enter 19 #[x0]) W := fun _ _ => by kernel_rfl
      refine Rv.step_fn (op := Go.Op.call { callee := Go.Callee.value (Go.Operand.func 19), args := #[Go.Operand.tmp 7], argTypes := #[33] }) (f := 19) (args := #[gv A2 c2]) (R := fun v W' => v = .iface 56 vq ∧ Below W.heap.size W W') rfl rfl (fun d pos aft g => by unfold execOp; go_simp) ((V2.out W hwW).mono ?_) ?_
      · (rintro e W' ⟨rfl, hb⟩; exact ⟨_, rfl, rfl, hb⟩)
      · (rintro v W' ⟨rfl, hb⟩; exact ⟨_, rfl, rfl, .inr hb, (fun W W' ht hb => ⟨ht.1.trans (hb.mono (by have := ht.2; omega)), Nat.le_trans ht.2 hb.size⟩) W W' htr hb, fun _ ht => (fun W W' ht hb => (hb.block _ (lt_of_block ht)).trans ht) W W' ht hb, fun _ _ _ => trivial⟩)
    | 4, _ =>
      obtain ⟨e6, x6⟩ := Rv.ev (show a.tmps.getD 6 undef = .iface 56 vp from hdep 1 rfl rfl)
      obtain ⟨e8, x8⟩ := Rv.ev (show a.tmps.getD 8 undef = .iface 56 vq from hdep 3 rfl rfl)
      have cf : ∀ x0 x1 W, (callFunc 18 #[x0, x1]).run Tryz.prog W = .ok (.enter 18 #[x0, x1]) W := fun _ _ _ => by kernel_rfl
      refine Rv.step_fn (op := Go.Op.call { callee := Go.Callee.value (Go.Operand.func 18), args := #[Go.Operand.tmp 6, Go.Operand.tmp 8], argTypes := #[48, 48] }) (f := 18) (args := #[.iface 56 vp, .iface 56 vq]) (R := fun v W' => v = .bool B ∧ Below W.heap.size W W') rfl rfl (fun d pos aft g => by unfold execOp; go_simp) ((E.out W).mono ?_) ?_
      · (rintro e W' ⟨rfl, hb⟩; exact ⟨_, rfl, rfl, hb⟩)
      · (rintro v W' ⟨rfl, hb⟩; exact ⟨_, rfl, rfl, .inr hb, (fun W W' ht hb => ⟨ht.1.trans (hb.mono (by have := ht.2; omega)), Nat.le_trans ht.2 hb.size⟩) W W' htr hb, fun _ ht => (fun W W' ht hb => (hb.block _ (lt_of_block ht)).trans ht) W W' ht hb, fun _ _ _ => trivial⟩)
    | 5, _ =>
      obtain ⟨e4, x4⟩ := Rv.ev (show a.tmps.getD 4 undef = .pointer (some ⟨w.heap.size + 2, 0, none⟩) from hbase 4 rfl)
      obtain ⟨e9, x9⟩ := Rv.ev (show a.tmps.getD 9 undef = .bool B from hdep 4 rfl rfl)
      have hta := hta rfl
      obtain ⟨n0, n1⟩ := cell1 hta
      exact Rv.step_skip (op := Go.Op.store 4 (Go.Operand.tmp 4) (Go.Operand.tmp 9)) (ty := 0) (w1 := W.setCell ⟨w.heap.size + 2, 0, none⟩ (.bool B)) rfl rfl (fun d pos aft g => by unfold execOp; go_simp) ⟨undef, rfl, set_one hta _, .inl ⟨rfl, trivial⟩, ⟨htr.1.setCell (Nat.le_refl _) _, by have := htr.2; simpa using this⟩, (fun h _ => by cases h), fun _ _ _ => trivial⟩
    | m + 6, h => exact absurd h (by show ¬ m + 6 < 6; omega)
  intro W f hf htr hJ
  have f0 : f 0 = gv A1 c1 := hf 0 (by show 0 < 6; omega) rfl
  have f1 : f 1 = .iface 56 vp := hf 1 (by show 1 < 6; omega) rfl
  have f2 : f 2 = gv A2 c2 := hf 2 (by show 2 < 6; omega) rfl
  have f3 : f 3 = .iface 56 vq := hf 3 (by show 3 < 6; omega) rfl
  have f4 : f 4 = .bool B := hf 4 (by show 4 < 6; omega) rfl
  have HS5 := Lib.hid (show (fun _ W => W.heap[w.heap.size + 2]? = some (.cells #[.bool B] 4 (0, 0))) f W from hf 5 (by show 5 < 6; omega) rfl)
  clear hf
  refine (show ∀ (a : Act) (w : World), Code.wp _ _ _ a w → _ from by assumption) _ _ ?_
  refine Rv.fin_swap (L' := [(5, f 0), (6, f 1), (7, f 2), (8, f 3), (9, f 4), (1005, f 5)]) rfl ?_
  rw [f0, f1, f2, f3, f4]
  clear f0 f1 f2 f3 f4
  simp only [Rv.fin, List.foldl_cons, List.foldl_nil, Act.put, List.setIfInBounds_toArray, List.set_cons_succ, List.set_cons_zero, List.set_nil]
  have HRW : Hid (W.heap[w.heap.size + 2]? = some (.cells #[.bool B] 4 (0, 0))) := Lib.hid HS5.out
  obtain ⟨kk, _⟩ := cell1 HRW.out
  have B3 := Lib.hid (HW.out.trans (htr.1.mono (by omega)))
  go_wp2
  refine leaves_cons (f := 17) (args := #[.pointer (some ⟨w.heap.size + 2, 0, none⟩)]) (by simp) (by simp [go_sem]) ?_
  refine (caught_idle ⟨w.heap.size + 2, 0, none⟩ _).mono ?_
  rintro e u' w'' ⟨rfl, rfl, rfl⟩
  simp [Leaves, settle, results, go_sem, kk]
  exact B3.out
end Go.Proofs.YtfelbaibbanllaaGreat.Ge

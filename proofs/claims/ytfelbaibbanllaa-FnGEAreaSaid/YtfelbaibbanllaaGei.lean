/- Rings of points: copies of points, a ring, as the law makes them. Conditions: those written at each lemma. -/
import Derived.Test.YtfelbaibbanllaaGeh
import Derived.WalkSpells
import Derived.Deep.RegionLaw
import Derived.Test.YtfelbaibbanllaaRv
set_option linter.unusedVariables false
set_option linter.unusedSimpArgs false
set_option maxRecDepth 100000
set_option maxHeartbeats 4000000
namespace Go.Proofs.Ytfelbaibbanllaa.Ge
open Go.RowKit Go.Proofs.Ytfelbaibbanllaa.B
attribute [local go_sem] run_store_float

theorem pc_one (l : List (Nat × Nat)) : ∀ u ∈ pc l, u.oneCell' = true := fun u hu => by
  unfold pc at hu
  obtain ⟨p, _, h⟩ := List.mem_flatMap.1 hu
  simp at h
  rcases h with rfl | rfl <;> rfl
/-- A copy of points, in memory of the call's own. -/
def Copy (l : List (Nat × Nat)) (w : World) (e : Ending) (w' : World) : Prop := ∃ A c, e = .returned (.slice A l.length c) ∧ w'.ownsRow w.heap.size 28 2 (.slice A l.length c) l.length (pc l) ∧ Below w.heap.size w w'
theorem clone_any (A : Option Addr) (c : Nat) (l : List (Nat × Nat)) (w : World) (hr : Rd w 2 (.slice A l.length c) l.length (pc l)) (hl : l.length ≤ 100000) :
    Calls Try.prog 9 #[.slice A l.length c] w fun e w' => Copy l w e w' := by
  have HR := Lib.hid hr
  rcases A with _ | a
  · have h0 : l.length = 0 := by
      rcases Nat.eq_zero_or_pos l.length with h | h
      · exact h
      · obtain ⟨b, o, c', e, _⟩ := hr.open h
        injection e with e
        cases e
    obtain rfl : l = [] := List.eq_nil_of_length_eq_zero h0
    have hn := fun W n c => Lib.run_eql_slice_nil (P := Try.prog) W 22 28 none n c 0 0 Try.underlying22
    clear hr
    go_enter Try.func9, Try.ntmps9
    go_wp2
    go_ret
    exact ⟨none, 0, rfl, World.ownsRow_nil _ _ _ _, Below.refl _ _⟩
  · have hn := fun W n c => Lib.run_eql_slice_nil (P := Try.prog) W 22 28 (some a) n c 0 0 Try.underlying22
    have HB := Lib.hid ((Below.refl w.heap.size w).alloc (Nat.le_refl _) (.cells #[] 28))
    have HO := Lib.hid (World.ownsRow_lit (base := w.heap.size) (e := 28) (size := 2) w #[] 0 (Nat.le_refl _) (by simp [maxLen]) rfl)
    have HR2 := Lib.hid (HR.out.below HB.out)
    have HE : Hid (0 + l.length = l.length) := Lib.hid (by omega)
    clear hr
    go_enter Try.func9, Try.ntmps9
    go_wp2_with (at_builtin; go_loud (refine appRs (w0 := w) rfl (.tmp 5) (.tmp 6) 22 rfl w.heap.size 28 (.agg #[.float .f64 0, .float .f64 0]) 2 16 Try.underlying22 info28 rfl (by omega) (by omega) _ 0 [] rfl HO.out HB.out _ l.length (pc l) rfl HR2.out (pc_one l) (by omega) (by simp) ?_); intro A2 c2 w2 ho hb _; have HO2 := Lib.hid ho; have HB2 := Lib.hid hb; clear ho hb)
    go_ret
    exact ⟨A2, c2, rfl, by have h := HO2.out; rwa [List.nil_append, HE.out] at h, HB2.out⟩
theorem linRing_any (A : Option Addr) (c m : Nat) (l : List (Nat × Nat)) (w : World) (hr : Rd w 3 (.slice A (m + 1) c) (m + 1) (qc l)) (hl : l.length = m + 1) :
    Calls Try.prog 41 #[lineV A (m + 1) c] w fun e w' => e = .returned (.bool (decide (4 ≤ m + 1) && peq (l[0]'(by omega)) (l[m]'(by omega)))) ∧ Below w.heap.size w w' := by
  have hX := Lib.hid ((Below.refl w.heap.size w).alloc (Nat.le_refl _) (.cells #[.int .u32 0, .slice A (m + 1) c] 57))
  have C := Lib.hid (ring_any A c m l _ (hr.below hX.out) hl)
  generalize (decide (4 ≤ m + 1) && peq (l[0]'(by omega)) (l[m]'(by omega))) = b at *
  clear hr
  go_enter Try.func41, Try.ntmps41
  go_wp2_with (go_at_call 66; go_loud (with_reducible refine C.out.mono ?_); rintro e w2 ⟨rfl, hb⟩; have HB := Lib.hid (hX.out.trans (hb.mono hX.out.size)); clear hb)
  go_ret
  exact ⟨rfl, HB.out⟩
theorem geRing_any (A : Option Addr) (c : Nat) (p : Nat × Nat) (l : List (Nat × Nat)) (w : World) (hr : Rd w 2 (.slice A (p :: l).length c) (p :: l).length (pc (p :: l))) (hl : (p :: l).length ≤ 10000) :
    Calls Try.prog 8 #[.slice A (p :: l).length c] w fun e w' => Copy (p :: l ++ [p]) w e w' := by
  obtain ⟨b, o, rfl, hb, c0, c1⟩ := pc_at hr 0 (by simp)
  simp only [List.getElem_cons_zero, Nat.zero_mul, Nat.add_zero] at c0 c1
  have HR := Lib.hid hr
  have CL := Lib.hid (fun W (hW : Below w.heap.size w W) => clone_any _ c (p :: l) W (hr.below hW) (by omega))
  have K := Lib.hid (fun W (hW : Below w.heap.size w W) => And.intro ((hW.cell (p := ⟨b, o, none⟩) hb).trans c0) ((hW.cell (p := ⟨b, o + 1, none⟩) hb).trans c1))
  have hn : 0 < (p :: l).length := by simp
  have hle := hr.le
  obtain ⟨x, y⟩ := p
  generalize hq : (x, y) :: l = q at *
  have HQ := Lib.hid hq
  have HLL := Lib.hid (show (q ++ [(x, y)]).length = q.length + 1 by simp)
  have HPC := Lib.hid (show pc (q ++ [(x, y)]) = pc q ++ [.float .f64 x, .float .f64 y] from pc_append _ _)
  unfold Copy
  rw [HLL.out, HPC.out]
  unfold Copy at CL
  clear hr c0 c1 hq
  go_enter Try.func8, Try.ntmps8
  go_upto_region 1 with fail
  refine Rv.region_kills (n := 10) (by kernel_rfl) #[3, 4, 5, 6, 7, 8, 9, 2] #[] (fun i v W => if i = 7 then (fun v W => ∃ A9 c9, v = .slice A9 (q.length + 1) c9 ∧ W.ownsRow w.heap.size 28 2 (.slice A9 (q.length + 1) c9) (q.length + 1) (pc q ++ [.float .f64 x, .float .f64 y])) v W else if i = 6 then (fun v W => ∃ A9 c9, v = .slice A9 (q.length + 1) c9 ∧ W.ownsRow w.heap.size 28 2 (.slice A9 (q.length + 1) c9) (q.length + 1) (pc q ++ [.float .f64 x, .float .f64 y])) v W else if i = 5 then (fun v W => ∃ g, v = .slice (some ⟨g, 0, none⟩) 1 1 ∧ g < W.heap.size ∧ Rd W 2 (.slice (some ⟨g, 0, none⟩) 1 1) 1 [.float .f64 x, .float .f64 y]) v W else if i = 1 then (fun v W => ∃ A4 c4, v = .slice A4 q.length c4 ∧ W.ownsRow w.heap.size 28 2 (.slice A4 q.length c4) q.length (pc q)) v W else v = (#[.slice (some ⟨b, o, none⟩) q.length c, undef, .slice (some ⟨b, o, none⟩) q.length c, .pointer (some ⟨b, o, none⟩), .agg #[.float .f64 x, .float .f64 y], undef, undef, undef] : Array Value).getD i undef) (fun i j => (i == 6 && (j == 1 || j == 5))) (fun i => i == 6) (fun i j v w w' hij hK hdp h hb => ?_) (fun i h g b hg => ?_) rfl (by kernel_rfl) (by kernel_rfl) (fun i h g b hg => ?_) (fun i h hr w => ?_) ?_ ?_
  · by_cases hj2 : j = 7
    · subst hj2
      rw [if_pos rfl] at h ⊢
      rcases hb with hb | hb
      · (exfalso; obtain rfl : i = 6 := beq_iff_eq.1 hb; revert hK hdp hij; decide)
      · (obtain ⟨A, c, e, h⟩ := h; exact ⟨A, c, e, own_below h hb⟩)
    rw [if_neg hj2] at h ⊢
    by_cases hj9 : j = 6
    · subst hj9
      rw [if_pos rfl] at h ⊢
      rcases hb with hb | hb
      · (exfalso; obtain rfl : i = 6 := beq_iff_eq.1 hb; revert hK hdp hij; decide)
      · (obtain ⟨A, c, e, h⟩ := h; exact ⟨A, c, e, own_below h hb⟩)
    rw [if_neg hj9] at h ⊢
    by_cases hj8 : j = 5
    · subst hj8
      rw [if_pos rfl] at h ⊢
      rcases hb with hb | hb
      · (exfalso; obtain rfl : i = 6 := beq_iff_eq.1 hb; revert hK hdp hij; decide)
      · (obtain ⟨g, e, h1, h⟩ := h; exact ⟨g, e, Nat.lt_of_lt_of_le h1 hb.size, h.below hb⟩)
    rw [if_neg hj8] at h ⊢
    by_cases hj4 : j = 1
    · subst hj4
      rw [if_pos rfl] at h ⊢
      rcases hb with hb | hb
      · (exfalso; obtain rfl : i = 6 := beq_iff_eq.1 hb; revert hK hdp hij; decide)
      · (obtain ⟨A, c, e, h⟩ := h; exact ⟨A, c, e, own_below h hb⟩)
    rw [if_neg hj4] at h ⊢
    exact h
  · match i, h, hg with
    | 0, _, hg => cases hg
    | 1, _, hg => cases hg
    | 2, _, hg => cases hg
    | 3, _, hg => cases hg
    | 4, _, hg => cases hg
    | 5, _, hg => cases hg
    | 6, _, hg => cases hg
    | 7, _, hg => cases hg
    | m + 8, h, _ => exact absurd h (by show ¬ m + 8 < 8; omega)
  · match i, h, hg with
    | 0, _, hg => cases hg
    | 1, _, hg => cases hg
    | 2, _, hg => cases hg
    | 3, _, hg => cases hg
    | 4, _, hg => cases hg
    | 5, _, hg => cases hg
    | 6, _, hg => cases hg
    | 7, _, hg => cases hg
    | m + 8, h, _ => exact absurd h (by show ¬ m + 8 < 8; omega)
  · match i, h, hr with
    | 0, _, hr => exact Bool.noConfusion (show true = false from hr)
    | 1, _, hr => exact Bool.noConfusion (show true = false from hr)
    | 2, _, hr => exact Bool.noConfusion (show true = false from hr)
    | 3, _, hr => exact Bool.noConfusion (show true = false from hr)
    | 4, _, hr => exact Bool.noConfusion (show true = false from hr)
    | 5, _, hr => exact Bool.noConfusion (show true = false from hr)
    | 6, _, hr => exact Bool.noConfusion (show true = false from hr)
    | 7, _, hr => exact Bool.noConfusion (show true = false from hr)
    | m + 8, h, _ => exact absurd h (by show ¬ m + 8 < 8; omega)
  · intro i h a W hrun hbase hpre hdep htr
    obtain ⟨k0, k1⟩ := K.out W htr
    match i, h with
    | 0, _ =>
      obtain ⟨e0, x0⟩ := Rv.ev (show a.tmps.getD 0 undef = .slice (some ⟨b, o, none⟩) q.length c from hbase 0 rfl)
      exact Rv.step_op (op := Go.Op.move (Go.Operand.tmp 0)) (v := .slice (some ⟨b, o, none⟩) q.length c) (w1 := W) rfl rfl (fun d pos aft g => by unfold execOp; go_simp) ⟨_, rfl, rfl, (.inr (Below.refl _ _)), htr⟩
    | 1, _ =>
      obtain ⟨e3, x3⟩ := Rv.ev (show a.tmps.getD 3 undef = .slice (some ⟨b, o, none⟩) q.length c from hdep 0 rfl rfl)
      have cf : ∀ x0 W, (callFunc 9 #[x0]).run Try.prog W = .ok (.enter 9 #[x0]) W := fun _ _ => by kernel_rfl
      refine Rv.step_fn (op := Go.Op.call { callee := Go.Callee.value (Go.Operand.func 9), args := #[Go.Operand.tmp 3], argTypes := #[22] }) (ty := 22) (f := 9) (args := #[.slice (some ⟨b, o, none⟩) q.length c]) (R := fun v W' => (∃ A4 c4, v = .slice A4 q.length c4 ∧ W'.ownsRow w.heap.size 28 2 (.slice A4 q.length c4) q.length (pc q)) ∧ Below W.heap.size W W') rfl rfl (fun d pos aft g => by unfold execOp; go_simp) ((CL.out W htr).mono ?_) ?_
      · (rintro e W' ⟨A4, c4, rfl, ho, hb⟩; exact ⟨_, rfl, ⟨A4, c4, rfl, ho.mono htr.size⟩, hb⟩)
      · (rintro v W' ⟨hv, hb⟩; exact ⟨v, rfl, hv, .inr hb, htr.trans (hb.mono htr.size)⟩)
    | 2, _ =>
      obtain ⟨e0, x0⟩ := Rv.ev (show a.tmps.getD 0 undef = .slice (some ⟨b, o, none⟩) q.length c from hbase 0 rfl)
      exact Rv.step_op (op := Go.Op.move (Go.Operand.tmp 0)) (v := .slice (some ⟨b, o, none⟩) q.length c) (w1 := W) rfl rfl (fun d pos aft g => by unfold execOp; go_simp) ⟨_, rfl, rfl, (.inr (Below.refl _ _)), htr⟩
    | 3, _ =>
      obtain ⟨e5, x5⟩ := Rv.ev (show a.tmps.getD 5 undef = .slice (some ⟨b, o, none⟩) q.length c from hdep 2 rfl rfl)
      exact Rv.step_op (op := Go.Op.indexAddr 22 (Go.Operand.tmp 5) (Go.Operand.const (Go.Value.int Go.IntKind.i64 0))) (v := .pointer (some ⟨b, o, none⟩)) (w1 := W) rfl rfl (fun d pos aft g => by unfold execOp; go_simp) ⟨_, rfl, rfl, (.inr (Below.refl _ _)), htr⟩
    | 4, _ =>
      obtain ⟨e6, x6⟩ := Rv.ev (show a.tmps.getD 6 undef = .pointer (some ⟨b, o, none⟩) from hdep 3 rfl rfl)
      exact Rv.step_op (op := Go.Op.load 28 (Go.Operand.tmp 6)) (v := .agg #[.float .f64 x, .float .f64 y]) (w1 := W) rfl rfl (fun d pos aft g => by unfold execOp; go_simp) ⟨_, rfl, rfl, (.inr (Below.refl _ _)), htr⟩
    | 5, _ =>
      obtain ⟨e7, x7⟩ := Rv.ev (show a.tmps.getD 7 undef = .agg #[.float .f64 x, .float .f64 y] from hdep 4 rfl rfl)
      have hal : Below W.heap.size W (W.alloc (.cells #[.float .f64 x, .float .f64 y] 28)) := (Below.refl _ _).alloc (Nat.le_refl _) _
      exact Rv.step_op (op := Go.Op.buildSlice 22 1 #[(0, Go.Operand.tmp 7)]) (ty := 22) (v := .slice (some ⟨W.heap.size, 0, none⟩) 1 1) (w1 := W.alloc (.cells #[.float .f64 x, .float .f64 y] 28)) rfl rfl (fun d pos aft g => by unfold execOp; go_simp) ⟨_, rfl, ⟨W.heap.size, rfl, by simp, Rd.of_own (World.ownsRow_lit (base := W.heap.size) (e := 28) (size := 2) W #[.float .f64 x, .float .f64 y] 1 (Nat.le_refl _) (by simp [maxLen]) rfl)⟩, .inr hal, htr.trans (hal.mono htr.size)⟩
    | 6, _ =>
      obtain ⟨A4, c4, e4', h4⟩ : ∃ A4 c4, a.tmps.getD 4 undef = .slice A4 q.length c4 ∧ W.ownsRow w.heap.size 28 2 (.slice A4 q.length c4) q.length (pc q) := hdep 1 rfl rfl
      obtain ⟨e4, x4⟩ := Rv.ev e4'
      obtain ⟨g8, e8', l8, h8⟩ : ∃ g, a.tmps.getD 8 undef = .slice (some ⟨g, 0, none⟩) 1 1 ∧ g < W.heap.size ∧ Rd W 2 (.slice (some ⟨g, 0, none⟩) 1 1) 1 [.float .f64 x, .float .f64 y] := hdep 5 rfl rfl
      obtain ⟨e8, x8⟩ := Rv.ev e8'
      obtain ⟨v', w', hrun, h2, h3, _⟩ := run_append_rd (P := Try.prog) W w.heap.size 22 22 28 (.agg #[.float .f64 0, .float .f64 0]) 2 16 Try.underlying22 info28 rfl (by omega) (by omega) _ _ _ h4 _ _ _ h8 (by simp [Value.oneCell']) (by omega) htr.size
      obtain ⟨A9, c9, rfl, _⟩ := (Rd.of_own h2).shape
      exact Rv.step_op (op := Go.Op.call { callee := Go.Callee.builtin Go.Builtin.append, args := #[Go.Operand.tmp 4, Go.Operand.tmp 8], argTypes := #[22, 22] }) (ty := 22) (v := .slice A9 (q.length + 1) c9) (w1 := w') rfl rfl (fun d pos aft g => by unfold execOp; simp only [resolve, invoke, builtin, Sem.run_bind, Sem.run_pure, Result.andThen_ok, List.map_toArray, List.map_cons, List.map_nil, e4, e8, hrun]) ⟨_, rfl, ⟨A9, c9, rfl, h2⟩, .inl rfl, htr.grown h3 htr.size (own_base h4)⟩
    | 7, _ =>
      obtain ⟨A9, c9, e9', h9⟩ : ∃ A9 c9, a.tmps.getD 9 undef = .slice A9 (q.length + 1) c9 ∧ W.ownsRow w.heap.size 28 2 (.slice A9 (q.length + 1) c9) (q.length + 1) (pc q ++ [Value.float .f64 x, Value.float .f64 y]) := hdep 6 rfl rfl
      obtain ⟨e9, x9⟩ := Rv.ev e9'
      exact Rv.step_op (op := Go.Op.assign (Go.Operand.tmp 9)) (ty := 22) (v := .slice A9 (q.length + 1) c9) (w1 := W) rfl rfl (fun d pos aft g => by unfold execOp; go_simp) ⟨_, rfl, ⟨A9, c9, rfl, h9⟩, .inr (Below.refl _ _), htr⟩
    | m + 8, h => exact absurd h (by show ¬ m + 8 < 8; omega)
  intro W f hf htr
  have f0 : f 0 = .slice (some ⟨b, o, none⟩) q.length c := hf 0 (by show 0 < 8; omega) rfl
  have f2 : f 2 = .slice (some ⟨b, o, none⟩) q.length c := hf 2 (by show 2 < 8; omega) rfl
  have f3 : f 3 = .pointer (some ⟨b, o, none⟩) := hf 3 (by show 3 < 8; omega) rfl
  have f4 : f 4 = .agg #[.float .f64 x, .float .f64 y] := hf 4 (by show 4 < 8; omega) rfl
  have f6 := hf 6 (by show 6 < 8; omega) rfl
  have f7 := hf 7 (by show 7 < 8; omega) rfl
  refine (show ∀ (a : Act) (w : World), Code.wp _ _ _ a w → _ from by assumption) _ _ ?_
  refine Rv.fin_swap (L' := [(3, f 0), (4, f 1), (5, f 2), (6, f 3), (7, f 4), (8, f 5), (9, f 6), (2, f 7)]) rfl ?_
  rw [f0, f2, f3, f4]
  clear f0 f2 f3 f4
  simp only [Rv.fin, List.foldl_cons, List.foldl_nil, Act.put, List.setIfInBounds_toArray, List.set_cons_succ, List.set_cons_zero]
  obtain ⟨A9, c9, e9, h9⟩ := f7
  rw [e9]
  clear f6 e9
  go_wp2
  go_ret
  exact ⟨A9, c9, rfl, h9, htr⟩
end Go.Proofs.Ytfelbaibbanllaa.Ge

/- RGSubtract, as the thin package has it. Conditions: those written at each lemma. -/
import Derived.Test.YtfnogpelaoofbaaDoorSue
import Derived.Test.YtfnogpelaoofbaaDoorSud
set_option linter.unusedVariables false
set_option linter.unusedSimpArgs false
set_option maxRecDepth 100000
set_option maxHeartbeats 4000000
namespace Go.Proofs.YtfnogpelaoofbaaDoor.Rg
open Go.RowKit Go.Proofs.YtfnogpelaoofbaaDoor.B Go.Proofs.YtfnogpelaoofbaaDoor.Sp

/-- What is left of a range without another one. -/
def sub (a b : Cl) : List Cl :=
  if a.lo < b.hi ∧ b.lo < a.hi then (if a.lo < b.lo then [⟨a.a, a.x, b.a, b.x⟩] else []) ++ (if b.hi < a.hi then [⟨b.b, b.y, a.b, a.y⟩] else []) else [a]
theorem sub_len (a b : Cl) : (sub a b).length ≤ 2 := by
  unfold sub
  (repeat' split) <;> simp
theorem sub_pcl {a b : Cl} (pa : Pcl a) (pb : Pcl b) : ∀ c ∈ sub a b, Pcl c := by
  unfold sub
  intro c hc
  split at hc
  · rcases List.mem_append.1 hc with h | h
    · split at h
      · rw [List.mem_singleton.1 h]; exact ⟨pa.1, pb.1⟩
      · cases h
    · split at h
      · rw [List.mem_singleton.1 h]; exact ⟨pb.2, pa.2⟩
      · cases h
  · rw [List.mem_singleton.1 hc]; exact pa
theorem sg_cases (x y : Int) : (x < y ∧ sg x y = -1) ∨ (x = y ∧ sg x y = 0) ∨ (y < x ∧ sg x y = 1) := by unfold sg; (repeat' split) <;> omega
theorem subtract_cl (a b : Cl) (w : World) (pa : Pcl a) (pb : Pcl b) :
    Calls Tryd.prog 54 #[exV (ctOf a.a a.x) (ctOf a.b a.y), exV (ctOf b.a b.x) (ctOf b.b b.y)] w fun e w' => ∃ v, e = .returned (.tuple #[v, .nilIface]) ∧ Rd w' 3 v (sub a b).length (exs (sub a b)) ∧ Below w.heap.size w w' := by
  have O : ∀ W, Calls Tryd.prog 52 #[exV (ctOf a.a a.x) (ctOf a.b a.y), exV (ctOf b.a b.x) (ctOf b.b b.y)] W fun e w' => e = .returned (.tuple #[exV (ovL (ctOf a.a a.x) (ctOf a.b a.y) (ctOf b.a b.x) (ctOf b.b b.y)) (ovU (ctOf a.a a.x) (ctOf a.b a.y) (ctOf b.a b.x) (ctOf b.b b.y)), .bool (ovY (ctOf a.a a.x) (ctOf a.b a.y) (ctOf b.a b.x) (ctOf b.b b.y)), .nilIface]) ∧ Below W.heap.size W w' := fun W => overlaps_ct _ _ _ _ W
  have hy : ovY (ctOf a.a a.x) (ctOf a.b a.y) (ctOf b.a b.x) (ctOf b.b b.y) = decide (a.lo < b.hi ∧ b.lo < a.hi) := by
    unfold ovY
    rw [cp_pos pa.1 pb.2, cp_pos pb.1 pa.2, ← Bool.decide_and]
    exact decide_eq_decide.2 (by rw [sg_neg, sg_neg])
  rw [hy] at O
  have C := cmp_of (ctOf a.a a.x) (ctOf b.a b.x)
  have D := cmp_of (ctOf a.b a.y) (ctOf b.b b.y)
  rw [cp_pos pa.1 pb.1] at C
  rw [cp_pos pa.2 pb.2] at D
  rw [ex_eq (ctOf a.a a.x), ex_eq (ctOf b.a b.x)]
  simp only [ex_eq] at O
  by_cases h : a.lo < b.hi ∧ b.lo < a.hi
  · rw [decide_eq_true h] at O
    unfold sub
    rw [if_pos h]
    have e1 : plc a.a a.x = a.lo := rfl
    have e2 : plc b.a b.x = b.lo := rfl
    have e3 : plc a.b a.y = a.hi := rfl
    have e4 : plc b.b b.y = b.hi := rfl
    rw [e1, e2] at C
    rw [e3, e4] at D
    clear hy h e1 e2 e3 e4
    rcases sg_cases a.lo b.lo with ⟨h1, h2⟩ | ⟨h1, h2⟩ | ⟨h1, h2⟩ <;> rcases sg_cases a.hi b.hi with ⟨h3, h4⟩ | ⟨h3, h4⟩ | ⟨h3, h4⟩ <;> rw [h2] at C <;> rw [h4] at D
    · rw [if_pos h1, if_neg (by omega)]; exact sub_mm w O C D
    · rw [if_pos h1, if_neg (by omega)]; exact sub_mz w O C D
    · rw [if_pos h1, if_pos h3]; exact sub_mp w O C D
    · rw [if_neg (by omega), if_neg (by omega)]; exact sub_zm w O C D
    · rw [if_neg (by omega), if_neg (by omega)]; exact sub_zz w O C D
    · rw [if_neg (by omega), if_pos h3]; exact sub_zp w O C D
    · rw [if_neg (by omega), if_neg (by omega)]; exact sub_pm w O C D
    · rw [if_neg (by omega), if_neg (by omega)]; exact sub_pz w O C D
    · rw [if_neg (by omega), if_pos h3]; exact sub_pp w O C D
  · rw [decide_eq_false h] at O
    unfold sub
    rw [if_neg h]
    exact sub_no w O

abbrev fb (b : Bool) : Obj := .cells #[.bool b] 4
abbrev S3 (B : Nat) (a b : Cl) (w W : World) : Prop := Ms B w W [(B + 1, b), (B, a)] ∧ W.heap[B + 1 + 1]? = some (fb false)
theorem keep3 {B : Nat} {a b : Cl} {w W w' : World} (hb : Below W.heap.size W w') (h : S3 B a b w W) : S3 B a b w w' := ⟨h.1.keep hb, blk_keep h.2 hb⟩
theorem own_grown_lt {W W1 : World} {B : Nat} {e : TypeId} {s n : Nat} {v : Value} {xs : List Value} {r : Option Nat} (h : W.ownsRow B e s v n xs) (hr : ∀ k, r = some k → k < B) (hg : W.grownBy W1 r) : W1.ownsRow B e s v n xs := by
  refine ⟨h.1, ?_⟩
  rcases h.2 with h2 | ⟨g, cap, cur, h1, h2, h3, h4⟩
  · exact .inl h2
  · refine .inr ⟨g, cap, cur, h1, h2, ?_, h4⟩
    rw [hg.block g (lt_of_block h3) (fun e1 => ?_)]
    · exact h3
    · have := hr g e1.symm
      omega
theorem rgsub_gen (p q : Cl) (l : List Cl) (va vb : Value) (w : World) (E1 : ∀ W, Calls Tryd.prog 34 #[p.v] W fun e w' => e = .returned va ∧ Below W.heap.size W w') (E2 : ∀ W, Calls Tryd.prog 34 #[q.v] W fun e w' => e = .returned vb ∧ Below W.heap.size W w')
    (SB : ∀ W, Calls Tryd.prog 54 #[va, vb] W fun e w' => ∃ v, e = .returned (.tuple #[v, .nilIface]) ∧ Rd w' 3 v l.length (exs l) ∧ Below W.heap.size W w') (hp : ∀ c ∈ l, Pcl c) (hl : l.length ≤ 100000) :
    Calls Tryd.prog 21 #[p.v, q.v] w fun e w' => ∃ A c, e = .returned (.tuple #[.slice A l.length c, .bool true]) ∧ Rd w' 4 (.slice A l.length c) l.length (clc l) ∧ Below w.heap.size w w' := by
  have E1 := Lib.hid E1
  have E2 := Lib.hid E2
  have SB := Lib.hid SB
  have HP := Lib.hid hp
  have M0 : Hid (S3 w.heap.size p q w (((w.alloc (cl4 p)).alloc (cl4 q)).alloc (fb false))) := Lib.hid (by
    have h := ((Mo.start w).push (cl4 p)).push (cl4 q)
    have h2 := h.push (fb false)
    have z1 : (w.alloc (cl4 p)).heap.size = w.heap.size + 1 := by simp
    have z2 : ((w.alloc (cl4 p)).alloc (cl4 q)).heap.size = w.heap.size + 1 + 1 := by simp
    rw [z1, z2] at h2
    refine ⟨⟨fun p hp => ?_, h2.2.1, h2.2.2⟩, h2.1 _ (.head _)⟩
    rcases List.mem_cons.1 hp with rfl | hp
    · exact h2.1 _ (.tail _ (.head _))
    · rcases List.mem_cons.1 hp with rfl | hp
      · exact h2.1 _ (.tail _ (.tail _ (.head _)))
      · cases hp)
  clear hp
  go_enter_defers Tryd.func21, Tryd.ntmps21
  go_upto_region 2 with fail
  generalize ((w.alloc (cl4 p)).alloc (cl4 q)).alloc (fb false) = X at *
  refine wp_region_noPanic ?_
  refine Rv.region_goods (n := 20) (by kernel_rfl) #[9, 10, 11, 12, 13, 8, 14, 15, 6, 7] #[] (fun i v W => if i = 8 then (fun v W => Rd W 3 v l.length (exs l)) v W else if i = 6 then (fun v W => Rd W 3 v l.length (exs l)) v W else if i = 5 then (fun v W => ∃ x, v = .tuple #[x, .nilIface] ∧ Rd W 3 x l.length (exs l)) v W else if i = 4 then (fun v W => ∃ x, v = .tuple #[x, .nilIface] ∧ Rd W 3 x l.length (exs l)) v W else v = (#[p.v, va, q.v, vb, undef, undef, undef, .nilIface, undef, .nilIface] : Array Value).getD i undef) (fun i v w w' h hb => ?_) (fun i h g b hg => ?_) rfl (by kernel_rfl) (by kernel_rfl) (fun i h hr w => ?_) ?_ ?_
  · by_cases hi6 : i = 8
    · subst hi6
      rw [if_pos rfl] at h ⊢
      exact (fun v w w' h hb => h.below hb) v w w' h hb
    rw [if_neg hi6] at h ⊢
    by_cases hi14 : i = 6
    · subst hi14
      rw [if_pos rfl] at h ⊢
      exact (fun v w w' h hb => h.below hb) v w w' h hb
    rw [if_neg hi14] at h ⊢
    by_cases hi8 : i = 5
    · subst hi8
      rw [if_pos rfl] at h ⊢
      exact (fun v w w' h hb => by obtain ⟨x, h1, h2⟩ := h; exact ⟨x, h1, h2.below hb⟩) v w w' h hb
    rw [if_neg hi8] at h ⊢
    by_cases hi13 : i = 4
    · subst hi13
      rw [if_pos rfl] at h ⊢
      exact (fun v w w' h hb => by obtain ⟨x, h1, h2⟩ := h; exact ⟨x, h1, h2.below hb⟩) v w w' h hb
    rw [if_neg hi13] at h ⊢
    exact h
  · match i, h, hg with
    | 0, _, hg => cases hg
    | 1, _, hg => cases hg
    | 2, _, hg => cases hg
    | 3, _, hg => cases hg
    | 4, _, hg => cases hg
    | 5, _, hg => cases hg
    | 6, _, hg => cases hg
    | 7, _, hg => cases hg
    | 8, _, hg => cases hg
    | 9, _, hg => cases hg
    | m + 10, h, _ => exact absurd h (by show ¬ m + 10 < 10; omega)
  · match i, h, hr with
    | 0, _, hr => exact Bool.noConfusion (show true = false from hr)
    | 1, _, hr => exact Bool.noConfusion (show true = false from hr)
    | 2, _, hr => exact Bool.noConfusion (show true = false from hr)
    | 3, _, hr => exact Bool.noConfusion (show true = false from hr)
    | 4, _, hr => exact Bool.noConfusion (show true = false from hr)
    | 5, _, hr => exact Bool.noConfusion (show true = false from hr)
    | 6, _, hr => exact Bool.noConfusion (show true = false from hr)
    | 7, _, hr => exact Bool.noConfusion (show true = false from hr)
    | 8, _, hr => exact Bool.noConfusion (show true = false from hr)
    | 9, _, hr => exact Bool.noConfusion (show true = false from hr)
    | m + 10, h, _ => exact absurd h (by show ¬ m + 10 < 10; omega)
  · intro i h a W hrun hbase hpre hdep htr
    have MK := M0.out.1.keep htr
    obtain ⟨n0, n1, n2, n3, _⟩ := MK.get (w.heap.size) p (.tail _ (.head _))
    obtain ⟨r0, r1, r2, r3, _⟩ := MK.get (w.heap.size + 1) q (.head _)
    match i, h with
    | 0, _ =>
      obtain ⟨e2, x2⟩ := Rv.ev (show a.tmps.getD 2 undef = .pointer (some ⟨w.heap.size, 0, none⟩) from hbase 2 rfl)
      exact Rv.step_op (op := Go.Op.load 27 (Go.Operand.tmp 2)) (v := p.v) (w1 := W) rfl rfl (fun d pos aft g => by unfold execOp; go_simp) ⟨_, rfl, rfl, Below.refl _ _⟩
    | 1, _ =>
      obtain ⟨e9, x9⟩ := Rv.ev (show a.tmps.getD 9 undef = p.v from hdep 0 rfl)
      have cf : ∀ x0 W, (callFunc 34 #[x0]).run Tryd.prog W = .ok (.enter 34 #[x0]) W := fun _ _ => by kernel_rfl
      refine Rv.step_fn (op := Go.Op.call { callee := Go.Callee.value (Go.Operand.func 34), args := #[Go.Operand.tmp 9], argTypes := #[27] }) (f := 34) (args := #[p.v]) (R := fun v W' => v = va ∧ Below W.heap.size W W') rfl rfl (fun d pos aft g => by unfold execOp; go_simp) ((E1.out W).mono ?_) ?_
      · (rintro e W' ⟨rfl, hb⟩; exact ⟨_, rfl, rfl, hb⟩)
      · (rintro v W' ⟨rfl, hb⟩; exact ⟨_, rfl, rfl, hb⟩)
    | 2, _ =>
      obtain ⟨e3, x3⟩ := Rv.ev (show a.tmps.getD 3 undef = .pointer (some ⟨w.heap.size + 1, 0, none⟩) from hbase 3 rfl)
      exact Rv.step_op (op := Go.Op.load 27 (Go.Operand.tmp 3)) (v := q.v) (w1 := W) rfl rfl (fun d pos aft g => by unfold execOp; go_simp) ⟨_, rfl, rfl, Below.refl _ _⟩
    | 3, _ =>
      obtain ⟨e11, x11⟩ := Rv.ev (show a.tmps.getD 11 undef = q.v from hdep 2 rfl)
      have cf : ∀ x0 W, (callFunc 34 #[x0]).run Tryd.prog W = .ok (.enter 34 #[x0]) W := fun _ _ => by kernel_rfl
      refine Rv.step_fn (op := Go.Op.call { callee := Go.Callee.value (Go.Operand.func 34), args := #[Go.Operand.tmp 11], argTypes := #[27] }) (f := 34) (args := #[q.v]) (R := fun v W' => v = vb ∧ Below W.heap.size W W') rfl rfl (fun d pos aft g => by unfold execOp; go_simp) ((E2.out W).mono ?_) ?_
      · (rintro e W' ⟨rfl, hb⟩; exact ⟨_, rfl, rfl, hb⟩)
      · (rintro v W' ⟨rfl, hb⟩; exact ⟨_, rfl, rfl, hb⟩)
    | 4, _ =>
      obtain ⟨e10, x10⟩ := Rv.ev (show a.tmps.getD 10 undef = va from hdep 1 rfl)
      obtain ⟨e12, x12⟩ := Rv.ev (show a.tmps.getD 12 undef = vb from hdep 3 rfl)
      have cf : ∀ x0 x1 W, (callFunc 54 #[x0, x1]).run Tryd.prog W = .ok (.enter 54 #[x0, x1]) W := fun _ _ _ => by kernel_rfl
      refine Rv.step_fn (op := Go.Op.call { callee := Go.Callee.value (Go.Operand.func 54), args := #[Go.Operand.tmp 10, Go.Operand.tmp 12], argTypes := #[64, 64] }) (ty := 87) (f := 54) (args := #[va, vb]) (R := fun v W' => (∃ x, v = .tuple #[x, .nilIface] ∧ Rd W' 3 x l.length (exs l)) ∧ Below W.heap.size W W') rfl rfl (fun d pos aft g => by unfold execOp; go_simp) ((SB.out W).mono ?_) ?_
      · (rintro e W' ⟨v, rfl, hr, hb⟩; exact ⟨_, rfl, ⟨v, rfl, hr⟩, hb⟩)
      · (rintro v W' ⟨hv, hb⟩; exact ⟨_, rfl, hv, hb⟩)
    | 5, _ =>
      obtain ⟨x13, q13, r13⟩ : ∃ x, a.tmps.getD 13 undef = .tuple #[x, .nilIface] ∧ Rd W 3 x l.length (exs l) := hdep 4 rfl
      obtain ⟨e13, y13⟩ := Rv.ev q13
      exact Rv.step_op (op := Go.Op.move (Go.Operand.tmp 13)) (ty := 87) (v := .tuple #[x13, .nilIface]) (w1 := W) rfl rfl (fun d pos aft g => by unfold execOp; go_simp) ⟨_, rfl, ⟨x13, rfl, r13⟩, Below.refl _ _⟩
    | 6, _ =>
      obtain ⟨x8, q8, r8⟩ : ∃ x, a.tmps.getD 8 undef = .tuple #[x, .nilIface] ∧ Rd W 3 x l.length (exs l) := hdep 5 rfl
      obtain ⟨e8, y8⟩ := Rv.ev q8
      exact Rv.step_op (op := Go.Op.extract (Go.Operand.tmp 8) 0) (ty := 86) (v := x8) (w1 := W) rfl rfl (fun d pos aft g => by unfold execOp; go_simp) ⟨_, rfl, r8, Below.refl _ _⟩
    | 7, _ =>
      obtain ⟨x8, q8, r8⟩ : ∃ x, a.tmps.getD 8 undef = .tuple #[x, .nilIface] ∧ Rd W 3 x l.length (exs l) := hdep 5 rfl
      obtain ⟨e8, y8⟩ := Rv.ev q8
      exact Rv.step_op (op := Go.Op.extract (Go.Operand.tmp 8) 1) (v := .nilIface) (w1 := W) rfl rfl (fun d pos aft g => by unfold execOp; go_simp) ⟨_, rfl, rfl, Below.refl _ _⟩
    | 8, _ =>
      have r14 : Rd W 3 (a.tmps.getD 14 undef) l.length (exs l) := hdep 6 rfl
      obtain ⟨v14, q14⟩ : ∃ v, a.tmps.getD 14 undef = v := ⟨_, rfl⟩
      rw [q14] at r14
      obtain ⟨e14, y14⟩ := Rv.ev q14
      exact Rv.step_op (op := Go.Op.assign (Go.Operand.tmp 14)) (ty := 86) (v := v14) (w1 := W) rfl rfl (fun d pos aft g => by unfold execOp; go_simp) ⟨_, rfl, r14, Below.refl _ _⟩
    | 9, _ =>
      obtain ⟨e15, x15⟩ := Rv.ev (show a.tmps.getD 15 undef = .nilIface from hdep 7 rfl)
      exact Rv.step_op (op := Go.Op.assign (Go.Operand.tmp 15)) (v := .nilIface) (w1 := W) rfl rfl (fun d pos aft g => by unfold execOp; go_simp) ⟨_, rfl, rfl, Below.refl _ _⟩
    | m + 10, h => exact absurd h (by show ¬ m + 10 < 10; omega)
  intro W f hf htr
  have f0 : f 0 = p.v := hf 0 (by show 0 < 10; omega)
  have f1 : f 1 = va := hf 1 (by show 1 < 10; omega)
  have f2 : f 2 = q.v := hf 2 (by show 2 < 10; omega)
  have f3 : f 3 = vb := hf 3 (by show 3 < 10; omega)
  have f4 := hf 4 (by show 4 < 10; omega)
  have f5 := hf 5 (by show 5 < 10; omega)
  have f6 := hf 6 (by show 6 < 10; omega)
  have f7 : f 7 = .nilIface := hf 7 (by show 7 < 10; omega)
  have f8 := hf 8 (by show 8 < 10; omega)
  have f9 : f 9 = .nilIface := hf 9 (by show 9 < 10; omega)
  refine (show ∀ (a : Act) (w : World), Code.wp _ _ _ a w → _ from by assumption) _ _ ?_
  refine Rv.fin_swap (L' := [(9, f 0), (10, f 1), (11, f 2), (12, f 3), (13, f 4), (8, f 5), (14, f 6), (15, f 7), (6, f 8), (7, f 9)]) rfl ?_
  rw [f0, f1, f2, f3, f7, f9]
  clear f0 f1 f2 f3 f7 f9
  simp only [Rv.fin, List.foldl_cons, List.foldl_nil, Act.put, List.setIfInBounds_toArray, List.set_cons_succ, List.set_cons_zero]
  have R8 := Lib.hid (show Rd W 3 (f 8) l.length (exs l) from f8)
  clear f4 f5 f6 f8
  generalize f 8 = v8 at *
  generalize f 6 = v6 at *
  generalize f 5 = v5 at *
  generalize f 4 = v4 at *
  have M1 := Lib.hid (keep3 htr M0.out)
  have z3 := Rv.lt_of_blk M1.out.2
  clear htr
  go_wp2_with (go_at_call 55; go_loud (with_reducible refine (turned_cols v8 l _ R8.out HP.out hl).mono ?_); rintro e w3 ⟨v', rfl, ho, hb⟩; have M3 := Lib.hid (keep3 hb M1.out); have HO := Lib.hid (Rd.of_own ho); have HF := Lib.hid (fun u => Rd.of_own (own_grown_lt ho (fun k (hk : some (w.heap.size + 1 + 1) = some k) => by injection hk with hk; omega) (grown_set (Below.refl _ w3) (w.heap.size + 1 + 1) 0 u))); have s0 := Rv.cells1 M3.out.2; have t0 := Rv.frozen1 M3.out.2; clear ho hb)
  obtain ⟨A4, c4, e4, _⟩ := HO.out.shape
  subst e4
  refine leaves_cons (f := 48) (args := #[.pointer (some ⟨w.heap.size + 1 + 1, 0, none⟩)]) (by simp) (by simp [go_sem]) ?_
  refine (caught_idle ⟨w.heap.size + 1 + 1, 0, none⟩ _).mono ?_
  rintro e u' w'' ⟨rfl, rfl, rfl⟩
  have q4 : (w3.setCell ⟨w.heap.size + 1 + 1, 0, none⟩ (.bool true)).cell? ⟨w.heap.size + 1 + 1, 0, none⟩ = some (.bool true) := by go_simp
  have BF := Lib.hid (Rv.belows1 M3.out.1.2.1 (show w.heap.size ≤ w.heap.size + 1 + 1 by omega) (.bool true))
  have RF := Lib.hid (HF.out (.bool true))
  simp [Leaves, settle, results, go_sem, q4]
  exact ⟨A4, c4, ⟨rfl, rfl⟩, RF.out, BF.out⟩
theorem expr_cl (c : Cl) (w : World) (p : Pcl c) : Calls Tryd.prog 34 #[c.v] w fun e w' => e = .returned (exV (ctOf c.a c.x) (ctOf c.b c.y)) ∧ Below w.heap.size w w' := expr_any c.a c.x c.b c.y w p.1.1 p.1.2.1 p.2.1 p.2.2.1
theorem rgsub_cl (a b : Cl) (w : World) (pa : Pcl a) (pb : Pcl b) :
    Calls Tryd.prog 21 #[a.v, b.v] w fun e w' => ∃ A c, e = .returned (.tuple #[.slice A (sub a b).length c, .bool true]) ∧ Rd w' 4 (.slice A (sub a b).length c) (sub a b).length (clc (sub a b)) ∧ Below w.heap.size w w' :=
  rgsub_gen a b (sub a b) _ _ w (fun W => expr_cl a W pa) (fun W => expr_cl b W pb) (fun W => subtract_cl a b W pa pb) (sub_pcl pa pb) (by have := sub_len a b; omega)
theorem sub_ful {a b : Cl} (pa : Ful a) : ∀ c ∈ sub a b, c.lo < c.hi := by
  unfold sub
  intro c hc
  split at hc
  · rcases List.mem_append.1 hc with h | h
    · split at h
      · rw [List.mem_singleton.1 h]; assumption
      · cases h
    · split at h
      · rw [List.mem_singleton.1 h]; assumption
      · cases h
  · rw [List.mem_singleton.1 hc]; exact pa.2.2
theorem okB_one (c : Cl) (p : Int) : okB [c] [p] = inB c p := by simp [okB]
theorem has_one (cs : List Cl) (p : Int) : hasB (cs.map fun x => [x]) [p] = cs.any fun c => inB c p := by
  unfold hasB
  rw [List.any_map]
  congr 1
  funext c
  exact okB_one c p
theorem any_append {α : Type} (f : α → Bool) (l m : List α) : (l ++ m).any f = (l.any f || m.any f) := List.any_append
theorem sub_has {a b : Cl} (pa : Ful a) (pb : Ful b) (p : Int) : hasB ((sub a b).map fun x => [x]) [p] = (inB a p && !inB b p) := by
  rw [has_one]
  have h1 := pa.2.2
  have h2 := pb.2.2
  have hin : ∀ c : Cl, inB c p = true ↔ c.lo ≤ p ∧ p < c.hi := fun c => by unfold inB; rw [Bool.and_eq_true, decide_eq_true_iff, decide_eq_true_iff]
  rw [Bool.eq_iff_iff, Bool.and_eq_true, Bool.not_eq_true', ← Bool.not_eq_true, hin, hin]
  unfold sub
  split
  · rw [any_append, Bool.or_eq_true]
    have e1 : ((if a.lo < b.lo then [(⟨a.a, a.x, b.a, b.x⟩ : Cl)] else []).any fun c => inB c p) = true ↔ a.lo ≤ p ∧ p < b.lo := by
      split
      · rw [List.any_cons, List.any_nil, Bool.or_false, hin]
      · simp only [List.any_nil]
        constructor
        · intro h; cases h
        · intro h; omega
    have e2 : ((if b.hi < a.hi then [(⟨b.b, b.y, a.b, a.y⟩ : Cl)] else []).any fun c => inB c p) = true ↔ b.hi ≤ p ∧ p < a.hi := by
      split
      · rw [List.any_cons, List.any_nil, Bool.or_false, hin]
      · simp only [List.any_nil]
        constructor
        · intro h; cases h
        · intro h; omega
    rw [e1, e2]
    omega
  · rw [List.any_cons, List.any_nil, Bool.or_false, hin]
    omega
theorem sub_own (a : Cl) : sub a ⟨a.b, a.y, 4, 0⟩ = [a] := if_neg (fun h => Int.lt_irrefl _ h.2)
end Go.Proofs.YtfnogpelaoofbaaDoor.Rg

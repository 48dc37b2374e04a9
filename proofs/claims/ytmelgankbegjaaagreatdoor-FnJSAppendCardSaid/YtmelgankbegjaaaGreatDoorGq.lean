/- Part q of the chain. Conditions: those written at each lemma. -/
import Derived.Test.YtmelgankbegjaaaGreatDoorGf
import Derived.Test.YtmelgankbegjaaaGreatDoorGg
import Derived.Test.YtmelgankbegjaaaGreatDoorGp
set_option linter.unusedVariables false
set_option linter.unusedSimpArgs false
set_option maxRecDepth 100000
set_option maxHeartbeats 8000000
namespace Go.Proofs.YtmelgankbegjaaaGreatDoor.Js
open Go.RowKit Go.Proofs.YtmelgankbegjaaaGreatDoor.B
theorem in_stepg (k0 n0 : Int) (s0 : ByteArray) (ns : List ByteArray) (ts : List J) (IH0 : ∀ t ∈ ts, ∀ (p : Nat → Prop) (v : Value) (w : World), Wg t → JN p w t v → Calls Tryz.prog 9 #[v] w fun e w' => ∃ u, e = .returned u ∧ NN (fun x => w.heap.size ≤ x) w' t u ∧ Below w.heap.size w w')
    (p : Nat → Prop) (v : Value) (w : World) (hwf : Wg (.mk k0 n0 s0 ns ts)) (hj : JN p w (.mk k0 n0 s0 ns ts) v) : Calls Tryz.prog 9 #[v] w fun e w' => ∃ u, e = .returned u ∧ NN (fun x => w.heap.size ≤ x) w' (.mk k0 n0 s0 ns ts) u ∧ Below w.heap.size w w' := by
    have IH0 := Lib.hid IH0
    obtain ⟨A, c, A2, c2, hs0, hv0, hN, hI, hH⟩ := hj
    subst hv0
    have HW := Lib.hid hwf
    have HRN0 := Lib.hid hN.1
    have HRI0 := Lib.hid hI.1
    have HH0 := Lib.hid hH
    clear hwf hN hI hH
    have HX0 := Lib.hid (show Tq w (.cells #[.int .i64 k0, .int .i64 n0, .string s0, .slice A ns.length c, .slice A2 ts.length c2] 26 (0, 0)) ((w.alloc (.cells #[.int .i64 k0, .int .i64 n0, .string s0, .slice A ns.length c, .slice A2 ts.length c2] 26)).alloc nz) from by
      have h1 := heap_alloc_new w (.cells #[.int .i64 k0, .int .i64 n0, .string s0, .slice A ns.length c, .slice A2 ts.length c2] 26)
      have hb : Below (w.alloc (.cells #[.int .i64 k0, .int .i64 n0, .string s0, .slice A ns.length c, .slice A2 ts.length c2] 26)).heap.size (w.alloc (.cells #[.int .i64 k0, .int .i64 n0, .string s0, .slice A ns.length c, .slice A2 ts.length c2] 26)) ((w.alloc (.cells #[.int .i64 k0, .int .i64 n0, .string s0, .slice A ns.length c, .slice A2 ts.length c2] 26)).alloc nz) := (Below.refl _ _).alloc (Nat.le_refl _) _
      refine ⟨((Below.refl w.heap.size w).alloc (Nat.le_refl _) _).alloc (by simp) _, (hb.block _ (by simp)).trans h1, ?_⟩
      have := heap_alloc_new (w.alloc (.cells #[.int .i64 k0, .int .i64 n0, .string s0, .slice A ns.length c, .slice A2 ts.length c2] 26)) nz
      simpa using this)
    go_enter Tryz.func9, Tryz.ntmps9
    go_upto_region 1 with fail
    have hX2 : ((w.alloc (.cells #[.int .i64 k0, .int .i64 n0, .string s0, .slice A ns.length c, .slice A2 ts.length c2] 26)).alloc nz).heap.size = w.heap.size + 2 := by simp
    generalize (w.alloc (.cells #[.int .i64 k0, .int .i64 n0, .string s0, .slice A ns.length c, .slice A2 ts.length c2] 26)).alloc nz = X at *
    have HBX := Lib.hid HX0.out.2.1
    have HRN := Lib.hid (rd_below HRN0.out HX0.out.1)
    have h4 : ns.length ≤ 8 ∧ ts.length ≤ 8 := by
      rcases HW.out with ⟨_, _, _, e1, e2⟩ | ⟨_, _, _, e1, e2⟩ | ⟨_, _, _, _, e1, e2⟩ | ⟨_, _, _, e1, e2⟩ | ⟨_, _, _, e1, e2, _⟩ | ⟨_, _, _, e1, e2, _⟩
      · rw [e1, e2]; exact ⟨by simp, by simp⟩
      · rw [e1, e2]; exact ⟨by simp, by simp⟩
      · rw [e1, e2]; exact ⟨by simp, by simp⟩
      · rw [e1, e2]; exact ⟨by simp, by simp⟩
      · rw [e1]; exact ⟨by simp, e2⟩
      · omega
    obtain ⟨hns4, hts4⟩ := h4
    refine Rv.region_fin (n := 47) (by kernel_rfl) #[5, 6, 7, 8, 9, 10, 11, 12, 13, 3, 1010] #[] (fun i f W => if i = 10 then (fun f W => ∃ (g : Nat) (A9 : Option Addr) (c9 : Nat), f 9 = .pointer (some ⟨g, 0, none⟩) ∧ Sn X.heap.size g k0 0 s0 ns (.slice A9 ns.length c9) (.slice none 0 0) (.slice none 0 0) [] [] W) f W else if i = 9 then (fun f W => ∃ (g : Nat), f 9 = .pointer (some ⟨g, 0, none⟩) ∧ W.heap[g]? = some nz ∧ X.heap.size ≤ g) f W else if i = 8 then (fun f W => ∃ (A9 : Option Addr) (c9 : Nat), f 8 = .agg #[.int .i64 k0, .int .u64 0, .string s0, .slice A9 ns.length c9, .slice none 0 0] ∧ W.ownsRow X.heap.size 9 1 (.slice A9 ns.length c9) ns.length (strs ns)) f W else if i = 7 then (fun f W => ∃ (A9 : Option Addr) (c9 : Nat), f 7 = .slice A9 ns.length c9 ∧ W.ownsRow X.heap.size 9 1 (.slice A9 ns.length c9) ns.length (strs ns)) f W else if i = 4 then (fun f W => ∃ (g4 : Nat), f 4 = .slice (some ⟨g4, 0, none⟩) 0 0 ∧ W.heap[g4]? = some (.cells #[] 9 (0, 0)) ∧ X.heap.size ≤ g4) f W else f i = (#[.pointer (some ⟨w.heap.size, 0, none⟩), .int .i64 k0, .pointer (some ⟨w.heap.size, 2, none⟩), .string s0, undef, .pointer (some ⟨w.heap.size, 3, none⟩), .slice A ns.length c, undef, undef, undef, undef] : Array Value).getD i undef) (fun i j => (i == 10 && (j == 4 || j == 7 || j == 8 || j == 9))) (fun i => i == 10) (fun i f W W' => True) (fun W => Below X.heap.size X W) (fun _ => True) (fun _ _ _ => True) (fun _ _ _ _ _ _ _ _ => trivial) (fun i f f' w hi h hd hg => ?_) (fun i j f w w' hi hj hij hK hdp h hr => ?_) (fun i h g b hg => ?_) rfl (by kernel_rfl) (fun i h g b hg => ?_) ((Below.refl _ _).drew) (trivial) (fun _ => trivial) (fun i h hr f w hf => ?_) (fun _ _ _ _ _ _ _ _ => trivial) ?_ ?_
    · by_cases hi1010 : i = 10
      · subst hi1010
        rw [if_pos rfl] at hg ⊢
        obtain ⟨g, A9, c9, q1, q2⟩ := hg
        exact ⟨g, A9, c9, (hd 9 rfl).symm.trans q1, q2⟩
      rw [if_neg hi1010] at hg ⊢
      by_cases hi3 : i = 9
      · subst hi3
        rw [if_pos rfl] at hg ⊢
        obtain ⟨g, q1, q2⟩ := hg
        exact ⟨g, h.symm.trans q1, q2⟩
      rw [if_neg hi3] at hg ⊢
      by_cases hi13 : i = 8
      · subst hi13
        rw [if_pos rfl] at hg ⊢
        obtain ⟨A9, c9, q1, q2⟩ := hg
        exact ⟨A9, c9, h.symm.trans q1, q2⟩
      rw [if_neg hi13] at hg ⊢
      by_cases hi12 : i = 7
      · subst hi12
        rw [if_pos rfl] at hg ⊢
        obtain ⟨A9, c9, q1, q2⟩ := hg
        exact ⟨A9, c9, h.symm.trans q1, q2⟩
      rw [if_neg hi12] at hg ⊢
      by_cases hi9 : i = 4
      · subst hi9
        rw [if_pos rfl] at hg ⊢
        obtain ⟨g4, q1, q2⟩ := hg
        exact ⟨g4, h.symm.trans q1, q2⟩
      rw [if_neg hi9] at hg ⊢
      rw [← h]; exact hg
    · by_cases hj1010 : j = 10
      · subst hj1010
        rw [if_pos rfl] at h ⊢
        rcases hr with ⟨hK1, hr⟩ | hr
        · have e : i = 10 := by simpa using hK1
          exact absurd e hij
        · obtain ⟨g, A9, c9, e, h1⟩ := h
          exact ⟨g, A9, c9, e, h1.below hr⟩
      rw [if_neg hj1010] at h ⊢
      by_cases hj3 : j = 9
      · subst hj3
        rw [if_pos rfl] at h ⊢
        rcases hr with ⟨hK1, hr⟩ | hr
        · have e : i = 10 := by simpa using hK1
          subst e; exfalso; revert hK; decide
        · obtain ⟨g, e, h1, h2⟩ := h
          exact ⟨g, e, (hr.block _ (Rv.lt_of_blk h1)).trans h1, h2⟩
      rw [if_neg hj3] at h ⊢
      by_cases hj13 : j = 8
      · subst hj13
        rw [if_pos rfl] at h ⊢
        rcases hr with ⟨hK1, hr⟩ | hr
        · have e : i = 10 := by simpa using hK1
          subst e; exfalso; revert hK; decide
        · obtain ⟨A9, c9, e, h1⟩ := h
          exact ⟨A9, c9, e, own_below h1 hr⟩
      rw [if_neg hj13] at h ⊢
      by_cases hj12 : j = 7
      · subst hj12
        rw [if_pos rfl] at h ⊢
        rcases hr with ⟨hK1, hr⟩ | hr
        · have e : i = 10 := by simpa using hK1
          subst e; exfalso; revert hK; decide
        · obtain ⟨A9, c9, e, h1⟩ := h
          exact ⟨A9, c9, e, own_below h1 hr⟩
      rw [if_neg hj12] at h ⊢
      by_cases hj9 : j = 4
      · subst hj9
        rw [if_pos rfl] at h ⊢
        rcases hr with ⟨hK1, hr⟩ | hr
        · have e : i = 10 := by simpa using hK1
          subst e; exfalso; revert hK; decide
        · obtain ⟨g4, e, h1, h2⟩ := h
          exact ⟨g4, e, (hr.block _ (Rv.lt_of_blk h1)).trans h1, h2⟩
      rw [if_neg hj9] at h ⊢
      exact h
    · match i, h, hg with
      | 0, _, hg => cases hg
      | 1, _, hg => cases hg
      | 2, _, hg => cases hg
      | 3, _, hg => cases hg
      | 4, _, hg => cases hg
      | 5, _, hg => cases hg
      | 6, _, hg => cases hg
      | 7, _, hg => cases hg
      | 8, _, hg => cases hg
      | 9, _, hg => cases hg
      | 10, _, hg => cases hg
      | m + 11, h, _ => exact absurd h (by show ¬ m + 11 < 11; omega)
    · match i, h, hg with
      | 0, _, hg => cases hg
      | 1, _, hg => cases hg
      | 2, _, hg => cases hg
      | 3, _, hg => cases hg
      | 4, _, hg => cases hg
      | 5, _, hg => cases hg
      | 6, _, hg => cases hg
      | 7, _, hg => cases hg
      | 8, _, hg => cases hg
      | 9, _, hg => cases hg
      | 10, _, hg => cases hg
      | m + 11, h, _ => exact absurd h (by show ¬ m + 11 < 11; omega)
    · match i, h, hr, hf with
      | 0, _, hr, _ => exact Bool.noConfusion (show true = false from hr)
      | 1, _, hr, _ => exact Bool.noConfusion (show true = false from hr)
      | 2, _, hr, _ => exact Bool.noConfusion (show true = false from hr)
      | 3, _, hr, _ => exact Bool.noConfusion (show true = false from hr)
      | 4, _, hr, _ => exact Bool.noConfusion (show true = false from hr)
      | 5, _, hr, _ => exact Bool.noConfusion (show true = false from hr)
      | 6, _, hr, _ => exact Bool.noConfusion (show true = false from hr)
      | 7, _, hr, _ => exact Bool.noConfusion (show true = false from hr)
      | 8, _, hr, _ => exact Bool.noConfusion (show true = false from hr)
      | 9, _, hr, _ => exact Bool.noConfusion (show true = false from hr)
      | 10, _, hr, _ => exact Bool.noConfusion (show true = false from hr)
      | m + 11, h, _, _ => exact absurd h (by show ¬ m + 11 < 11; omega)
    · intro i h a W hrun hbase hpre hdep htr hta hJ
      have hXW := htr.size
      have hbx : W.heap[w.heap.size]? = some (.cells #[.int .i64 k0, .int .i64 n0, .string s0, .slice A ns.length c, .slice A2 ts.length c2] 26 (0, 0)) := (htr.block _ (Rv.lt_of_blk HBX.out)).trans HBX.out
      obtain ⟨y0, y1, y2, y3, y4⟩ := Rv.cells5 hbx
      match i, h with
      | 0, _ =>
        obtain ⟨e1, x1⟩ := Rv.ev (show a.tmps.getD 1 undef = .pointer (some ⟨w.heap.size, 0, none⟩) from hbase 1 rfl)
        exact Rv.step_op (op := Go.Op.fieldAddr 26 (Go.Operand.tmp 1) 0) (v := .pointer (some ⟨w.heap.size, 0, none⟩)) (w1 := W) rfl rfl (fun d pos aft g => by unfold execOp; go_simp) ⟨_, rfl, rfl, .inr (Below.refl _ _), htr, fun _ ht => ht, fun _ _ _ => trivial⟩
      | 1, _ =>
        obtain ⟨e5, x5⟩ := Rv.ev (show a.tmps.getD 5 undef = .pointer (some ⟨w.heap.size, 0, none⟩) from hdep 0 rfl rfl)
        exact Rv.step_op (op := Go.Op.load 3 (Go.Operand.tmp 5)) (v := .int .i64 k0) (w1 := W) rfl rfl (fun d pos aft g => by unfold execOp; go_simp) ⟨_, rfl, rfl, .inr (Below.refl _ _), htr, fun _ ht => ht, fun _ _ _ => trivial⟩
      | 2, _ =>
        obtain ⟨e1, x1⟩ := Rv.ev (show a.tmps.getD 1 undef = .pointer (some ⟨w.heap.size, 0, none⟩) from hbase 1 rfl)
        exact Rv.step_op (op := Go.Op.fieldAddr 26 (Go.Operand.tmp 1) 2) (v := .pointer (some ⟨w.heap.size, 2, none⟩)) (w1 := W) rfl rfl (fun d pos aft g => by unfold execOp; go_simp) ⟨_, rfl, rfl, .inr (Below.refl _ _), htr, fun _ ht => ht, fun _ _ _ => trivial⟩
      | 3, _ =>
        obtain ⟨e7, x7⟩ := Rv.ev (show a.tmps.getD 7 undef = .pointer (some ⟨w.heap.size, 2, none⟩) from hdep 2 rfl rfl)
        exact Rv.step_op (op := Go.Op.load 9 (Go.Operand.tmp 7)) (v := .string s0) (w1 := W) rfl rfl (fun d pos aft g => by unfold execOp; go_simp) ⟨_, rfl, rfl, .inr (Below.refl _ _), htr, fun _ ht => ht, fun _ _ _ => trivial⟩
      | 4, _ =>
        have hal : Below W.heap.size W (W.alloc (.cells #[] 9)) := (Below.refl _ _).alloc (Nat.le_refl _) _
        exact Rv.step_op (op := Go.Op.buildSlice 23 0 #[]) (ty := 23) (v := .slice (some ⟨W.heap.size, 0, none⟩) 0 0) (w1 := W.alloc (.cells #[] 9)) rfl rfl (fun d pos aft g => by unfold execOp; go_simp) ⟨_, rfl, ⟨W.heap.size, rfl, heap_alloc_new W _, hXW⟩, .inr hal, htr.trans (hal.mono hXW), fun _ ht => ht, fun _ _ _ => trivial⟩
      | 5, _ =>
        obtain ⟨e1, x1⟩ := Rv.ev (show a.tmps.getD 1 undef = .pointer (some ⟨w.heap.size, 0, none⟩) from hbase 1 rfl)
        exact Rv.step_op (op := Go.Op.fieldAddr 26 (Go.Operand.tmp 1) 3) (v := .pointer (some ⟨w.heap.size, 3, none⟩)) (w1 := W) rfl rfl (fun d pos aft g => by unfold execOp; go_simp) ⟨_, rfl, rfl, .inr (Below.refl _ _), htr, fun _ ht => ht, fun _ _ _ => trivial⟩
      | 6, _ =>
        obtain ⟨e10, x10⟩ := Rv.ev (show a.tmps.getD 10 undef = .pointer (some ⟨w.heap.size, 3, none⟩) from hdep 5 rfl rfl)
        exact Rv.step_op (op := Go.Op.load 23 (Go.Operand.tmp 10)) (v := .slice A ns.length c) (w1 := W) rfl rfl (fun d pos aft g => by unfold execOp; go_simp) ⟨_, rfl, rfl, .inr (Below.refl _ _), htr, fun _ ht => ht, fun _ _ _ => trivial⟩
      | 7, _ =>
        obtain ⟨g4, e9', k9, h9⟩ : ∃ (g4 : Nat), a.tmps.getD 9 undef = .slice (some ⟨g4, 0, none⟩) 0 0 ∧ W.heap[g4]? = some (.cells #[] 9 (0, 0)) ∧ X.heap.size ≤ g4 := hdep 4 rfl rfl
        obtain ⟨e9, x9⟩ := Rv.ev e9'
        obtain ⟨e11, x11⟩ := Rv.ev (show a.tmps.getD 11 undef = .slice A ns.length c from hdep 6 rfl rfl)
        have hrd := HRN.out.below htr
        obtain ⟨A9, c9, w9, hrun, ho9, hb9⟩ := app_empty (P := Tryz.prog) W 23 23 9 (.string ⟨#[]⟩) 1 16 Tryz.underlying23 info9 rfl (by omega) g4 X.heap.size k9 h9 hXW _ _ _ hrd (by intro u hu; obtain ⟨x, _, rfl⟩ := List.mem_map.1 hu; rfl) (by omega)
        exact Rv.step_op (op := Go.Op.call { callee := Go.Callee.builtin Go.Builtin.append, args := #[Go.Operand.tmp 9, Go.Operand.tmp 11], argTypes := #[23, 23] }) (ty := 23) (v := .slice A9 ns.length c9) (w1 := w9) rfl rfl (fun d pos aft g => by unfold execOp; simp only [resolve, invoke, builtin, Sem.run_bind, Sem.run_pure, Result.andThen_ok, List.map_toArray, List.map_cons, List.map_nil, e9, e11, hrun]) ⟨_, rfl, ⟨A9, c9, rfl, ho9⟩, .inr hb9, htr.trans (hb9.mono hXW), fun _ ht => ht, fun _ _ _ => trivial⟩
      | 8, _ =>
        obtain ⟨e6, x6⟩ := Rv.ev (show a.tmps.getD 6 undef = .int .i64 k0 from hdep 1 rfl rfl)
        obtain ⟨e8, x8⟩ := Rv.ev (show a.tmps.getD 8 undef = .string s0 from hdep 3 rfl rfl)
        obtain ⟨A9, c9, e12', k12⟩ : ∃ (A9 : Option Addr) (c9 : Nat), a.tmps.getD 12 undef = .slice A9 ns.length c9 ∧ W.ownsRow X.heap.size 9 1 (.slice A9 ns.length c9) ns.length (strs ns) := hdep 7 rfl rfl
        obtain ⟨e12, x12⟩ := Rv.ev e12'
        exact Rv.step_op (op := Go.Op.build 34 #[(0, Go.Operand.tmp 6), (2, Go.Operand.tmp 8), (3, Go.Operand.tmp 12)]) (ty := 34) (v := .agg #[.int .i64 k0, .int .u64 0, .string s0, .slice A9 ns.length c9, .slice none 0 0]) (w1 := W) rfl rfl (fun d pos aft g => by unfold execOp; go_simp) ⟨_, rfl, ⟨A9, c9, rfl, k12⟩, .inr (Below.refl _ _), htr, fun _ ht => ht, fun _ _ _ => trivial⟩
      | 9, _ =>
        have hal : Below W.heap.size W (W.alloc nz) := (Below.refl _ _).alloc (Nat.le_refl _) _
        exact Rv.step_op (op := Go.Op.alloc 34) (ty := 0) (v := .pointer (some ⟨W.heap.size, 0, none⟩)) (w1 := W.alloc nz) rfl rfl (fun d pos aft g => by unfold execOp; go_simp) ⟨_, rfl, ⟨W.heap.size, rfl, heap_alloc_new W _, hXW⟩, .inr hal, htr.trans (hal.mono hXW), fun _ ht => ht, fun _ _ _ => trivial⟩
      | 10, _ =>
        obtain ⟨g, e3', k3, h3⟩ : ∃ (g : Nat), a.tmps.getD 3 undef = .pointer (some ⟨g, 0, none⟩) ∧ W.heap[g]? = some nz ∧ X.heap.size ≤ g := hdep 9 rfl rfl
        obtain ⟨e3, x3⟩ := Rv.ev e3'
        obtain ⟨A9, c9, e13', k13⟩ : ∃ (A9 : Option Addr) (c9 : Nat), a.tmps.getD 13 undef = .agg #[.int .i64 k0, .int .u64 0, .string s0, .slice A9 ns.length c9, .slice none 0 0] ∧ W.ownsRow X.heap.size 9 1 (.slice A9 ns.length c9) ns.length (strs ns) := hdep 8 rfl rfl
        obtain ⟨e13, x13⟩ := Rv.ev e13'
        obtain ⟨s0', s1', s2', s3', s4'⟩ := Rv.cells5 k3
        obtain ⟨z0, z1, z2, z3, z4⟩ := Rv.frozen5 k3
        obtain ⟨t1, t2, t3⟩ := setn k3 k13 h3 (k := k0) (num := 0) (s := s0)
        exact Rv.step_skip (op := Go.Op.store 34 (Go.Operand.tmp 3) (Go.Operand.tmp 13)) (ty := 0) (w1 := (((((W.setCell ⟨g, 0, none⟩ (.int .i64 k0)).setCell ⟨g, 1, none⟩ (.int .u64 0)).setCell ⟨g, 2, none⟩ (.string s0)).setCell ⟨g, 3, none⟩ (.slice A9 ns.length c9)).setCell ⟨g, 4, none⟩ (.slice none 0 0))) rfl rfl (fun d pos aft g => by unfold execOp; go_simp) ⟨undef, rfl, ⟨g, A9, c9, e3', t1⟩, .inl ⟨rfl, trivial⟩, htr.trans t2, (fun h => by cases h), fun _ _ _ => trivial⟩
      | m + 11, h => exact absurd h (by show ¬ m + 11 < 11; omega)
    intro W f hf htr hJ
    have f0 : f 0 = .pointer (some ⟨w.heap.size, 0, none⟩) := hf 0 (by show 0 < 11; omega) rfl
    have f1 : f 1 = .int .i64 k0 := hf 1 (by show 1 < 11; omega) rfl
    have f2 : f 2 = .pointer (some ⟨w.heap.size, 2, none⟩) := hf 2 (by show 2 < 11; omega) rfl
    have f3 : f 3 = .string s0 := hf 3 (by show 3 < 11; omega) rfl
    have f5 : f 5 = .pointer (some ⟨w.heap.size, 3, none⟩) := hf 5 (by show 5 < 11; omega) rfl
    have f6 : f 6 = .slice A ns.length c := hf 6 (by show 6 < 11; omega) rfl
    have HS10 := Lib.hid (show (fun f W => ∃ (g : Nat) (A9 : Option Addr) (c9 : Nat), f 9 = .pointer (some ⟨g, 0, none⟩) ∧ Sn X.heap.size g k0 0 s0 ns (.slice A9 ns.length c9) (.slice none 0 0) (.slice none 0 0) [] [] W) f W from hf 10 (by show 10 < 11; omega) rfl)
    clear hf
    refine (show ∀ (a : Act) (w : World), Code.wp _ _ _ a w → _ from by assumption) _ _ ?_
    refine Rv.fin_swap (L' := [(5, f 0), (6, f 1), (7, f 2), (8, f 3), (9, f 4), (10, f 5), (11, f 6), (12, f 7), (13, f 8), (3, f 9), (1010, f 10)]) rfl ?_
    rw [f0, f1, f2, f3, f5, f6]
    clear f0 f1 f2 f3 f5 f6
    simp only [Rv.fin, List.foldl_cons, List.foldl_nil, Act.put, List.setIfInBounds_toArray, List.set_cons_succ, List.set_cons_zero, List.set_nil]
    obtain ⟨g, A9, c9, q9, hs9⟩ := HS10.out
    have HSn := Lib.hid (show Sn (w.heap.size + 2) g k0 0 s0 ns (.slice A9 ns.length c9) (.slice none 0 0) (.slice none 0 0) [] [] W from by rw [← hX2]; exact hs9)
    have HTQ := Lib.hid (HX0.out.below htr)
    clear HS10 hs9 htr HBX HRN HX0
    rw [q9]
    clear q9
    generalize f 4 = u4
    generalize f 7 = u7
    generalize f 8 = u8
    rename World => W1
    obtain ⟨y0, y1, y2, y3, y4⟩ := Rv.cells5 HTQ.out.2.1
    obtain ⟨s0', s1', s2', s3', s4'⟩ := Rv.cells5 HSn.out.blk
    obtain ⟨z0, z1, z2, z3, z4⟩ := Rv.frozen5 HSn.out.blk
    have HN1 := Lib.hid (show k0 = 1 → n0 = 0 ∨ n0 = 1 from fun e => by
      subst e
      rcases HW.out with ⟨h, _⟩ | ⟨_, h, _⟩ | ⟨h, _⟩ | ⟨h, _⟩ | ⟨h, _⟩ | ⟨h, _⟩ <;> first | exact h | omega)
    have HN2 := Lib.hid (show k0 = 2 → -2147483648 ≤ n0 ∧ n0 ≤ 2147483647 from fun e => by
      subst e
      rcases HW.out with ⟨h, _⟩ | ⟨h, _⟩ | ⟨_, h, h2, _⟩ | ⟨h, _⟩ | ⟨h, _⟩ | ⟨h, _⟩ <;> first | exact ⟨h, h2⟩ | omega)
    have HWS := Lib.hid (show Wgs ts from by
      rcases HW.out with ⟨_, _, _, _, e2⟩ | ⟨_, _, _, _, e2⟩ | ⟨_, _, _, _, _, e2⟩ | ⟨_, _, _, _, e2⟩ | ⟨_, _, _, _, _, h⟩ | ⟨_, _, _, _, _, _, _, h⟩
      · rw [e2]; trivial
      · rw [e2]; trivial
      · rw [e2]; trivial
      · rw [e2]; trivial
      · exact h
      · exact h)
    clear HW
    by_cases hk1 : k0 = 1
    case pos =>
      have hb1 : (k0 == 1) = true := by simp [hk1]
      have hn01 : 0 ≤ n0 ∧ n0 ≤ 1 := by have := HN1.out hk1; omega
      have HNUM := Lib.hid (show n0 = nb k0 n0 by unfold nb; rw [if_pos hk1])
      clear hk1 HN1 HN2
      go_upto_region 7 with fail
      have HS2 := Lib.hid (Sn.setNum (m := n0) HSn.out)
      have HTQ2 := Lib.hid (HTQ.out.grown (grown_set (Below.refl _ W1) g 1 (.int .u64 n0)) (fun k hk => by injection hk with hk; have := HSn.out.geB; omega))
      clear y0 y1 y2 y3 y4 s0' s1' s2' s3' s4' z0 z1 z2 z3 z4 HSn HTQ hb1
      generalize W1.setCell ⟨g, 1, none⟩ (.int .u64 n0) = W2 at *
      obtain ⟨num, HNUM2, HS3⟩ : ∃ num : Int, Hid (num = nb k0 n0) ∧ Hid (Sn (w.heap.size + 2) g k0 num s0 ns (.slice A9 ns.length c9) (.slice none 0 0) (.slice none 0 0) [] [] W2) := ⟨_, HNUM, HS2⟩
      clear HNUM HS2
      go_loopw [4] (fun v4 wr => ∃ (i1 : Nat) (AI : Option Addr) (cI : Nat) (hs : List Value), v4 = .int .i64 (i1 : Int) ∧ i1 ≤ ts.length ∧ Hid (Sn (w.heap.size + 2) g k0 num s0 ns (.slice A9 ns.length c9) (.slice AI (ts.take i1).length cI) (.slice AI (ts.take i1).length cI) (ts.take i1) hs wr) ∧ Hid (Tq w (.cells #[.int .i64 k0, .int .i64 n0, .string s0, .slice A ns.length c, .slice A2 ts.length c2] 26 (0, 0)) wr)) (fun v4 _ => (ts.length - (intOf v4)).toNat)
      case atStart => exact ⟨0, none, 0, [], rfl, Nat.zero_le _, HS3, HTQ2⟩
      case round =>
        obtain ⟨i1, AI, cI, hs, rfl, hi1, HS, HTQ⟩ := hrel
        clear HS3 HTQ2
        obtain ⟨y0, y1, y2, y3, y4⟩ := Rv.cells5 HTQ.out.2.1
        by_cases hlt : i1 < ts.length
        · obtain ⟨bi, oi, A1, c1, A3, c3, e2, hbi, x0, x1, x2, x3, x4, hjt⟩ := row_item HRI0.out HH0.out rfl i1 hlt
          subst e2
          have HTI := Lib.hid (List.take_append_getElem hlt)
          have IH := Lib.hid (fun (W : World) (hb : Below w.heap.size w W) => IH0.out ts[i1] (List.getElem_mem hlt) p _ W (HWS.out.get _ (List.getElem_mem hlt)) (hjt.below hb))
          have IT := Lib.hid (fun (W : World) (hb : Below w.heap.size w W) => show W.cell? ⟨bi, oi + i1 * 5, none⟩ = _ ∧ W.cell? ⟨bi, oi + i1 * 5 + 1, none⟩ = _ ∧ W.cell? ⟨bi, oi + i1 * 5 + 2, none⟩ = _ ∧ W.cell? ⟨bi, oi + i1 * 5 + 3, none⟩ = _ ∧ W.cell? ⟨bi, oi + i1 * 5 + 4, none⟩ = _ from ⟨(hb.cell hbi).trans x0, (hb.cell hbi).trans x1, (hb.cell hbi).trans x2, (hb.cell hbi).trans x3, (hb.cell hbi).trans x4⟩)
          clear x0 x1 x2 x3 x4 hjt
          generalize ts[i1] = ti at *
          generalize ti.k = kk1 at IH IT
          generalize ti.n = nn1 at IH IT
          generalize ti.s = ss1 at IH IT
          generalize ti.ns.length = l1 at IH IT
          generalize ti.is.length = l3 at IH IT
          go_upto_region 9 with fail
          clear y0 y1 y2 y3 y4
          have HTK := Lib.hid (List.length_take_le i1 ts)
          generalize hVN : Value.slice A9 ns.length c9 = VN at *
          generalize hVI : Value.slice AI (ts.take i1).length cI = VI at *
          generalize wr = X at *
          have hsX : w.heap.size + 2 ≤ X.heap.size := Rv.lt_of_blk HTQ.out.2.2
          have HGX : g < X.heap.size := Rv.lt_of_blk HS.out.blk
          have HNX := Lib.hid (fun k (hk : VN.ownBlock = some k) => (HS.out.rowN.lt k hk).2)
          have HIX := Lib.hid (fun k (hk : VI.ownBlock = some k) => (HS.out.rowI.lt k hk).2)
          have hX0 : Below X.heap.size X { X with drawn := X.drawn + 1 } := (Below.refl _ _).drew
          have TRA0 := Lib.hid (show (fun W => Sn (w.heap.size + 2) g k0 num s0 ns VN VI VI (ts.take i1) hs W) { X with drawn := X.drawn + 1 } from show Sn _ _ _ _ _ _ _ _ _ _ _ _ from HS.out.below hX0)
          have TQ0 := Lib.hid (show Tq w (.cells #[.int .i64 k0, .int .i64 n0, .string s0, .slice A ns.length c, .slice (some ⟨bi, oi, none⟩) ts.length c2] 26 (0, 0)) { X with drawn := X.drawn + 1 } from HTQ.out.below hX0)
          have HLEN := Lib.hid hlt
          refine Rv.region_fin2 (n := 47) (by kernel_rfl) #[35, 36, 37, 38, 39, 40, 41, 42, 43, 44, 45, 1011] #[] (fun i f W => if i = 11 then (fun f W => ∃ (A9 : Option Addr) (c9 : Nat) (v : Value), f 9 = .slice A9 ((ts.take i1).length + 1) c9 ∧ Sn (w.heap.size + 2) g k0 num s0 ns VN (.slice A9 ((ts.take i1).length + 1) c9) (.slice A9 ((ts.take i1).length + 1) c9) (ts.take i1 ++ [ti]) (hs ++ [v]) W) f W else if i = 9 then (fun f W => ∃ (A9 : Option Addr) (c9 : Nat) (v : Value), f 9 = .slice A9 ((ts.take i1).length + 1) c9 ∧ Sn (w.heap.size + 2) g k0 num s0 ns VN VI (.slice A9 ((ts.take i1).length + 1) c9) (ts.take i1 ++ [ti]) (hs ++ [v]) W) f W else if i = 8 then (fun f W => ∃ (gl : Nat) (v : Value), f 8 = .slice (some ⟨gl, 0, none⟩) 1 1 ∧ Rd W 5 (.slice (some ⟨gl, 0, none⟩) 1 1) 1 v.cells.toList ∧ NN (fun x => X.heap.size ≤ x) W ti (v)) f W else if i = 7 then (fun f W => NN (fun x => X.heap.size ≤ x) W ti (f 7)) f W else f i = (#[.pointer (some ⟨g, 4, none⟩), VI, .pointer (some ⟨w.heap.size, 4, none⟩), .slice (some ⟨bi, oi, none⟩) ts.length c2, .int .i64 (i1 : Int), .pointer (some ⟨bi, oi + i1 * 5, none⟩), .agg #[.int .i64 kk1, .int .i64 nn1, .string ss1, .slice A1 l1 c1, .slice A3 l3 c3], undef, undef, undef, .pointer (some ⟨g, 4, none⟩), undef] : Array Value).getD i undef) (fun i j => (i == 9 && (j == 7 || j == 8)) || (i == 11 && (j == 7 || j == 8 || j == 9))) (fun i => i == 9 || i == 11) (fun i => i == 9 || i == 11) (fun i f W W' => True) (fun W => X.heap.size ≤ W.heap.size ∧ Tq w (.cells #[.int .i64 k0, .int .i64 n0, .string s0, .slice A ns.length c, .slice (some ⟨bi, oi, none⟩) ts.length c2] 26 (0, 0)) W) (fun W => Sn (w.heap.size + 2) g k0 num s0 ns VN VI VI (ts.take i1) hs W) (fun _ _ _ => True) (fun _ _ _ _ _ _ _ _ => trivial) (fun i f f' w hi h hd hg => ?_) (fun i j f w w' hi hj hij hK hdp h hr => ?_) (fun i h g b hg => ?_) rfl (by kernel_rfl) (fun i h g b hg => ?_) (⟨Nat.le_refl _, TQ0.out⟩) (TRA0.out) (fun _ => trivial) (fun i h hr f w hf => ?_) (fun _ _ _ _ _ _ _ _ => trivial) ?_ ?_
          · by_cases hi1011 : i = 11
            · subst hi1011
              rw [if_pos rfl] at hg ⊢
              obtain ⟨A9, c9, v, q1, q2⟩ := hg
              exact ⟨A9, c9, v, (hd 9 rfl).symm.trans q1, q2⟩
            rw [if_neg hi1011] at hg ⊢
            by_cases hi44 : i = 9
            · subst hi44
              rw [if_pos rfl] at hg ⊢
              obtain ⟨A9, c9, v, q1, q2⟩ := hg
              exact ⟨A9, c9, v, h.symm.trans q1, q2⟩
            rw [if_neg hi44] at hg ⊢
            by_cases hi43 : i = 8
            · subst hi43
              rw [if_pos rfl] at hg ⊢
              obtain ⟨gl, v, q1, q2⟩ := hg
              exact ⟨gl, v, h.symm.trans q1, q2⟩
            rw [if_neg hi43] at hg ⊢
            by_cases hi42 : i = 7
            · subst hi42
              rw [if_pos rfl] at hg ⊢
              show NN (fun x => X.heap.size ≤ x) _ ti (f' 7)
              rw [← h]
              exact hg
            rw [if_neg hi42] at hg ⊢
            rw [← h]; exact hg
          · by_cases hj1011 : j = 11
            · subst hj1011
              rw [if_pos rfl] at h ⊢
              rcases hr with ⟨hK1, hr⟩ | hr
              · have hi2 : i = 9 ∨ i = 11 := by simpa [or_assoc] using hK1
                rcases hi2 with e | e
                · subst e; exfalso; revert hdp; decide
                · exact absurd e hij
              · obtain ⟨A9, c9, v, e, h1⟩ := h
                exact ⟨A9, c9, v, e, Sn.below h1 hr⟩
            rw [if_neg hj1011] at h ⊢
            by_cases hj44 : j = 9
            · subst hj44
              rw [if_pos rfl] at h ⊢
              rcases hr with ⟨hK1, hr⟩ | hr
              · have hi2 : i = 9 ∨ i = 11 := by simpa [or_assoc] using hK1
                rcases hi2 with e | e
                · exact absurd e hij
                · subst e; exfalso; revert hK; decide
              · obtain ⟨A9, c9, v, e, h1⟩ := h
                exact ⟨A9, c9, v, e, Sn.below h1 hr⟩
            rw [if_neg hj44] at h ⊢
            by_cases hj43 : j = 8
            · subst hj43
              rw [if_pos rfl] at h ⊢
              rcases hr with ⟨hK1, hr⟩ | hr
              · have hi2 : i = 9 ∨ i = 11 := by simpa [or_assoc] using hK1
                rcases hi2 with e | e
                · subst e; exfalso; revert hK; decide
                · subst e; exfalso; revert hK; decide
              · obtain ⟨gl, v, e, h1, h2⟩ := h
                exact ⟨gl, v, e, h1.below hr, h2.below hr⟩
            rw [if_neg hj43] at h ⊢
            by_cases hj42 : j = 7
            · subst hj42
              rw [if_pos rfl] at h ⊢
              rcases hr with ⟨hK1, hr⟩ | hr
              · have hi2 : i = 9 ∨ i = 11 := by simpa [or_assoc] using hK1
                rcases hi2 with e | e
                · subst e; exfalso; revert hK; decide
                · subst e; exfalso; revert hK; decide
              · exact h.below hr
            rw [if_neg hj42] at h ⊢
            exact h
          · match i, h, hg with
            | 0, _, hg => cases hg
            | 1, _, hg => cases hg
            | 2, _, hg => cases hg
            | 3, _, hg => cases hg
            | 4, _, hg => cases hg
            | 5, _, hg => cases hg
            | 6, _, hg => cases hg
            | 7, _, hg => cases hg
            | 8, _, hg => cases hg
            | 9, _, hg => cases hg
            | 10, _, hg => cases hg
            | 11, _, hg => cases hg
            | m + 12, h, _ => exact absurd h (by show ¬ m + 12 < 12; omega)
          · match i, h, hg with
            | 0, _, hg => cases hg
            | 1, _, hg => cases hg
            | 2, _, hg => cases hg
            | 3, _, hg => cases hg
            | 4, _, hg => cases hg
            | 5, _, hg => cases hg
            | 6, _, hg => cases hg
            | 7, _, hg => cases hg
            | 8, _, hg => cases hg
            | 9, _, hg => cases hg
            | 10, _, hg => cases hg
            | 11, _, hg => cases hg
            | m + 12, h, _ => exact absurd h (by show ¬ m + 12 < 12; omega)
          · match i, h, hr, hf with
            | 0, _, hr, _ => exact Bool.noConfusion (show true = false from hr)
            | 1, _, hr, _ => exact Bool.noConfusion (show true = false from hr)
            | 2, _, hr, _ => exact Bool.noConfusion (show true = false from hr)
            | 3, _, hr, _ => exact Bool.noConfusion (show true = false from hr)
            | 4, _, hr, _ => exact Bool.noConfusion (show true = false from hr)
            | 5, _, hr, _ => exact Bool.noConfusion (show true = false from hr)
            | 6, _, hr, _ => exact Bool.noConfusion (show true = false from hr)
            | 7, _, hr, _ => exact Bool.noConfusion (show true = false from hr)
            | 8, _, hr, _ => exact Bool.noConfusion (show true = false from hr)
            | 9, _, hr, _ => exact Bool.noConfusion (show true = false from hr)
            | 10, _, hr, _ => exact Bool.noConfusion (show true = false from hr)
            | 11, _, hr, _ => exact Bool.noConfusion (show true = false from hr)
            | m + 12, h, _, _ => exact absurd h (by show ¬ m + 12 < 12; omega)
          · intro i h a W hrun hbase hpre hdep htr hta hJ
            have hbx := htr.2.2.1
            obtain ⟨y0, y1, y2, y3, y4⟩ := Rv.cells5 hbx
            have hlen := HLEN.out
            match i, h with
            | 0, _ =>
              obtain ⟨e3, x3⟩ := Rv.ev (show a.tmps.getD 3 undef = .pointer (some ⟨g, 0, none⟩) from hbase 3 rfl)
              exact Rv.step_op (op := Go.Op.fieldAddr 34 (Go.Operand.tmp 3) 4) (v := .pointer (some ⟨g, 4, none⟩)) (w1 := W) rfl rfl (fun d pos aft g => by unfold execOp; go_simp) ⟨_, rfl, rfl, .inr (Below.refl _ _), htr, fun _ ht => ht, fun _ _ _ => trivial⟩
            | 1, _ =>
              obtain ⟨e35, x35⟩ := Rv.ev (show a.tmps.getD 35 undef = .pointer (some ⟨g, 4, none⟩) from hdep 0 rfl rfl)
              obtain ⟨u0, u1, u2, u3, u4⟩ := Rv.cells5 (Sn.blk (hta (by decide)))
              exact Rv.step_op (op := Go.Op.load 32 (Go.Operand.tmp 35)) (v := VI) (w1 := W) rfl rfl (fun d pos aft g => by unfold execOp; go_simp) ⟨_, rfl, rfl, .inr (Below.refl _ _), htr, fun _ ht => ht, fun _ _ _ => trivial⟩
            | 2, _ =>
              obtain ⟨e1, x1⟩ := Rv.ev (show a.tmps.getD 1 undef = .pointer (some ⟨w.heap.size, 0, none⟩) from hbase 1 rfl)
              exact Rv.step_op (op := Go.Op.fieldAddr 26 (Go.Operand.tmp 1) 4) (v := .pointer (some ⟨w.heap.size, 4, none⟩)) (w1 := W) rfl rfl (fun d pos aft g => by unfold execOp; go_simp) ⟨_, rfl, rfl, .inr (Below.refl _ _), htr, fun _ ht => ht, fun _ _ _ => trivial⟩
            | 3, _ =>
              obtain ⟨e37, x37⟩ := Rv.ev (show a.tmps.getD 37 undef = .pointer (some ⟨w.heap.size, 4, none⟩) from hdep 2 rfl rfl)
              exact Rv.step_op (op := Go.Op.load 24 (Go.Operand.tmp 37)) (v := .slice (some ⟨bi, oi, none⟩) ts.length c2) (w1 := W) rfl rfl (fun d pos aft g => by unfold execOp; go_simp) ⟨_, rfl, rfl, .inr (Below.refl _ _), htr, fun _ ht => ht, fun _ _ _ => trivial⟩
            | 4, _ =>
              obtain ⟨e4, x4⟩ := Rv.ev (show a.tmps.getD 4 undef = .int .i64 (i1 : Int) from hbase 4 rfl)
              exact Rv.step_op (op := Go.Op.move (Go.Operand.tmp 4)) (v := .int .i64 (i1 : Int)) (w1 := W) rfl rfl (fun d pos aft g => by unfold execOp; go_simp) ⟨_, rfl, rfl, .inr (Below.refl _ _), htr, fun _ ht => ht, fun _ _ _ => trivial⟩
            | 5, _ =>
              obtain ⟨e38, x38⟩ := Rv.ev (show a.tmps.getD 38 undef = .slice (some ⟨bi, oi, none⟩) ts.length c2 from hdep 3 rfl rfl)
              obtain ⟨e39, x39⟩ := Rv.ev (show a.tmps.getD 39 undef = .int .i64 (i1 : Int) from hdep 4 rfl rfl)
              exact Rv.step_op (op := Go.Op.indexAddr 24 (Go.Operand.tmp 38) (Go.Operand.tmp 39)) (v := .pointer (some ⟨bi, oi + i1 * 5, none⟩)) (w1 := W) rfl rfl (fun d pos aft g => by unfold execOp; go_simp) ⟨_, rfl, rfl, .inr (Below.refl _ _), htr, fun _ ht => ht, fun _ _ _ => trivial⟩
            | 6, _ =>
              obtain ⟨e40, x40⟩ := Rv.ev (show a.tmps.getD 40 undef = .pointer (some ⟨bi, oi + i1 * 5, none⟩) from hdep 5 rfl rfl)
              obtain ⟨i0, i1', i2, i3, i4⟩ := IT.out W htr.2.1
              exact Rv.step_op (op := Go.Op.load 26 (Go.Operand.tmp 40)) (v := .agg #[.int .i64 kk1, .int .i64 nn1, .string ss1, .slice A1 l1 c1, .slice A3 l3 c3]) (w1 := W) rfl rfl (fun d pos aft g => by unfold execOp; go_simp) ⟨_, rfl, rfl, .inr (Below.refl _ _), htr, fun _ ht => ht, fun _ _ _ => trivial⟩
            | 7, _ =>
              obtain ⟨e41, x41⟩ := Rv.ev (show a.tmps.getD 41 undef = .agg #[.int .i64 kk1, .int .i64 nn1, .string ss1, .slice A1 l1 c1, .slice A3 l3 c3] from hdep 6 rfl rfl)
              have cf : ∀ x0 W, (callFunc 9 #[x0]).run Tryz.prog W = .ok (.enter 9 #[x0]) W := fun _ _ => by kernel_rfl
              refine Rv.step_fn (op := Go.Op.call { callee := Go.Callee.value (Go.Operand.func 9), args := #[Go.Operand.tmp 41], argTypes := #[26] }) (ty := 34) (f := 9) (args := #[.agg #[.int .i64 kk1, .int .i64 nn1, .string ss1, .slice A1 l1 c1, .slice A3 l3 c3]]) (R := fun v W' => NN (fun x => X.heap.size ≤ x) W' ti v ∧ Below W.heap.size W W') rfl rfl (fun d pos aft g => by unfold execOp; go_simp) ((IH.out W htr.2.1).mono ?_) ?_
              · (rintro e W' ⟨u, rfl, hu, hb⟩; exact ⟨_, rfl, hu.weak (fun x _ hx => Nat.le_trans htr.1 hx), hb⟩)
              · (rintro v W' ⟨hu, hb⟩; exact ⟨_, rfl, hu, .inr hb, ⟨Nat.le_trans htr.1 hb.size, htr.2.below hb⟩, (fun _ ht => Sn.below ht hb), fun _ _ _ => trivial⟩)
            | 8, _ =>
              have n7 : NN (fun x => X.heap.size ≤ x) W ti (a.tmps.getD 42 undef) := hdep 7 rfl rfl
              obtain ⟨v7, q7⟩ : ∃ v, a.tmps.getD 42 undef = v := ⟨_, rfl⟩
              rw [q7] at n7
              obtain ⟨e42, x42⟩ := Rv.ev q7
              obtain ⟨z0, z1, z2, z3, z4, ez, hz⟩ := five_nodes n7
              subst ez
              have hal : Below W.heap.size W (W.alloc (.cells #[z0, z1, z2, z3, z4] 34)) := (Below.refl _ _).alloc (Nat.le_refl _) _
              exact Rv.step_op (op := Go.Op.buildSlice 32 1 #[(0, Go.Operand.tmp 42)]) (ty := 32) (v := .slice (some ⟨W.heap.size, 0, none⟩) 1 1) (w1 := W.alloc (.cells #[z0, z1, z2, z3, z4] 34)) rfl rfl (fun d pos aft g => by unfold execOp; go_simp) ⟨_, rfl, ⟨W.heap.size, .agg #[z0, z1, z2, z3, z4], rfl, Rd.of_own (World.ownsRow_lit (base := W.heap.size) (e := 34) (size := 5) W #[z0, z1, z2, z3, z4] 1 (Nat.le_refl _) (by simp [maxLen]) rfl), n7.below hal⟩, .inr hal, ⟨Nat.le_trans htr.1 hal.size, htr.2.below hal⟩, (fun _ ht => Sn.below ht hal), fun _ _ _ => trivial⟩
            | 9, _ =>
              obtain ⟨e36, x36⟩ := Rv.ev (show a.tmps.getD 36 undef = VI from hdep 1 rfl rfl)
              obtain ⟨gl, v8, q8, r8, n8⟩ : ∃ (gl : Nat) (v : Value), a.tmps.getD 43 undef = .slice (some ⟨gl, 0, none⟩) 1 1 ∧ Rd W 5 (.slice (some ⟨gl, 0, none⟩) 1 1) 1 v.cells.toList ∧ NN (fun x => X.heap.size ≤ x) W ti (v) := hdep 8 rfl rfl
              obtain ⟨e43, x43⟩ := Rv.ev q8
              have s8 := hta (by decide)
              obtain ⟨z0, z1, z2, z3, z4, ez, hz⟩ := five_nodes n8
              subst ez
              have hown := Sn.rowI s8
              obtain ⟨v', w', hrun, k2, k3, k4⟩ := run_append_rd (P := Tryz.prog) W (w.heap.size + 2) 32 32 34 (.agg #[.int .i64 0, .int .u64 0, .string ⟨#[]⟩, .slice none 0 0, .slice none 0 0]) 5 80 Tryz.underlying32 info32 rfl (by omega) (by omega) _ _ _ hown _ _ _ r8 (by intro u hu; exact hz u hu) (by have := List.length_take_le i1 ts; omega) (Nat.le_trans hsX htr.1)
              obtain ⟨A9, c9, rfl, _⟩ := (Rd.of_own k2).shape
              have hs' := Sn.push s8 k2 k3 (k4.imp id (fun e => ⟨_, e, Nat.le_refl _⟩)) n8 rfl HGX HNX.out HIX.out hsX
              have hhb : ∀ k, VI.ownBlock = some k → w.heap.size + 2 ≤ k := fun k hk => (hown.lt k hk).1
              exact Rv.step_op (op := Go.Op.call { callee := Go.Callee.builtin Go.Builtin.append, args := #[Go.Operand.tmp 36, Go.Operand.tmp 43], argTypes := #[32, 32] }) (ty := 32) (v := .slice A9 ((ts.take i1).length + 1) c9) (w1 := w') rfl rfl (fun d pos aft g => by unfold execOp; simp only [resolve, invoke, builtin, Sem.run_bind, Sem.run_pure, Result.andThen_ok, List.map_toArray, List.map_cons, List.map_nil, e36, e43, hrun]) ⟨_, rfl, ⟨A9, c9, _, rfl, hs'⟩, .inl ⟨rfl, trivial⟩, ⟨Nat.le_trans htr.1 k3.size, htr.2.grown k3 hhb⟩, (fun h _ => by cases h), fun _ _ _ => trivial⟩
            | 10, _ =>
              obtain ⟨e3, x3⟩ := Rv.ev (show a.tmps.getD 3 undef = .pointer (some ⟨g, 0, none⟩) from hbase 3 rfl)
              exact Rv.step_op (op := Go.Op.fieldAddr 34 (Go.Operand.tmp 3) 4) (v := .pointer (some ⟨g, 4, none⟩)) (w1 := W) rfl rfl (fun d pos aft g => by unfold execOp; go_simp) ⟨_, rfl, rfl, .inr (Below.refl _ _), htr, fun _ ht => ht, fun _ _ _ => trivial⟩
            | 11, _ =>
              obtain ⟨e45, x45⟩ := Rv.ev (show a.tmps.getD 45 undef = .pointer (some ⟨g, 4, none⟩) from hdep 10 rfl rfl)
              obtain ⟨A9, c9, v9, q9, s9⟩ : ∃ (A9 : Option Addr) (c9 : Nat) (v : Value), a.tmps.getD 44 undef = .slice A9 ((ts.take i1).length + 1) c9 ∧ Sn (w.heap.size + 2) g k0 num s0 ns VN VI (.slice A9 ((ts.take i1).length + 1) c9) (ts.take i1 ++ [ti]) (hs ++ [v]) W := hdep 9 rfl rfl
              obtain ⟨e44, x44⟩ := Rv.ev q9
              obtain ⟨u0, u1, u2, u3, u4⟩ := Rv.cells5 (Sn.blk s9)
              obtain ⟨f0, f1, f2, f3, f4⟩ := Rv.frozen5 (Sn.blk s9)
              have hgB := Sn.geB s9
              exact Rv.step_skip (op := Go.Op.store 32 (Go.Operand.tmp 45) (Go.Operand.tmp 44)) (ty := 0) (w1 := W.setCell ⟨g, 4, none⟩ (.slice A9 ((ts.take i1).length + 1) c9)) rfl rfl (fun d pos aft g => by unfold execOp; go_simp) ⟨undef, rfl, ⟨A9, c9, v9, q9, Sn.store4 s9⟩, .inl ⟨rfl, trivial⟩, ⟨(by simpa using htr.1), htr.2.grown (grown_set (Below.refl _ _) g 4 _) (fun k hk => by injection hk with hk; omega)⟩, (fun h _ => by cases h), fun _ _ _ => trivial⟩
            | m + 12, h => exact absurd h (by show ¬ m + 12 < 12; omega)
          intro W f hf htr hJ
          have f0 : f 0 = .pointer (some ⟨g, 4, none⟩) := hf 0 (by show 0 < 12; omega) rfl
          have f1 : f 1 = VI := hf 1 (by show 1 < 12; omega) rfl
          have f2 : f 2 = .pointer (some ⟨w.heap.size, 4, none⟩) := hf 2 (by show 2 < 12; omega) rfl
          have f3 : f 3 = .slice (some ⟨bi, oi, none⟩) ts.length c2 := hf 3 (by show 3 < 12; omega) rfl
          have f4 : f 4 = .int .i64 (i1 : Int) := hf 4 (by show 4 < 12; omega) rfl
          have f5 : f 5 = .pointer (some ⟨bi, oi + i1 * 5, none⟩) := hf 5 (by show 5 < 12; omega) rfl
          have f6 : f 6 = .agg #[.int .i64 kk1, .int .i64 nn1, .string ss1, .slice A1 l1 c1, .slice A3 l3 c3] := hf 6 (by show 6 < 12; omega) rfl
          have f10 : f 10 = .pointer (some ⟨g, 4, none⟩) := hf 10 (by show 10 < 12; omega) rfl
          have HS11 := Lib.hid (show (fun f W => ∃ (A9 : Option Addr) (c9 : Nat) (v : Value), f 9 = .slice A9 ((ts.take i1).length + 1) c9 ∧ Sn (w.heap.size + 2) g k0 num s0 ns VN (.slice A9 ((ts.take i1).length + 1) c9) (.slice A9 ((ts.take i1).length + 1) c9) (ts.take i1 ++ [ti]) (hs ++ [v]) W) f W from hf 11 (by show 11 < 12; omega) rfl)
          clear hf
          refine (show ∀ (a : Act) (w : World), Code.wp _ _ _ a w → _ from by assumption) _ _ ?_
          refine Rv.fin_swap (L' := [(35, f 0), (36, f 1), (37, f 2), (38, f 3), (39, f 4), (40, f 5), (41, f 6), (42, f 7), (43, f 8), (44, f 9), (45, f 10), (1011, f 11)]) rfl ?_
          rw [f0, f1, f2, f3, f4, f5, f6, f10]
          clear f0 f1 f2 f3 f4 f5 f6 f10
          simp only [Rv.fin, List.foldl_cons, List.foldl_nil, Act.put, List.setIfInBounds_toArray, List.set_cons_succ, List.set_cons_zero, List.set_nil]
          obtain ⟨A9', c9', v9', q9', HS9⟩ := HS11.out
          have HS9 := Lib.hid HS9
          have HTQ := Lib.hid htr.2
          subst hVN
          rw [q9']
          generalize f 7 = u5
          generalize f 8 = u6
          clear htr q9'
          go_wp2
          go_roundw
          case rel => exact ⟨i1 + 1, A9', c9', hs ++ [v9'], by go_num, by omega, Lib.hid (by
            have h := HS9.out
            rw [show (ts.take i1).length + 1 = (ts.take i1 ++ [ti]).length by simp, HTI.out] at h
            exact h), HTQ⟩
          case measure => simp [intOf]; omega
        · obtain rfl : i1 = ts.length := by omega
          rw [List.take_length] at HS
          obtain ⟨q0, q1, q2, q3, q4⟩ := Rv.cells5 HS.out.blk
          obtain ⟨r0, r1, r2, r3, r4⟩ := Rv.cells5 HTQ.out.2.2
          obtain ⟨z0, z1, z2, z3, z4⟩ := Rv.frozen5 HTQ.out.2.2
          go_wp2
          have gs := fun (W : World) j u => grown_set (Below.refl _ W) (w.heap.size + 1) j u
          have HJ := Lib.hid (((Sn.done HS.out HNUM2.out).grown (grown_then (grown_then (grown_then (grown_then (gs wr 0 (.int .i64 k0)) (gs _ 1 (.int .u64 num))) (gs _ 2 (.string s0))) (gs _ 3 (.slice A9 ns.length c9))) (gs _ 4 (.slice AI ts.length cI))) (fun x hx e => by injection e with e; omega)).weak (q := fun x => w.heap.size ≤ x) (fun x _ hx => by omega))
          have sb : ∀ (V : World) (j : Nat) (u : Value), Below w.heap.size w V → Below w.heap.size w (V.setCell ⟨w.heap.size + 1, j, none⟩ u) := fun V j u h => h.setCell (by show w.heap.size ≤ w.heap.size + 1; omega) u
          have HB5 := Lib.hid (sb _ 4 (.slice AI ts.length cI) (sb _ 3 (.slice A9 ns.length c9) (sb _ 2 (.string s0) (sb _ 1 (.int .u64 num) (sb _ 0 (.int .i64 k0) HTQ.out.1)))))
          have hfr := Rv.sets5 HTQ.out.2.2 (.int .i64 k0) (.int .u64 num) (.string s0) (.slice A9 ns.length c9) (.slice AI ts.length cI)
          clear y0 y1 y2 y3 y4 q0 q1 q2 q3 q4 r0 r1 r2 r3 r4 z0 z1 z2 z3 z4 gs sb
          obtain ⟨q0, q1, q2, q3, q4⟩ := Rv.cells5 hfr
          clear hfr
          refine bodyPost_ret (v := .agg #[.int .i64 k0, .int .u64 num, .string s0, .slice A9 ns.length c9, .slice AI ts.length cI]) ?_ rfl ⟨_, rfl, HJ.out, HB5.out⟩
          simp only [results, show Tryz.f9.results = #[.cell 2 34] by kernel_rfl]
          go_simp
    have hb1 : (k0 == 1) = false := by simp [hk1]
    by_cases hk2 : k0 = 2
    case pos =>
      have hb2 : (k0 == 2) = true := by simp [hk2]
      have HNUM := Lib.hid (show (jw n0 : Int) = nb k0 n0 by unfold nb; rw [if_neg hk1, if_pos hk2])
      obtain ⟨hn1, hn2⟩ := HN2.out hk2
      clear hk1 hk2 HN1 HN2
      go_upto_region 7 with (go_at_call 22; (with_reducible refine (bits_any n0 hn1 hn2 W1).mono ?_); rintro e w3 ⟨rfl, hw3⟩; subst hw3)
      have HS2 := Lib.hid (Sn.setNum (m := (jw n0 : Int)) HSn.out)
      have HTQ2 := Lib.hid (HTQ.out.grown (grown_set (Below.refl _ w3) g 1 (.int .u64 (jw n0 : Int))) (fun k hk => by injection hk with hk; have := HSn.out.geB; omega))
      clear y0 y1 y2 y3 y4 s0' s1' s2' s3' s4' z0 z1 z2 z3 z4 HSn HTQ hb1 hb2
      generalize w3.setCell ⟨g, 1, none⟩ (.int .u64 (jw n0 : Int)) = W2 at *
      obtain ⟨num, HNUM2, HS3⟩ : ∃ num : Int, Hid (num = nb k0 n0) ∧ Hid (Sn (w.heap.size + 2) g k0 num s0 ns (.slice A9 ns.length c9) (.slice none 0 0) (.slice none 0 0) [] [] W2) := ⟨_, HNUM, HS2⟩
      clear HNUM HS2
      go_loopw [4] (fun v4 wr => ∃ (i1 : Nat) (AI : Option Addr) (cI : Nat) (hs : List Value), v4 = .int .i64 (i1 : Int) ∧ i1 ≤ ts.length ∧ Hid (Sn (w.heap.size + 2) g k0 num s0 ns (.slice A9 ns.length c9) (.slice AI (ts.take i1).length cI) (.slice AI (ts.take i1).length cI) (ts.take i1) hs wr) ∧ Hid (Tq w (.cells #[.int .i64 k0, .int .i64 n0, .string s0, .slice A ns.length c, .slice A2 ts.length c2] 26 (0, 0)) wr)) (fun v4 _ => (ts.length - (intOf v4)).toNat)
      case atStart => exact ⟨0, none, 0, [], rfl, Nat.zero_le _, HS3, HTQ2⟩
      case round =>
        obtain ⟨i1, AI, cI, hs, rfl, hi1, HS, HTQ⟩ := hrel
        clear HS3 HTQ2
        obtain ⟨y0, y1, y2, y3, y4⟩ := Rv.cells5 HTQ.out.2.1
        by_cases hlt : i1 < ts.length
        · obtain ⟨bi, oi, A1, c1, A3, c3, e2, hbi, x0, x1, x2, x3, x4, hjt⟩ := row_item HRI0.out HH0.out rfl i1 hlt
          subst e2
          have HTI := Lib.hid (List.take_append_getElem hlt)
          have IH := Lib.hid (fun (W : World) (hb : Below w.heap.size w W) => IH0.out ts[i1] (List.getElem_mem hlt) p _ W (HWS.out.get _ (List.getElem_mem hlt)) (hjt.below hb))
          have IT := Lib.hid (fun (W : World) (hb : Below w.heap.size w W) => show W.cell? ⟨bi, oi + i1 * 5, none⟩ = _ ∧ W.cell? ⟨bi, oi + i1 * 5 + 1, none⟩ = _ ∧ W.cell? ⟨bi, oi + i1 * 5 + 2, none⟩ = _ ∧ W.cell? ⟨bi, oi + i1 * 5 + 3, none⟩ = _ ∧ W.cell? ⟨bi, oi + i1 * 5 + 4, none⟩ = _ from ⟨(hb.cell hbi).trans x0, (hb.cell hbi).trans x1, (hb.cell hbi).trans x2, (hb.cell hbi).trans x3, (hb.cell hbi).trans x4⟩)
          clear x0 x1 x2 x3 x4 hjt
          generalize ts[i1] = ti at *
          generalize ti.k = kk1 at IH IT
          generalize ti.n = nn1 at IH IT
          generalize ti.s = ss1 at IH IT
          generalize ti.ns.length = l1 at IH IT
          generalize ti.is.length = l3 at IH IT
          go_upto_region 9 with fail
          clear y0 y1 y2 y3 y4
          have HTK := Lib.hid (List.length_take_le i1 ts)
          generalize hVN : Value.slice A9 ns.length c9 = VN at *
          generalize hVI : Value.slice AI (ts.take i1).length cI = VI at *
          generalize wr = X at *
          have hsX : w.heap.size + 2 ≤ X.heap.size := Rv.lt_of_blk HTQ.out.2.2
          have HGX : g < X.heap.size := Rv.lt_of_blk HS.out.blk
          have HNX := Lib.hid (fun k (hk : VN.ownBlock = some k) => (HS.out.rowN.lt k hk).2)
          have HIX := Lib.hid (fun k (hk : VI.ownBlock = some k) => (HS.out.rowI.lt k hk).2)
          have hX0 : Below X.heap.size X { X with drawn := X.drawn + 1 } := (Below.refl _ _).drew
          have TRA0 := Lib.hid (show (fun W => Sn (w.heap.size + 2) g k0 num s0 ns VN VI VI (ts.take i1) hs W) { X with drawn := X.drawn + 1 } from show Sn _ _ _ _ _ _ _ _ _ _ _ _ from HS.out.below hX0)
          have TQ0 := Lib.hid (show Tq w (.cells #[.int .i64 k0, .int .i64 n0, .string s0, .slice A ns.length c, .slice (some ⟨bi, oi, none⟩) ts.length c2] 26 (0, 0)) { X with drawn := X.drawn + 1 } from HTQ.out.below hX0)
          have HLEN := Lib.hid hlt
          refine Rv.region_fin2 (n := 47) (by kernel_rfl) #[35, 36, 37, 38, 39, 40, 41, 42, 43, 44, 45, 1011] #[] (fun i f W => if i = 11 then (fun f W => ∃ (A9 : Option Addr) (c9 : Nat) (v : Value), f 9 = .slice A9 ((ts.take i1).length + 1) c9 ∧ Sn (w.heap.size + 2) g k0 num s0 ns VN (.slice A9 ((ts.take i1).length + 1) c9) (.slice A9 ((ts.take i1).length + 1) c9) (ts.take i1 ++ [ti]) (hs ++ [v]) W) f W else if i = 9 then (fun f W => ∃ (A9 : Option Addr) (c9 : Nat) (v : Value), f 9 = .slice A9 ((ts.take i1).length + 1) c9 ∧ Sn (w.heap.size + 2) g k0 num s0 ns VN VI (.slice A9 ((ts.take i1).length + 1) c9) (ts.take i1 ++ [ti]) (hs ++ [v]) W) f W else if i = 8 then (fun f W => ∃ (gl : Nat) (v : Value), f 8 = .slice (some ⟨gl, 0, none⟩) 1 1 ∧ Rd W 5 (.slice (some ⟨gl, 0, none⟩) 1 1) 1 v.cells.toList ∧ NN (fun x => X.heap.size ≤ x) W ti (v)) f W else if i = 7 then (fun f W => NN (fun x => X.heap.size ≤ x) W ti (f 7)) f W else f i = (#[.pointer (some ⟨g, 4, none⟩), VI, .pointer (some ⟨w.heap.size, 4, none⟩), .slice (some ⟨bi, oi, none⟩) ts.length c2, .int .i64 (i1 : Int), .pointer (some ⟨bi, oi + i1 * 5, none⟩), .agg #[.int .i64 kk1, .int .i64 nn1, .string ss1, .slice A1 l1 c1, .slice A3 l3 c3], undef, undef, undef, .pointer (some ⟨g, 4, none⟩), undef] : Array Value).getD i undef) (fun i j => (i == 9 && (j == 7 || j == 8)) || (i == 11 && (j == 7 || j == 8 || j == 9))) (fun i => i == 9 || i == 11) (fun i => i == 9 || i == 11) (fun i f W W' => True) (fun W => X.heap.size ≤ W.heap.size ∧ Tq w (.cells #[.int .i64 k0, .int .i64 n0, .string s0, .slice A ns.length c, .slice (some ⟨bi, oi, none⟩) ts.length c2] 26 (0, 0)) W) (fun W => Sn (w.heap.size + 2) g k0 num s0 ns VN VI VI (ts.take i1) hs W) (fun _ _ _ => True) (fun _ _ _ _ _ _ _ _ => trivial) (fun i f f' w hi h hd hg => ?_) (fun i j f w w' hi hj hij hK hdp h hr => ?_) (fun i h g b hg => ?_) rfl (by kernel_rfl) (fun i h g b hg => ?_) (⟨Nat.le_refl _, TQ0.out⟩) (TRA0.out) (fun _ => trivial) (fun i h hr f w hf => ?_) (fun _ _ _ _ _ _ _ _ => trivial) ?_ ?_
          · by_cases hi1011 : i = 11
            · subst hi1011
              rw [if_pos rfl] at hg ⊢
              obtain ⟨A9, c9, v, q1, q2⟩ := hg
              exact ⟨A9, c9, v, (hd 9 rfl).symm.trans q1, q2⟩
            rw [if_neg hi1011] at hg ⊢
            by_cases hi44 : i = 9
            · subst hi44
              rw [if_pos rfl] at hg ⊢
              obtain ⟨A9, c9, v, q1, q2⟩ := hg
              exact ⟨A9, c9, v, h.symm.trans q1, q2⟩
            rw [if_neg hi44] at hg ⊢
            by_cases hi43 : i = 8
            · subst hi43
              rw [if_pos rfl] at hg ⊢
              obtain ⟨gl, v, q1, q2⟩ := hg
              exact ⟨gl, v, h.symm.trans q1, q2⟩
            rw [if_neg hi43] at hg ⊢
            by_cases hi42 : i = 7
            · subst hi42
              rw [if_pos rfl] at hg ⊢
              show NN (fun x => X.heap.size ≤ x) _ ti (f' 7)
              rw [← h]
              exact hg
            rw [if_neg hi42] at hg ⊢
            rw [← h]; exact hg
          · by_cases hj1011 : j = 11
            · subst hj1011
              rw [if_pos rfl] at h ⊢
              rcases hr with ⟨hK1, hr⟩ | hr
              · have hi2 : i = 9 ∨ i = 11 := by simpa [or_assoc] using hK1
                rcases hi2 with e | e
                · subst e; exfalso; revert hdp; decide
                · exact absurd e hij
              · obtain ⟨A9, c9, v, e, h1⟩ := h
                exact ⟨A9, c9, v, e, Sn.below h1 hr⟩
            rw [if_neg hj1011] at h ⊢
            by_cases hj44 : j = 9
            · subst hj44
              rw [if_pos rfl] at h ⊢
              rcases hr with ⟨hK1, hr⟩ | hr
              · have hi2 : i = 9 ∨ i = 11 := by simpa [or_assoc] using hK1
                rcases hi2 with e | e
                · exact absurd e hij
                · subst e; exfalso; revert hK; decide
              · obtain ⟨A9, c9, v, e, h1⟩ := h
                exact ⟨A9, c9, v, e, Sn.below h1 hr⟩
            rw [if_neg hj44] at h ⊢
            by_cases hj43 : j = 8
            · subst hj43
              rw [if_pos rfl] at h ⊢
              rcases hr with ⟨hK1, hr⟩ | hr
              · have hi2 : i = 9 ∨ i = 11 := by simpa [or_assoc] using hK1
                rcases hi2 with e | e
                · subst e; exfalso; revert hK; decide
                · subst e; exfalso; revert hK; decide
              · obtain ⟨gl, v, e, h1, h2⟩ := h
                exact ⟨gl, v, e, h1.below hr, h2.below hr⟩
            rw [if_neg hj43] at h ⊢
            by_cases hj42 : j = 7
            · subst hj42
              rw [if_pos rfl] at h ⊢
              rcases hr with ⟨hK1, hr⟩ | hr
              · have hi2 : i = 9 ∨ i = 11 := by simpa [or_assoc] using hK1
                rcases hi2 with e | e
                · subst e; exfalso; revert hK; decide
                · subst e; exfalso; revert hK; decide
              · exact h.below hr
            rw [if_neg hj42] at h ⊢
            exact h
          · match i, h, hg with
            | 0, _, hg => cases hg
            | 1, _, hg => cases hg
            | 2, _, hg => cases hg
            | 3, _, hg => cases hg
            | 4, _, hg => cases hg
            | 5, _, hg => cases hg
            | 6, _, hg => cases hg
            | 7, _, hg => cases hg
            | 8, _, hg => cases hg
            | 9, _, hg => cases hg
            | 10, _, hg => cases hg
            | 11, _, hg => cases hg
            | m + 12, h, _ => exact absurd h (by show ¬ m + 12 < 12; omega)
          · match i, h, hg with
            | 0, _, hg => cases hg
            | 1, _, hg => cases hg
            | 2, _, hg => cases hg
            | 3, _, hg => cases hg
            | 4, _, hg => cases hg
            | 5, _, hg => cases hg
            | 6, _, hg => cases hg
            | 7, _, hg => cases hg
            | 8, _, hg => cases hg
            | 9, _, hg => cases hg
            | 10, _, hg => cases hg
            | 11, _, hg => cases hg
            | m + 12, h, _ => exact absurd h (by show ¬ m + 12 < 12; omega)
          · match i, h, hr, hf with
            | 0, _, hr, _ => exact Bool.noConfusion (show true = false from hr)
            | 1, _, hr, _ => exact Bool.noConfusion (show true = false from hr)
            | 2, _, hr, _ => exact Bool.noConfusion (show true = false from hr)
            | 3, _, hr, _ => exact Bool.noConfusion (show true = false from hr)
            | 4, _, hr, _ => exact Bool.noConfusion (show true = false from hr)
            | 5, _, hr, _ => exact Bool.noConfusion (show true = false from hr)
            | 6, _, hr, _ => exact Bool.noConfusion (show true = false from hr)
            | 7, _, hr, _ => exact Bool.noConfusion (show true = false from hr)
            | 8, _, hr, _ => exact Bool.noConfusion (show true = false from hr)
            | 9, _, hr, _ => exact Bool.noConfusion (show true = false from hr)
            | 10, _, hr, _ => exact Bool.noConfusion (show true = false from hr)
            | 11, _, hr, _ => exact Bool.noConfusion (show true = false from hr)
            | m + 12, h, _, _ => exact absurd h (by show ¬ m + 12 < 12; omega)
          · intro i h a W hrun hbase hpre hdep htr hta hJ
            have hbx := htr.2.2.1
            obtain ⟨y0, y1, y2, y3, y4⟩ := Rv.cells5 hbx
            have hlen := HLEN.out
            match i, h with
            | 0, _ =>
              obtain ⟨e3, x3⟩ := Rv.ev (show a.tmps.getD 3 undef = .pointer (some ⟨g, 0, none⟩) from hbase 3 rfl)
              exact Rv.step_op (op := Go.Op.fieldAddr 34 (Go.Operand.tmp 3) 4) (v := .pointer (some ⟨g, 4, none⟩)) (w1 := W) rfl rfl (fun d pos aft g => by unfold execOp; go_simp) ⟨_, rfl, rfl, .inr (Below.refl _ _), htr, fun _ ht => ht, fun _ _ _ => trivial⟩
            | 1, _ =>
              obtain ⟨e35, x35⟩ := Rv.ev (show a.tmps.getD 35 undef = .pointer (some ⟨g, 4, none⟩) from hdep 0 rfl rfl)
              obtain ⟨u0, u1, u2, u3, u4⟩ := Rv.cells5 (Sn.blk (hta (by decide)))
              exact Rv.step_op (op := Go.Op.load 32 (Go.Operand.tmp 35)) (v := VI) (w1 := W) rfl rfl (fun d pos aft g => by unfold execOp; go_simp) ⟨_, rfl, rfl, .inr (Below.refl _ _), htr, fun _ ht => ht, fun _ _ _ => trivial⟩
            | 2, _ =>
              obtain ⟨e1, x1⟩ := Rv.ev (show a.tmps.getD 1 undef = .pointer (some ⟨w.heap.size, 0, none⟩) from hbase 1 rfl)
              exact Rv.step_op (op := Go.Op.fieldAddr 26 (Go.Operand.tmp 1) 4) (v := .pointer (some ⟨w.heap.size, 4, none⟩)) (w1 := W) rfl rfl (fun d pos aft g => by unfold execOp; go_simp) ⟨_, rfl, rfl, .inr (Below.refl _ _), htr, fun _ ht => ht, fun _ _ _ => trivial⟩
            | 3, _ =>
              obtain ⟨e37, x37⟩ := Rv.ev (show a.tmps.getD 37 undef = .pointer (some ⟨w.heap.size, 4, none⟩) from hdep 2 rfl rfl)
              exact Rv.step_op (op := Go.Op.load 24 (Go.Operand.tmp 37)) (v := .slice (some ⟨bi, oi, none⟩) ts.length c2) (w1 := W) rfl rfl (fun d pos aft g => by unfold execOp; go_simp) ⟨_, rfl, rfl, .inr (Below.refl _ _), htr, fun _ ht => ht, fun _ _ _ => trivial⟩
            | 4, _ =>
              obtain ⟨e4, x4⟩ := Rv.ev (show a.tmps.getD 4 undef = .int .i64 (i1 : Int) from hbase 4 rfl)
              exact Rv.step_op (op := Go.Op.move (Go.Operand.tmp 4)) (v := .int .i64 (i1 : Int)) (w1 := W) rfl rfl (fun d pos aft g => by unfold execOp; go_simp) ⟨_, rfl, rfl, .inr (Below.refl _ _), htr, fun _ ht => ht, fun _ _ _ => trivial⟩
            | 5, _ =>
              obtain ⟨e38, x38⟩ := Rv.ev (show a.tmps.getD 38 undef = .slice (some ⟨bi, oi, none⟩) ts.length c2 from hdep 3 rfl rfl)
              obtain ⟨e39, x39⟩ := Rv.ev (show a.tmps.getD 39 undef = .int .i64 (i1 : Int) from hdep 4 rfl rfl)
              exact Rv.step_op (op := Go.Op.indexAddr 24 (Go.Operand.tmp 38) (Go.Operand.tmp 39)) (v := .pointer (some ⟨bi, oi + i1 * 5, none⟩)) (w1 := W) rfl rfl (fun d pos aft g => by unfold execOp; go_simp) ⟨_, rfl, rfl, .inr (Below.refl _ _), htr, fun _ ht => ht, fun _ _ _ => trivial⟩
            | 6, _ =>
              obtain ⟨e40, x40⟩ := Rv.ev (show a.tmps.getD 40 undef = .pointer (some ⟨bi, oi + i1 * 5, none⟩) from hdep 5 rfl rfl)
              obtain ⟨i0, i1', i2, i3, i4⟩ := IT.out W htr.2.1
              exact Rv.step_op (op := Go.Op.load 26 (Go.Operand.tmp 40)) (v := .agg #[.int .i64 kk1, .int .i64 nn1, .string ss1, .slice A1 l1 c1, .slice A3 l3 c3]) (w1 := W) rfl rfl (fun d pos aft g => by unfold execOp; go_simp) ⟨_, rfl, rfl, .inr (Below.refl _ _), htr, fun _ ht => ht, fun _ _ _ => trivial⟩
            | 7, _ =>
              obtain ⟨e41, x41⟩ := Rv.ev (show a.tmps.getD 41 undef = .agg #[.int .i64 kk1, .int .i64 nn1, .string ss1, .slice A1 l1 c1, .slice A3 l3 c3] from hdep 6 rfl rfl)
              have cf : ∀ x0 W, (callFunc 9 #[x0]).run Tryz.prog W = .ok (.enter 9 #[x0]) W := fun _ _ => by kernel_rfl
              refine Rv.step_fn (op := Go.Op.call { callee := Go.Callee.value (Go.Operand.func 9), args := #[Go.Operand.tmp 41], argTypes := #[26] }) (ty := 34) (f := 9) (args := #[.agg #[.int .i64 kk1, .int .i64 nn1, .string ss1, .slice A1 l1 c1, .slice A3 l3 c3]]) (R := fun v W' => NN (fun x => X.heap.size ≤ x) W' ti v ∧ Below W.heap.size W W') rfl rfl (fun d pos aft g => by unfold execOp; go_simp) ((IH.out W htr.2.1).mono ?_) ?_
              · (rintro e W' ⟨u, rfl, hu, hb⟩; exact ⟨_, rfl, hu.weak (fun x _ hx => Nat.le_trans htr.1 hx), hb⟩)
              · (rintro v W' ⟨hu, hb⟩; exact ⟨_, rfl, hu, .inr hb, ⟨Nat.le_trans htr.1 hb.size, htr.2.below hb⟩, (fun _ ht => Sn.below ht hb), fun _ _ _ => trivial⟩)
            | 8, _ =>
              have n7 : NN (fun x => X.heap.size ≤ x) W ti (a.tmps.getD 42 undef) := hdep 7 rfl rfl
              obtain ⟨v7, q7⟩ : ∃ v, a.tmps.getD 42 undef = v := ⟨_, rfl⟩
              rw [q7] at n7
              obtain ⟨e42, x42⟩ := Rv.ev q7
              obtain ⟨z0, z1, z2, z3, z4, ez, hz⟩ := five_nodes n7
              subst ez
              have hal : Below W.heap.size W (W.alloc (.cells #[z0, z1, z2, z3, z4] 34)) := (Below.refl _ _).alloc (Nat.le_refl _) _
              exact Rv.step_op (op := Go.Op.buildSlice 32 1 #[(0, Go.Operand.tmp 42)]) (ty := 32) (v := .slice (some ⟨W.heap.size, 0, none⟩) 1 1) (w1 := W.alloc (.cells #[z0, z1, z2, z3, z4] 34)) rfl rfl (fun d pos aft g => by unfold execOp; go_simp) ⟨_, rfl, ⟨W.heap.size, .agg #[z0, z1, z2, z3, z4], rfl, Rd.of_own (World.ownsRow_lit (base := W.heap.size) (e := 34) (size := 5) W #[z0, z1, z2, z3, z4] 1 (Nat.le_refl _) (by simp [maxLen]) rfl), n7.below hal⟩, .inr hal, ⟨Nat.le_trans htr.1 hal.size, htr.2.below hal⟩, (fun _ ht => Sn.below ht hal), fun _ _ _ => trivial⟩
            | 9, _ =>
              obtain ⟨e36, x36⟩ := Rv.ev (show a.tmps.getD 36 undef = VI from hdep 1 rfl rfl)
              obtain ⟨gl, v8, q8, r8, n8⟩ : ∃ (gl : Nat) (v : Value), a.tmps.getD 43 undef = .slice (some ⟨gl, 0, none⟩) 1 1 ∧ Rd W 5 (.slice (some ⟨gl, 0, none⟩) 1 1) 1 v.cells.toList ∧ NN (fun x => X.heap.size ≤ x) W ti (v) := hdep 8 rfl rfl
              obtain ⟨e43, x43⟩ := Rv.ev q8
              have s8 := hta (by decide)
              obtain ⟨z0, z1, z2, z3, z4, ez, hz⟩ := five_nodes n8
              subst ez
              have hown := Sn.rowI s8
              obtain ⟨v', w', hrun, k2, k3, k4⟩ := run_append_rd (P := Tryz.prog) W (w.heap.size + 2) 32 32 34 (.agg #[.int .i64 0, .int .u64 0, .string ⟨#[]⟩, .slice none 0 0, .slice none 0 0]) 5 80 Tryz.underlying32 info32 rfl (by omega) (by omega) _ _ _ hown _ _ _ r8 (by intro u hu; exact hz u hu) (by have := List.length_take_le i1 ts; omega) (Nat.le_trans hsX htr.1)
              obtain ⟨A9, c9, rfl, _⟩ := (Rd.of_own k2).shape
              have hs' := Sn.push s8 k2 k3 (k4.imp id (fun e => ⟨_, e, Nat.le_refl _⟩)) n8 rfl HGX HNX.out HIX.out hsX
              have hhb : ∀ k, VI.ownBlock = some k → w.heap.size + 2 ≤ k := fun k hk => (hown.lt k hk).1
              exact Rv.step_op (op := Go.Op.call { callee := Go.Callee.builtin Go.Builtin.append, args := #[Go.Operand.tmp 36, Go.Operand.tmp 43], argTypes := #[32, 32] }) (ty := 32) (v := .slice A9 ((ts.take i1).length + 1) c9) (w1 := w') rfl rfl (fun d pos aft g => by unfold execOp; simp only [resolve, invoke, builtin, Sem.run_bind, Sem.run_pure, Result.andThen_ok, List.map_toArray, List.map_cons, List.map_nil, e36, e43, hrun]) ⟨_, rfl, ⟨A9, c9, _, rfl, hs'⟩, .inl ⟨rfl, trivial⟩, ⟨Nat.le_trans htr.1 k3.size, htr.2.grown k3 hhb⟩, (fun h _ => by cases h), fun _ _ _ => trivial⟩
            | 10, _ =>
              obtain ⟨e3, x3⟩ := Rv.ev (show a.tmps.getD 3 undef = .pointer (some ⟨g, 0, none⟩) from hbase 3 rfl)
              exact Rv.step_op (op := Go.Op.fieldAddr 34 (Go.Operand.tmp 3) 4) (v := .pointer (some ⟨g, 4, none⟩)) (w1 := W) rfl rfl (fun d pos aft g => by unfold execOp; go_simp) ⟨_, rfl, rfl, .inr (Below.refl _ _), htr, fun _ ht => ht, fun _ _ _ => trivial⟩
            | 11, _ =>
              obtain ⟨e45, x45⟩ := Rv.ev (show a.tmps.getD 45 undef = .pointer (some ⟨g, 4, none⟩) from hdep 10 rfl rfl)
              obtain ⟨A9, c9, v9, q9, s9⟩ : ∃ (A9 : Option Addr) (c9 : Nat) (v : Value), a.tmps.getD 44 undef = .slice A9 ((ts.take i1).length + 1) c9 ∧ Sn (w.heap.size + 2) g k0 num s0 ns VN VI (.slice A9 ((ts.take i1).length + 1) c9) (ts.take i1 ++ [ti]) (hs ++ [v]) W := hdep 9 rfl rfl
              obtain ⟨e44, x44⟩ := Rv.ev q9
              obtain ⟨u0, u1, u2, u3, u4⟩ := Rv.cells5 (Sn.blk s9)
              obtain ⟨f0, f1, f2, f3, f4⟩ := Rv.frozen5 (Sn.blk s9)
              have hgB := Sn.geB s9
              exact Rv.step_skip (op := Go.Op.store 32 (Go.Operand.tmp 45) (Go.Operand.tmp 44)) (ty := 0) (w1 := W.setCell ⟨g, 4, none⟩ (.slice A9 ((ts.take i1).length + 1) c9)) rfl rfl (fun d pos aft g => by unfold execOp; go_simp) ⟨undef, rfl, ⟨A9, c9, v9, q9, Sn.store4 s9⟩, .inl ⟨rfl, trivial⟩, ⟨(by simpa using htr.1), htr.2.grown (grown_set (Below.refl _ _) g 4 _) (fun k hk => by injection hk with hk; omega)⟩, (fun h _ => by cases h), fun _ _ _ => trivial⟩
            | m + 12, h => exact absurd h (by show ¬ m + 12 < 12; omega)
          intro W f hf htr hJ
          have f0 : f 0 = .pointer (some ⟨g, 4, none⟩) := hf 0 (by show 0 < 12; omega) rfl
          have f1 : f 1 = VI := hf 1 (by show 1 < 12; omega) rfl
          have f2 : f 2 = .pointer (some ⟨w.heap.size, 4, none⟩) := hf 2 (by show 2 < 12; omega) rfl
          have f3 : f 3 = .slice (some ⟨bi, oi, none⟩) ts.length c2 := hf 3 (by show 3 < 12; omega) rfl
          have f4 : f 4 = .int .i64 (i1 : Int) := hf 4 (by show 4 < 12; omega) rfl
          have f5 : f 5 = .pointer (some ⟨bi, oi + i1 * 5, none⟩) := hf 5 (by show 5 < 12; omega) rfl
          have f6 : f 6 = .agg #[.int .i64 kk1, .int .i64 nn1, .string ss1, .slice A1 l1 c1, .slice A3 l3 c3] := hf 6 (by show 6 < 12; omega) rfl
          have f10 : f 10 = .pointer (some ⟨g, 4, none⟩) := hf 10 (by show 10 < 12; omega) rfl
          have HS11 := Lib.hid (show (fun f W => ∃ (A9 : Option Addr) (c9 : Nat) (v : Value), f 9 = .slice A9 ((ts.take i1).length + 1) c9 ∧ Sn (w.heap.size + 2) g k0 num s0 ns VN (.slice A9 ((ts.take i1).length + 1) c9) (.slice A9 ((ts.take i1).length + 1) c9) (ts.take i1 ++ [ti]) (hs ++ [v]) W) f W from hf 11 (by show 11 < 12; omega) rfl)
          clear hf
          refine (show ∀ (a : Act) (w : World), Code.wp _ _ _ a w → _ from by assumption) _ _ ?_
          refine Rv.fin_swap (L' := [(35, f 0), (36, f 1), (37, f 2), (38, f 3), (39, f 4), (40, f 5), (41, f 6), (42, f 7), (43, f 8), (44, f 9), (45, f 10), (1011, f 11)]) rfl ?_
          rw [f0, f1, f2, f3, f4, f5, f6, f10]
          clear f0 f1 f2 f3 f4 f5 f6 f10
          simp only [Rv.fin, List.foldl_cons, List.foldl_nil, Act.put, List.setIfInBounds_toArray, List.set_cons_succ, List.set_cons_zero, List.set_nil]
          obtain ⟨A9', c9', v9', q9', HS9⟩ := HS11.out
          have HS9 := Lib.hid HS9
          have HTQ := Lib.hid htr.2
          subst hVN
          rw [q9']
          generalize f 7 = u5
          generalize f 8 = u6
          clear htr q9'
          go_wp2
          go_roundw
          case rel => exact ⟨i1 + 1, A9', c9', hs ++ [v9'], by go_num, by omega, Lib.hid (by
            have h := HS9.out
            rw [show (ts.take i1).length + 1 = (ts.take i1 ++ [ti]).length by simp, HTI.out] at h
            exact h), HTQ⟩
          case measure => simp [intOf]; omega
        · obtain rfl : i1 = ts.length := by omega
          rw [List.take_length] at HS
          obtain ⟨q0, q1, q2, q3, q4⟩ := Rv.cells5 HS.out.blk
          obtain ⟨r0, r1, r2, r3, r4⟩ := Rv.cells5 HTQ.out.2.2
          obtain ⟨z0, z1, z2, z3, z4⟩ := Rv.frozen5 HTQ.out.2.2
          go_wp2
          have gs := fun (W : World) j u => grown_set (Below.refl _ W) (w.heap.size + 1) j u
          have HJ := Lib.hid (((Sn.done HS.out HNUM2.out).grown (grown_then (grown_then (grown_then (grown_then (gs wr 0 (.int .i64 k0)) (gs _ 1 (.int .u64 num))) (gs _ 2 (.string s0))) (gs _ 3 (.slice A9 ns.length c9))) (gs _ 4 (.slice AI ts.length cI))) (fun x hx e => by injection e with e; omega)).weak (q := fun x => w.heap.size ≤ x) (fun x _ hx => by omega))
          have sb : ∀ (V : World) (j : Nat) (u : Value), Below w.heap.size w V → Below w.heap.size w (V.setCell ⟨w.heap.size + 1, j, none⟩ u) := fun V j u h => h.setCell (by show w.heap.size ≤ w.heap.size + 1; omega) u
          have HB5 := Lib.hid (sb _ 4 (.slice AI ts.length cI) (sb _ 3 (.slice A9 ns.length c9) (sb _ 2 (.string s0) (sb _ 1 (.int .u64 num) (sb _ 0 (.int .i64 k0) HTQ.out.1)))))
          have hfr := Rv.sets5 HTQ.out.2.2 (.int .i64 k0) (.int .u64 num) (.string s0) (.slice A9 ns.length c9) (.slice AI ts.length cI)
          clear y0 y1 y2 y3 y4 q0 q1 q2 q3 q4 r0 r1 r2 r3 r4 z0 z1 z2 z3 z4 gs sb
          obtain ⟨q0, q1, q2, q3, q4⟩ := Rv.cells5 hfr
          clear hfr
          refine bodyPost_ret (v := .agg #[.int .i64 k0, .int .u64 num, .string s0, .slice A9 ns.length c9, .slice AI ts.length cI]) ?_ rfl ⟨_, rfl, HJ.out, HB5.out⟩
          simp only [results, show Tryz.f9.results = #[.cell 2 34] by kernel_rfl]
          go_simp
    case neg =>
      have hb2 : (k0 == 2) = false := by simp [hk2]
      have HNUM := Lib.hid (show (0 : Int) = nb k0 n0 by unfold nb; rw [if_neg hk1, if_neg hk2])
      clear hk1 hk2 HN1 HN2
      go_upto_region 7 with fail
      have HS2 := HSn
      have HTQ2 := HTQ
      clear y0 y1 y2 y3 y4 s0' s1' s2' s3' s4' z0 z1 z2 z3 z4 HSn HTQ hb1 hb2
      generalize W1 = W2 at *
      obtain ⟨num, HNUM2, HS3⟩ : ∃ num : Int, Hid (num = nb k0 n0) ∧ Hid (Sn (w.heap.size + 2) g k0 num s0 ns (.slice A9 ns.length c9) (.slice none 0 0) (.slice none 0 0) [] [] W2) := ⟨_, HNUM, HS2⟩
      clear HNUM HS2
      go_loopw [4] (fun v4 wr => ∃ (i1 : Nat) (AI : Option Addr) (cI : Nat) (hs : List Value), v4 = .int .i64 (i1 : Int) ∧ i1 ≤ ts.length ∧ Hid (Sn (w.heap.size + 2) g k0 num s0 ns (.slice A9 ns.length c9) (.slice AI (ts.take i1).length cI) (.slice AI (ts.take i1).length cI) (ts.take i1) hs wr) ∧ Hid (Tq w (.cells #[.int .i64 k0, .int .i64 n0, .string s0, .slice A ns.length c, .slice A2 ts.length c2] 26 (0, 0)) wr)) (fun v4 _ => (ts.length - (intOf v4)).toNat)
      case atStart => exact ⟨0, none, 0, [], rfl, Nat.zero_le _, HS3, HTQ2⟩
      case round =>
        obtain ⟨i1, AI, cI, hs, rfl, hi1, HS, HTQ⟩ := hrel
        clear HS3 HTQ2
        obtain ⟨y0, y1, y2, y3, y4⟩ := Rv.cells5 HTQ.out.2.1
        by_cases hlt : i1 < ts.length
        · obtain ⟨bi, oi, A1, c1, A3, c3, e2, hbi, x0, x1, x2, x3, x4, hjt⟩ := row_item HRI0.out HH0.out rfl i1 hlt
          subst e2
          have HTI := Lib.hid (List.take_append_getElem hlt)
          have IH := Lib.hid (fun (W : World) (hb : Below w.heap.size w W) => IH0.out ts[i1] (List.getElem_mem hlt) p _ W (HWS.out.get _ (List.getElem_mem hlt)) (hjt.below hb))
          have IT := Lib.hid (fun (W : World) (hb : Below w.heap.size w W) => show W.cell? ⟨bi, oi + i1 * 5, none⟩ = _ ∧ W.cell? ⟨bi, oi + i1 * 5 + 1, none⟩ = _ ∧ W.cell? ⟨bi, oi + i1 * 5 + 2, none⟩ = _ ∧ W.cell? ⟨bi, oi + i1 * 5 + 3, none⟩ = _ ∧ W.cell? ⟨bi, oi + i1 * 5 + 4, none⟩ = _ from ⟨(hb.cell hbi).trans x0, (hb.cell hbi).trans x1, (hb.cell hbi).trans x2, (hb.cell hbi).trans x3, (hb.cell hbi).trans x4⟩)
          clear x0 x1 x2 x3 x4 hjt
          generalize ts[i1] = ti at *
          generalize ti.k = kk1 at IH IT
          generalize ti.n = nn1 at IH IT
          generalize ti.s = ss1 at IH IT
          generalize ti.ns.length = l1 at IH IT
          generalize ti.is.length = l3 at IH IT
          go_upto_region 9 with fail
          clear y0 y1 y2 y3 y4
          have HTK := Lib.hid (List.length_take_le i1 ts)
          generalize hVN : Value.slice A9 ns.length c9 = VN at *
          generalize hVI : Value.slice AI (ts.take i1).length cI = VI at *
          generalize wr = X at *
          have hsX : w.heap.size + 2 ≤ X.heap.size := Rv.lt_of_blk HTQ.out.2.2
          have HGX : g < X.heap.size := Rv.lt_of_blk HS.out.blk
          have HNX := Lib.hid (fun k (hk : VN.ownBlock = some k) => (HS.out.rowN.lt k hk).2)
          have HIX := Lib.hid (fun k (hk : VI.ownBlock = some k) => (HS.out.rowI.lt k hk).2)
          have hX0 : Below X.heap.size X { X with drawn := X.drawn + 1 } := (Below.refl _ _).drew
          have TRA0 := Lib.hid (show (fun W => Sn (w.heap.size + 2) g k0 num s0 ns VN VI VI (ts.take i1) hs W) { X with drawn := X.drawn + 1 } from show Sn _ _ _ _ _ _ _ _ _ _ _ _ from HS.out.below hX0)
          have TQ0 := Lib.hid (show Tq w (.cells #[.int .i64 k0, .int .i64 n0, .string s0, .slice A ns.length c, .slice (some ⟨bi, oi, none⟩) ts.length c2] 26 (0, 0)) { X with drawn := X.drawn + 1 } from HTQ.out.below hX0)
          have HLEN := Lib.hid hlt
          refine Rv.region_fin2 (n := 47) (by kernel_rfl) #[35, 36, 37, 38, 39, 40, 41, 42, 43, 44, 45, 1011] #[] (fun i f W => if i = 11 then (fun f W => ∃ (A9 : Option Addr) (c9 : Nat) (v : Value), f 9 = .slice A9 ((ts.take i1).length + 1) c9 ∧ Sn (w.heap.size + 2) g k0 num s0 ns VN (.slice A9 ((ts.take i1).length + 1) c9) (.slice A9 ((ts.take i1).length + 1) c9) (ts.take i1 ++ [ti]) (hs ++ [v]) W) f W else if i = 9 then (fun f W => ∃ (A9 : Option Addr) (c9 : Nat) (v : Value), f 9 = .slice A9 ((ts.take i1).length + 1) c9 ∧ Sn (w.heap.size + 2) g k0 num s0 ns VN VI (.slice A9 ((ts.take i1).length + 1) c9) (ts.take i1 ++ [ti]) (hs ++ [v]) W) f W else if i = 8 then (fun f W => ∃ (gl : Nat) (v : Value), f 8 = .slice (some ⟨gl, 0, none⟩) 1 1 ∧ Rd W 5 (.slice (some ⟨gl, 0, none⟩) 1 1) 1 v.cells.toList ∧ NN (fun x => X.heap.size ≤ x) W ti (v)) f W else if i = 7 then (fun f W => NN (fun x => X.heap.size ≤ x) W ti (f 7)) f W else f i = (#[.pointer (some ⟨g, 4, none⟩), VI, .pointer (some ⟨w.heap.size, 4, none⟩), .slice (some ⟨bi, oi, none⟩) ts.length c2, .int .i64 (i1 : Int), .pointer (some ⟨bi, oi + i1 * 5, none⟩), .agg #[.int .i64 kk1, .int .i64 nn1, .string ss1, .slice A1 l1 c1, .slice A3 l3 c3], undef, undef, undef, .pointer (some ⟨g, 4, none⟩), undef] : Array Value).getD i undef) (fun i j => (i == 9 && (j == 7 || j == 8)) || (i == 11 && (j == 7 || j == 8 || j == 9))) (fun i => i == 9 || i == 11) (fun i => i == 9 || i == 11) (fun i f W W' => True) (fun W => X.heap.size ≤ W.heap.size ∧ Tq w (.cells #[.int .i64 k0, .int .i64 n0, .string s0, .slice A ns.length c, .slice (some ⟨bi, oi, none⟩) ts.length c2] 26 (0, 0)) W) (fun W => Sn (w.heap.size + 2) g k0 num s0 ns VN VI VI (ts.take i1) hs W) (fun _ _ _ => True) (fun _ _ _ _ _ _ _ _ => trivial) (fun i f f' w hi h hd hg => ?_) (fun i j f w w' hi hj hij hK hdp h hr => ?_) (fun i h g b hg => ?_) rfl (by kernel_rfl) (fun i h g b hg => ?_) (⟨Nat.le_refl _, TQ0.out⟩) (TRA0.out) (fun _ => trivial) (fun i h hr f w hf => ?_) (fun _ _ _ _ _ _ _ _ => trivial) ?_ ?_
          · by_cases hi1011 : i = 11
            · subst hi1011
              rw [if_pos rfl] at hg ⊢
              obtain ⟨A9, c9, v, q1, q2⟩ := hg
              exact ⟨A9, c9, v, (hd 9 rfl).symm.trans q1, q2⟩
            rw [if_neg hi1011] at hg ⊢
            by_cases hi44 : i = 9
            · subst hi44
              rw [if_pos rfl] at hg ⊢
              obtain ⟨A9, c9, v, q1, q2⟩ := hg
              exact ⟨A9, c9, v, h.symm.trans q1, q2⟩
            rw [if_neg hi44] at hg ⊢
            by_cases hi43 : i = 8
            · subst hi43
              rw [if_pos rfl] at hg ⊢
              obtain ⟨gl, v, q1, q2⟩ := hg
              exact ⟨gl, v, h.symm.trans q1, q2⟩
            rw [if_neg hi43] at hg ⊢
            by_cases hi42 : i = 7
            · subst hi42
              rw [if_pos rfl] at hg ⊢
              show NN (fun x => X.heap.size ≤ x) _ ti (f' 7)
              rw [← h]
              exact hg
            rw [if_neg hi42] at hg ⊢
            rw [← h]; exact hg
          · by_cases hj1011 : j = 11
            · subst hj1011
              rw [if_pos rfl] at h ⊢
              rcases hr with ⟨hK1, hr⟩ | hr
              · have hi2 : i = 9 ∨ i = 11 := by simpa [or_assoc] using hK1
                rcases hi2 with e | e
                · subst e; exfalso; revert hdp; decide
                · exact absurd e hij
              · obtain ⟨A9, c9, v, e, h1⟩ := h
                exact ⟨A9, c9, v, e, Sn.below h1 hr⟩
            rw [if_neg hj1011] at h ⊢
            by_cases hj44 : j = 9
            · subst hj44
              rw [if_pos rfl] at h ⊢
              rcases hr with ⟨hK1, hr⟩ | hr
              · have hi2 : i = 9 ∨ i = 11 := by simpa [or_assoc] using hK1
                rcases hi2 with e | e
                · exact absurd e hij
                · subst e; exfalso; revert hK; decide
              · obtain ⟨A9, c9, v, e, h1⟩ := h
                exact ⟨A9, c9, v, e, Sn.below h1 hr⟩
            rw [if_neg hj44] at h ⊢
            by_cases hj43 : j = 8
            · subst hj43
              rw [if_pos rfl] at h ⊢
              rcases hr with ⟨hK1, hr⟩ | hr
              · have hi2 : i = 9 ∨ i = 11 := by simpa [or_assoc] using hK1
                rcases hi2 with e | e
                · subst e; exfalso; revert hK; decide
                · subst e; exfalso; revert hK; decide
              · obtain ⟨gl, v, e, h1, h2⟩ := h
                exact ⟨gl, v, e, h1.below hr, h2.below hr⟩
            rw [if_neg hj43] at h ⊢
            by_cases hj42 : j = 7
            · subst hj42
              rw [if_pos rfl] at h ⊢
              rcases hr with ⟨hK1, hr⟩ | hr
              · have hi2 : i = 9 ∨ i = 11 := by simpa [or_assoc] using hK1
                rcases hi2 with e | e
                · subst e; exfalso; revert hK; decide
                · subst e; exfalso; revert hK; decide
              · exact h.below hr
            rw [if_neg hj42] at h ⊢
            exact h
          · match i, h, hg with
            | 0, _, hg => cases hg
            | 1, _, hg => cases hg
            | 2, _, hg => cases hg
            | 3, _, hg => cases hg
            | 4, _, hg => cases hg
            | 5, _, hg => cases hg
            | 6, _, hg => cases hg
            | 7, _, hg => cases hg
            | 8, _, hg => cases hg
            | 9, _, hg => cases hg
            | 10, _, hg => cases hg
            | 11, _, hg => cases hg
            | m + 12, h, _ => exact absurd h (by show ¬ m + 12 < 12; omega)
          · match i, h, hg with
            | 0, _, hg => cases hg
            | 1, _, hg => cases hg
            | 2, _, hg => cases hg
            | 3, _, hg => cases hg
            | 4, _, hg => cases hg
            | 5, _, hg => cases hg
            | 6, _, hg => cases hg
            | 7, _, hg => cases hg
            | 8, _, hg => cases hg
            | 9, _, hg => cases hg
            | 10, _, hg => cases hg
            | 11, _, hg => cases hg
            | m + 12, h, _ => exact absurd h (by show ¬ m + 12 < 12; omega)
          · match i, h, hr, hf with
            | 0, _, hr, _ => exact Bool.noConfusion (show true = false from hr)
            | 1, _, hr, _ => exact Bool.noConfusion (show true = false from hr)
            | 2, _, hr, _ => exact Bool.noConfusion (show true = false from hr)
            | 3, _, hr, _ => exact Bool.noConfusion (show true = false from hr)
            | 4, _, hr, _ => exact Bool.noConfusion (show true = false from hr)
            | 5, _, hr, _ => exact Bool.noConfusion (show true = false from hr)
            | 6, _, hr, _ => exact Bool.noConfusion (show true = false from hr)
            | 7, _, hr, _ => exact Bool.noConfusion (show true = false from hr)
            | 8, _, hr, _ => exact Bool.noConfusion (show true = false from hr)
            | 9, _, hr, _ => exact Bool.noConfusion (show true = false from hr)
            | 10, _, hr, _ => exact Bool.noConfusion (show true = false from hr)
            | 11, _, hr, _ => exact Bool.noConfusion (show true = false from hr)
            | m + 12, h, _, _ => exact absurd h (by show ¬ m + 12 < 12; omega)
          · intro i h a W hrun hbase hpre hdep htr hta hJ
            have hbx := htr.2.2.1
            obtain ⟨y0, y1, y2, y3, y4⟩ := Rv.cells5 hbx
            have hlen := HLEN.out
            match i, h with
            | 0, _ =>
              obtain ⟨e3, x3⟩ := Rv.ev (show a.tmps.getD 3 undef = .pointer (some ⟨g, 0, none⟩) from hbase 3 rfl)
              exact Rv.step_op (op := Go.Op.fieldAddr 34 (Go.Operand.tmp 3) 4) (v := .pointer (some ⟨g, 4, none⟩)) (w1 := W) rfl rfl (fun d pos aft g => by unfold execOp; go_simp) ⟨_, rfl, rfl, .inr (Below.refl _ _), htr, fun _ ht => ht, fun _ _ _ => trivial⟩
            | 1, _ =>
              obtain ⟨e35, x35⟩ := Rv.ev (show a.tmps.getD 35 undef = .pointer (some ⟨g, 4, none⟩) from hdep 0 rfl rfl)
              obtain ⟨u0, u1, u2, u3, u4⟩ := Rv.cells5 (Sn.blk (hta (by decide)))
              exact Rv.step_op (op := Go.Op.load 32 (Go.Operand.tmp 35)) (v := VI) (w1 := W) rfl rfl (fun d pos aft g => by unfold execOp; go_simp) ⟨_, rfl, rfl, .inr (Below.refl _ _), htr, fun _ ht => ht, fun _ _ _ => trivial⟩
            | 2, _ =>
              obtain ⟨e1, x1⟩ := Rv.ev (show a.tmps.getD 1 undef = .pointer (some ⟨w.heap.size, 0, none⟩) from hbase 1 rfl)
              exact Rv.step_op (op := Go.Op.fieldAddr 26 (Go.Operand.tmp 1) 4) (v := .pointer (some ⟨w.heap.size, 4, none⟩)) (w1 := W) rfl rfl (fun d pos aft g => by unfold execOp; go_simp) ⟨_, rfl, rfl, .inr (Below.refl _ _), htr, fun _ ht => ht, fun _ _ _ => trivial⟩
            | 3, _ =>
              obtain ⟨e37, x37⟩ := Rv.ev (show a.tmps.getD 37 undef = .pointer (some ⟨w.heap.size, 4, none⟩) from hdep 2 rfl rfl)
              exact Rv.step_op (op := Go.Op.load 24 (Go.Operand.tmp 37)) (v := .slice (some ⟨bi, oi, none⟩) ts.length c2) (w1 := W) rfl rfl (fun d pos aft g => by unfold execOp; go_simp) ⟨_, rfl, rfl, .inr (Below.refl _ _), htr, fun _ ht => ht, fun _ _ _ => trivial⟩
            | 4, _ =>
              obtain ⟨e4, x4⟩ := Rv.ev (show a.tmps.getD 4 undef = .int .i64 (i1 : Int) from hbase 4 rfl)
              exact Rv.step_op (op := Go.Op.move (Go.Operand.tmp 4)) (v := .int .i64 (i1 : Int)) (w1 := W) rfl rfl (fun d pos aft g => by unfold execOp; go_simp) ⟨_, rfl, rfl, .inr (Below.refl _ _), htr, fun _ ht => ht, fun _ _ _ => trivial⟩
            | 5, _ =>
              obtain ⟨e38, x38⟩ := Rv.ev (show a.tmps.getD 38 undef = .slice (some ⟨bi, oi, none⟩) ts.length c2 from hdep 3 rfl rfl)
              obtain ⟨e39, x39⟩ := Rv.ev (show a.tmps.getD 39 undef = .int .i64 (i1 : Int) from hdep 4 rfl rfl)
              exact Rv.step_op (op := Go.Op.indexAddr 24 (Go.Operand.tmp 38) (Go.Operand.tmp 39)) (v := .pointer (some ⟨bi, oi + i1 * 5, none⟩)) (w1 := W) rfl rfl (fun d pos aft g => by unfold execOp; go_simp) ⟨_, rfl, rfl, .inr (Below.refl _ _), htr, fun _ ht => ht, fun _ _ _ => trivial⟩
            | 6, _ =>
              obtain ⟨e40, x40⟩ := Rv.ev (show a.tmps.getD 40 undef = .pointer (some ⟨bi, oi + i1 * 5, none⟩) from hdep 5 rfl rfl)
              obtain ⟨i0, i1', i2, i3, i4⟩ := IT.out W htr.2.1
              exact Rv.step_op (op := Go.Op.load 26 (Go.Operand.tmp 40)) (v := .agg #[.int .i64 kk1, .int .i64 nn1, .string ss1, .slice A1 l1 c1, .slice A3 l3 c3]) (w1 := W) rfl rfl (fun d pos aft g => by unfold execOp; go_simp) ⟨_, rfl, rfl, .inr (Below.refl _ _), htr, fun _ ht => ht, fun _ _ _ => trivial⟩
            | 7, _ =>
              obtain ⟨e41, x41⟩ := Rv.ev (show a.tmps.getD 41 undef = .agg #[.int .i64 kk1, .int .i64 nn1, .string ss1, .slice A1 l1 c1, .slice A3 l3 c3] from hdep 6 rfl rfl)
              have cf : ∀ x0 W, (callFunc 9 #[x0]).run Tryz.prog W = .ok (.enter 9 #[x0]) W := fun _ _ => by kernel_rfl
              refine Rv.step_fn (op := Go.Op.call { callee := Go.Callee.value (Go.Operand.func 9), args := #[Go.Operand.tmp 41], argTypes := #[26] }) (ty := 34) (f := 9) (args := #[.agg #[.int .i64 kk1, .int .i64 nn1, .string ss1, .slice A1 l1 c1, .slice A3 l3 c3]]) (R := fun v W' => NN (fun x => X.heap.size ≤ x) W' ti v ∧ Below W.heap.size W W') rfl rfl (fun d pos aft g => by unfold execOp; go_simp) ((IH.out W htr.2.1).mono ?_) ?_
              · (rintro e W' ⟨u, rfl, hu, hb⟩; exact ⟨_, rfl, hu.weak (fun x _ hx => Nat.le_trans htr.1 hx), hb⟩)
              · (rintro v W' ⟨hu, hb⟩; exact ⟨_, rfl, hu, .inr hb, ⟨Nat.le_trans htr.1 hb.size, htr.2.below hb⟩, (fun _ ht => Sn.below ht hb), fun _ _ _ => trivial⟩)
            | 8, _ =>
              have n7 : NN (fun x => X.heap.size ≤ x) W ti (a.tmps.getD 42 undef) := hdep 7 rfl rfl
              obtain ⟨v7, q7⟩ : ∃ v, a.tmps.getD 42 undef = v := ⟨_, rfl⟩
              rw [q7] at n7
              obtain ⟨e42, x42⟩ := Rv.ev q7
              obtain ⟨z0, z1, z2, z3, z4, ez, hz⟩ := five_nodes n7
              subst ez
              have hal : Below W.heap.size W (W.alloc (.cells #[z0, z1, z2, z3, z4] 34)) := (Below.refl _ _).alloc (Nat.le_refl _) _
              exact Rv.step_op (op := Go.Op.buildSlice 32 1 #[(0, Go.Operand.tmp 42)]) (ty := 32) (v := .slice (some ⟨W.heap.size, 0, none⟩) 1 1) (w1 := W.alloc (.cells #[z0, z1, z2, z3, z4] 34)) rfl rfl (fun d pos aft g => by unfold execOp; go_simp) ⟨_, rfl, ⟨W.heap.size, .agg #[z0, z1, z2, z3, z4], rfl, Rd.of_own (World.ownsRow_lit (base := W.heap.size) (e := 34) (size := 5) W #[z0, z1, z2, z3, z4] 1 (Nat.le_refl _) (by simp [maxLen]) rfl), n7.below hal⟩, .inr hal, ⟨Nat.le_trans htr.1 hal.size, htr.2.below hal⟩, (fun _ ht => Sn.below ht hal), fun _ _ _ => trivial⟩
            | 9, _ =>
              obtain ⟨e36, x36⟩ := Rv.ev (show a.tmps.getD 36 undef = VI from hdep 1 rfl rfl)
              obtain ⟨gl, v8, q8, r8, n8⟩ : ∃ (gl : Nat) (v : Value), a.tmps.getD 43 undef = .slice (some ⟨gl, 0, none⟩) 1 1 ∧ Rd W 5 (.slice (some ⟨gl, 0, none⟩) 1 1) 1 v.cells.toList ∧ NN (fun x => X.heap.size ≤ x) W ti (v) := hdep 8 rfl rfl
              obtain ⟨e43, x43⟩ := Rv.ev q8
              have s8 := hta (by decide)
              obtain ⟨z0, z1, z2, z3, z4, ez, hz⟩ := five_nodes n8
              subst ez
              have hown := Sn.rowI s8
              obtain ⟨v', w', hrun, k2, k3, k4⟩ := run_append_rd (P := Tryz.prog) W (w.heap.size + 2) 32 32 34 (.agg #[.int .i64 0, .int .u64 0, .string ⟨#[]⟩, .slice none 0 0, .slice none 0 0]) 5 80 Tryz.underlying32 info32 rfl (by omega) (by omega) _ _ _ hown _ _ _ r8 (by intro u hu; exact hz u hu) (by have := List.length_take_le i1 ts; omega) (Nat.le_trans hsX htr.1)
              obtain ⟨A9, c9, rfl, _⟩ := (Rd.of_own k2).shape
              have hs' := Sn.push s8 k2 k3 (k4.imp id (fun e => ⟨_, e, Nat.le_refl _⟩)) n8 rfl HGX HNX.out HIX.out hsX
              have hhb : ∀ k, VI.ownBlock = some k → w.heap.size + 2 ≤ k := fun k hk => (hown.lt k hk).1
              exact Rv.step_op (op := Go.Op.call { callee := Go.Callee.builtin Go.Builtin.append, args := #[Go.Operand.tmp 36, Go.Operand.tmp 43], argTypes := #[32, 32] }) (ty := 32) (v := .slice A9 ((ts.take i1).length + 1) c9) (w1 := w') rfl rfl (fun d pos aft g => by unfold execOp; simp only [resolve, invoke, builtin, Sem.run_bind, Sem.run_pure, Result.andThen_ok, List.map_toArray, List.map_cons, List.map_nil, e36, e43, hrun]) ⟨_, rfl, ⟨A9, c9, _, rfl, hs'⟩, .inl ⟨rfl, trivial⟩, ⟨Nat.le_trans htr.1 k3.size, htr.2.grown k3 hhb⟩, (fun h _ => by cases h), fun _ _ _ => trivial⟩
            | 10, _ =>
              obtain ⟨e3, x3⟩ := Rv.ev (show a.tmps.getD 3 undef = .pointer (some ⟨g, 0, none⟩) from hbase 3 rfl)
              exact Rv.step_op (op := Go.Op.fieldAddr 34 (Go.Operand.tmp 3) 4) (v := .pointer (some ⟨g, 4, none⟩)) (w1 := W) rfl rfl (fun d pos aft g => by unfold execOp; go_simp) ⟨_, rfl, rfl, .inr (Below.refl _ _), htr, fun _ ht => ht, fun _ _ _ => trivial⟩
            | 11, _ =>
              obtain ⟨e45, x45⟩ := Rv.ev (show a.tmps.getD 45 undef = .pointer (some ⟨g, 4, none⟩) from hdep 10 rfl rfl)
              obtain ⟨A9, c9, v9, q9, s9⟩ : ∃ (A9 : Option Addr) (c9 : Nat) (v : Value), a.tmps.getD 44 undef = .slice A9 ((ts.take i1).length + 1) c9 ∧ Sn (w.heap.size + 2) g k0 num s0 ns VN VI (.slice A9 ((ts.take i1).length + 1) c9) (ts.take i1 ++ [ti]) (hs ++ [v]) W := hdep 9 rfl rfl
              obtain ⟨e44, x44⟩ := Rv.ev q9
              obtain ⟨u0, u1, u2, u3, u4⟩ := Rv.cells5 (Sn.blk s9)
              obtain ⟨f0, f1, f2, f3, f4⟩ := Rv.frozen5 (Sn.blk s9)
              have hgB := Sn.geB s9
              exact Rv.step_skip (op := Go.Op.store 32 (Go.Operand.tmp 45) (Go.Operand.tmp 44)) (ty := 0) (w1 := W.setCell ⟨g, 4, none⟩ (.slice A9 ((ts.take i1).length + 1) c9)) rfl rfl (fun d pos aft g => by unfold execOp; go_simp) ⟨undef, rfl, ⟨A9, c9, v9, q9, Sn.store4 s9⟩, .inl ⟨rfl, trivial⟩, ⟨(by simpa using htr.1), htr.2.grown (grown_set (Below.refl _ _) g 4 _) (fun k hk => by injection hk with hk; omega)⟩, (fun h _ => by cases h), fun _ _ _ => trivial⟩
            | m + 12, h => exact absurd h (by show ¬ m + 12 < 12; omega)
          intro W f hf htr hJ
          have f0 : f 0 = .pointer (some ⟨g, 4, none⟩) := hf 0 (by show 0 < 12; omega) rfl
          have f1 : f 1 = VI := hf 1 (by show 1 < 12; omega) rfl
          have f2 : f 2 = .pointer (some ⟨w.heap.size, 4, none⟩) := hf 2 (by show 2 < 12; omega) rfl
          have f3 : f 3 = .slice (some ⟨bi, oi, none⟩) ts.length c2 := hf 3 (by show 3 < 12; omega) rfl
          have f4 : f 4 = .int .i64 (i1 : Int) := hf 4 (by show 4 < 12; omega) rfl
          have f5 : f 5 = .pointer (some ⟨bi, oi + i1 * 5, none⟩) := hf 5 (by show 5 < 12; omega) rfl
          have f6 : f 6 = .agg #[.int .i64 kk1, .int .i64 nn1, .string ss1, .slice A1 l1 c1, .slice A3 l3 c3] := hf 6 (by show 6 < 12; omega) rfl
          have f10 : f 10 = .pointer (some ⟨g, 4, none⟩) := hf 10 (by show 10 < 12; omega) rfl
          have HS11 := Lib.hid (show (fun f W => ∃ (A9 : Option Addr) (c9 : Nat) (v : Value), f 9 = .slice A9 ((ts.take i1).length + 1) c9 ∧ Sn (w.heap.size + 2) g k0 num s0 ns VN (.slice A9 ((ts.take i1).length + 1) c9) (.slice A9 ((ts.take i1).length + 1) c9) (ts.take i1 ++ [ti]) (hs ++ [v]) W) f W from hf 11 (by show 11 < 12; omega) rfl)
          clear hf
          refine (show ∀ (a : Act) (w : World), Code.wp _ _ _ a w → _ from by assumption) _ _ ?_
          refine Rv.fin_swap (L' := [(35, f 0), (36, f 1), (37, f 2), (38, f 3), (39, f 4), (40, f 5), (41, f 6), (42, f 7), (43, f 8), (44, f 9), (45, f 10), (1011, f 11)]) rfl ?_
          rw [f0, f1, f2, f3, f4, f5, f6, f10]
          clear f0 f1 f2 f3 f4 f5 f6 f10
          simp only [Rv.fin, List.foldl_cons, List.foldl_nil, Act.put, List.setIfInBounds_toArray, List.set_cons_succ, List.set_cons_zero, List.set_nil]
          obtain ⟨A9', c9', v9', q9', HS9⟩ := HS11.out
          have HS9 := Lib.hid HS9
          have HTQ := Lib.hid htr.2
          subst hVN
          rw [q9']
          generalize f 7 = u5
          generalize f 8 = u6
          clear htr q9'
          go_wp2
          go_roundw
          case rel => exact ⟨i1 + 1, A9', c9', hs ++ [v9'], by go_num, by omega, Lib.hid (by
            have h := HS9.out
            rw [show (ts.take i1).length + 1 = (ts.take i1 ++ [ti]).length by simp, HTI.out] at h
            exact h), HTQ⟩
          case measure => simp [intOf]; omega
        · obtain rfl : i1 = ts.length := by omega
          rw [List.take_length] at HS
          obtain ⟨q0, q1, q2, q3, q4⟩ := Rv.cells5 HS.out.blk
          obtain ⟨r0, r1, r2, r3, r4⟩ := Rv.cells5 HTQ.out.2.2
          obtain ⟨z0, z1, z2, z3, z4⟩ := Rv.frozen5 HTQ.out.2.2
          go_wp2
          have gs := fun (W : World) j u => grown_set (Below.refl _ W) (w.heap.size + 1) j u
          have HJ := Lib.hid (((Sn.done HS.out HNUM2.out).grown (grown_then (grown_then (grown_then (grown_then (gs wr 0 (.int .i64 k0)) (gs _ 1 (.int .u64 num))) (gs _ 2 (.string s0))) (gs _ 3 (.slice A9 ns.length c9))) (gs _ 4 (.slice AI ts.length cI))) (fun x hx e => by injection e with e; omega)).weak (q := fun x => w.heap.size ≤ x) (fun x _ hx => by omega))
          have sb : ∀ (V : World) (j : Nat) (u : Value), Below w.heap.size w V → Below w.heap.size w (V.setCell ⟨w.heap.size + 1, j, none⟩ u) := fun V j u h => h.setCell (by show w.heap.size ≤ w.heap.size + 1; omega) u
          have HB5 := Lib.hid (sb _ 4 (.slice AI ts.length cI) (sb _ 3 (.slice A9 ns.length c9) (sb _ 2 (.string s0) (sb _ 1 (.int .u64 num) (sb _ 0 (.int .i64 k0) HTQ.out.1)))))
          have hfr := Rv.sets5 HTQ.out.2.2 (.int .i64 k0) (.int .u64 num) (.string s0) (.slice A9 ns.length c9) (.slice AI ts.length cI)
          clear y0 y1 y2 y3 y4 q0 q1 q2 q3 q4 r0 r1 r2 r3 r4 z0 z1 z2 z3 z4 gs sb
          obtain ⟨q0, q1, q2, q3, q4⟩ := Rv.cells5 hfr
          clear hfr
          refine bodyPost_ret (v := .agg #[.int .i64 k0, .int .u64 num, .string s0, .slice A9 ns.length c9, .slice AI ts.length cI]) ?_ rfl ⟨_, rfl, HJ.out, HB5.out⟩
          simp only [results, show Tryz.f9.results = #[.cell 2 34] by kernel_rfl]
          go_simp
theorem in_anyg (t : J) (p : Nat → Prop) (v : Value) (w : World) (hwf : Wg t) (hj : JN p w t v) : Calls Tryz.prog 9 #[v] w fun e w' => ∃ u, e = .returned u ∧ NN (fun x => w.heap.size ≤ x) w' t u ∧ Below w.heap.size w w' :=
  match t, hwf, hj with
  | .mk k0 n0 s0 ns ts, hwf, hj => in_stepg k0 n0 s0 ns ts (fun t ht p v w h1 h2 => in_anyg t p v w h1 h2) p v w hwf hj
termination_by SizeOf.sizeOf t
decreasing_by
  have := List.sizeOf_lt_of_mem ht
  simp only [J.mk.sizeOf_spec]
  omega
end Go.Proofs.YtmelgankbegjaaaGreatDoor.Js

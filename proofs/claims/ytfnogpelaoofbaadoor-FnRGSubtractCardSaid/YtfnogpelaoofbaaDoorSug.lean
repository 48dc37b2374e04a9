/- FnRGSubtract: for whatever two ranges the law returns true. Conditions: those written at each lemma. -/
import Derived.Test.YtfnogpelaoofbaaDoorSuf
import Derived.IntWalk
set_option linter.unusedVariables false
set_option linter.unusedSimpArgs false
set_option maxRecDepth 100000
set_option maxHeartbeats 8000000
namespace Go.Proofs.YtfnogpelaoofbaaDoor.Rg
open Go.RowKit Go.Proofs.YtfnogpelaoofbaaDoor.B Go.Proofs.YtfnogpelaoofbaaDoor.Sp

/-- s[k:k+1]. -/
theorem piece_run {P : Program} (t e : TypeId) (size : Nat) (ht : P.underlying t = some (.slice e)) (hz : ∀ W, (sizeOf e).run P W = .ok size W) (b o len c k : Nat) (hk : k < len) (hc : len ≤ c) (W : World) :
    (Instr.slice t (.slice (some ⟨b, o, none⟩) len c) (some (.int .i64 (k : Int))) (some (.int .i64 ((k : Int) + 1))) none).run P W = .ok (.slice (some ⟨b, o + k * size, none⟩) 1 (c - k)) W := by
  have he : P.elem t = e := by simp [Program.elem, ht]
  have hrun := run_slice_lh (P := P) (w := W) t (some ⟨b, o, none⟩) len c (by rw [he]; exact ht) .i64 .i64 (k : Int) ((k : Int) + 1) (by omega) (by omega) (by omega)
  rw [hrun, he, hz, Result.andThen_ok]
  have e1 : (k : Int).toNat = k := by omega
  have e2 : ((k : Int) + 1).toNat = k + 1 := by omega
  rw [e1, e2]
  unfold sliced
  rw [if_neg (by omega), Option.map_some, add_at, Nat.add_sub_cancel_left]
theorem rd_piece {W : World} {size b o len c k : Nat} {cs ds : List Value} (h : Rd W size (.slice (some ⟨b, o, none⟩) len c) len cs) (hk : k < len) (hd : (cs.drop (k * size)).take size = ds) : Rd W size (.slice (some ⟨b, o + k * size, none⟩) 1 (c - k)) 1 ds := by
  obtain ⟨h1, A', c', h2, h3, h4, h5⟩ := h
  injection h2 with e1 e2 e3
  subst e3
  obtain ⟨b', o', hA, hb, hc⟩ := h5 (by omega)
  rw [← e1] at hA
  injection hA with hA
  injection hA with hA1 hA2
  subst hA1 hA2
  have hle : (k + 1) * size ≤ len * size := Nat.mul_le_mul_right _ hk
  rw [Nat.add_mul, Nat.one_mul] at hle
  refine ⟨by rw [← hd, List.length_take, List.length_drop, h1]; omega, _, c - k, rfl, by omega, by omega, fun _ => ⟨b, _, rfl, hb, fun j u hu => ?_⟩⟩
  rw [← hd, List.getElem?_take] at hu
  split at hu
  · rw [List.getElem?_drop] at hu
    have := hc _ _ hu
    rwa [Nat.add_assoc]
  · cases hu
theorem rd_cap {W : World} {size n c : Nat} {A : Option Addr} {cs : List Value} (h : Rd W size (.slice A n c) n cs) : n ≤ c := by
  obtain ⟨_, A', c', h2, h3, _⟩ := h
  injection h2 with e1 e2 e3
  omega
theorem sz27 (W : World) : (sizeOf 27).run Tryd.prog W = .ok 4 W := by kernel_rfl
theorem sz3 (W : World) : (sizeOf 3).run Tryd.prog W = .ok 1 W := by kernel_rfl
theorem clc_piece (cs : List Cl) (k : Nat) (h : k < cs.length) : ((clc cs).drop (k * 4)).take 4 = clc [cs[k]] := by
  have e : cs = cs.take k ++ ([cs[k]] ++ cs.drop (k + 1)) := by rw [List.singleton_append, ← List.drop_eq_getElem_cons h, List.take_append_drop]
  have e2 : clc cs = clc (cs.take k) ++ (clc [cs[k]] ++ clc (cs.drop (k + 1))) := by rw [← clc_append, ← clc_append, ← e]
  have hl : (clc (cs.take k)).length = k * 4 := by rw [clc_len, List.length_take]; omega
  rw [e2, ← hl, List.drop_left, List.take_append_of_le_length (by rw [clc_len]; simp), List.take_of_length_le (by rw [clc_len]; simp)]
theorem nums_piece (l : List Int) (k : Nat) (h : k < l.length) : ((nums l).drop (k * 1)).take 1 = nums [l[k]] := by
  rw [Nat.mul_one, List.drop_eq_getElem_cons (by simpa using h)]
  simp
theorem law6 (c1 c2 : Cl) (w : World) : Calls Tryd.prog 6 #[c1.v, c2.v] w fun e w' => e = .returned (.bool true) ∧ Below w.heap.size w w' := by
  have C1 := Lib.hid (fun W => full_any c1 W)
  have C2 := Lib.hid (fun W => full_any c2 W)
  have HA := full_ful c1
  have HC := full_ful c2
  generalize full c1 = A at *
  generalize full c2 = C at *
  have ha := ful_pcl HA
  have hc := ful_pcl HC
  have PA := Lib.hid ha
  have PC := Lib.hid hc
  have SB := Lib.hid (fun W => rgsub_cl A C W ha hc)
  have hq : Pcl ⟨A.b, A.y, 4, 0⟩ := ⟨ha.2, (by decide : Pos 4 0)⟩
  have SO := Lib.hid (fun W => rgsub_cl A ⟨A.b, A.y, 4, 0⟩ W ha hq)
  rw [sub_own] at SO
  have HS := Lib.hid (fun p => sub_has HA HC p)
  have SF := Lib.hid (sub_ful (b := C) HA)
  have SP := Lib.hid (sub_pcl ha hc)
  have hl := sub_len A C
  have SA := Lib.hid (fun W => same_cl A A W ha ha)
  rw [sameC_self] at SA
  have PL := Lib.hid (fun W => place_any A.b A.y W ha.2.1 ha.2.2.1 (by have := ha.2.2.2.1; omega) (by have := ha.2.2.2.2.1; omega))
  generalize sub A C = l at *
  generalize plc A.b A.y = hiA at *
  clear HA HC ha hc hq
  have HX : Hid (Below w.heap.size w ((w.alloc (cl4 c1)).alloc (cl4 c2))) := Lib.hid (by go_grown)
  have HB2 : Hid (((w.alloc (cl4 c1)).alloc (cl4 c2)).heap[w.heap.size]? = some (cl4 c1) ∧ ((w.alloc (cl4 c1)).alloc (cl4 c2)).heap[w.heap.size + 1]? = some (cl4 c2) ∧ ((w.alloc (cl4 c1)).alloc (cl4 c2)).heap.size = w.heap.size + 1 + 1) := Lib.hid ⟨heap_old (heap_alloc_new _ _), by
    have e1 : (w.alloc (cl4 c1)).heap.size = w.heap.size + 1 := by simp
    rw [← e1]; exact heap_alloc_new _ _, by simp⟩
  go_enter Tryd.func6, Tryd.ntmps6
  go_upto_region 1 with fail
  generalize ((w.alloc (cl4 c1)).alloc (cl4 c2)) = X at *
  have hsz := HB2.out.2.2
  refine Rv.region_fin (n := 112) (by kernel_rfl) #[14, 15, 16, 17, 5, 6, 1006, 1007] #[] (fun i f W => if i = 7 then (fun f W => ∃ g, f 5 = .pointer (some ⟨g, 0, none⟩) ∧ W.heap[g]? = some (.cells #[.int .i64 C.a, .int .i64 C.x, .int .i64 C.b, .int .i64 C.y] 27 (0, 0))) f W else if i = 5 then (fun f W => ∃ g, f 5 = .pointer (some ⟨g, 0, none⟩) ∧ W.heap[g]? = some (.cells #[.int .i64 0, .int .i64 0, .int .i64 0, .int .i64 0] 27 (0, 0))) f W else if i = 6 then (fun f W => ∃ g, f 4 = .pointer (some ⟨g, 0, none⟩) ∧ W.heap[g]? = some (.cells #[.int .i64 A.a, .int .i64 A.x, .int .i64 A.b, .int .i64 A.y] 27 (0, 0))) f W else if i = 4 then (fun f W => ∃ g, f 4 = .pointer (some ⟨g, 0, none⟩) ∧ W.heap[g]? = some (.cells #[.int .i64 0, .int .i64 0, .int .i64 0, .int .i64 0] 27 (0, 0))) f W else f i = (#[c1.v, A.v, c2.v, C.v, undef, undef, undef, undef] : Array Value).getD i undef) (fun i j => (i == 6 && (j == 4)) || (i == 7 && (j == 4 || j == 5))) (fun i => i == 6 || i == 7) (fun i f W W' => if i = 7 then (fun f W W' => f 4 ≠ f 5 ∧ ∃ g, f 5 = .pointer (some ⟨g, 0, none⟩) ∧ Rv.But g W W') f W W' else if i = 6 then (fun f W W' => f 4 ≠ f 5 ∧ ∃ g, f 4 = .pointer (some ⟨g, 0, none⟩) ∧ Rv.But g W W') f W W' else True) (fun W => Below X.heap.size X W) (fun _ => True) (Rv.Two 4 5 X.heap.size) (Rv.Two.loc (by show 4 < 8; omega) (by show 5 < 8; omega)) (fun i f f' w hi h hd hg => ?_) (fun i j f w w' hi hj hij hK hdp h hr => ?_) (fun i h g b hg => ?_) rfl (by kernel_rfl) (fun i h g b hg => ?_) ((Below.refl _ _).drew) (trivial) (fun f => Rv.Two.start) (fun i h hr f w hf => ?_) (fun i h hr => absurd hr (Rv.allrun (by kernel_rfl) i h)) ?_ ?_
  · by_cases hi1007 : i = 7
    · subst hi1007
      rw [if_pos rfl] at hg ⊢
      obtain ⟨g, q1, q2⟩ := hg
      exact ⟨g, (hd 5 rfl).symm.trans q1, q2⟩
    rw [if_neg hi1007] at hg ⊢
    by_cases hi6 : i = 5
    · subst hi6
      rw [if_pos rfl] at hg ⊢
      obtain ⟨g, q1, q2⟩ := hg
      exact ⟨g, h.symm.trans q1, q2⟩
    rw [if_neg hi6] at hg ⊢
    by_cases hi1006 : i = 6
    · subst hi1006
      rw [if_pos rfl] at hg ⊢
      obtain ⟨g, q1, q2⟩ := hg
      exact ⟨g, (hd 4 rfl).symm.trans q1, q2⟩
    rw [if_neg hi1006] at hg ⊢
    by_cases hi5 : i = 4
    · subst hi5
      rw [if_pos rfl] at hg ⊢
      obtain ⟨g, q1, q2⟩ := hg
      exact ⟨g, h.symm.trans q1, q2⟩
    rw [if_neg hi5] at hg ⊢
    rw [← h]; exact hg
  · by_cases hj1007 : j = 7
    · subst hj1007
      rw [if_pos rfl] at h ⊢
      rcases hr with ⟨hK1, hr⟩ | hr
      · exfalso
        have e11 : i = 6 := by simpa [hij] using hK1
        subst e11
        revert hdp
        decide
      · obtain ⟨g, e, hb⟩ := h
        exact ⟨g, e, (hr.block _ (Rv.lt_of_blk hb)).trans hb⟩
    rw [if_neg hj1007] at h ⊢
    by_cases hj6 : j = 5
    · subst hj6
      rw [if_pos rfl] at h ⊢
      rcases hr with ⟨hK1, hr⟩ | hr
      · have hi2 : i = 6 ∨ i = 7 := by simpa using hK1
        rcases hi2 with e | e
        · subst e
          obtain ⟨hne, g', hp, hbut⟩ := (show f 4 ≠ f 5 ∧ ∃ g, f 4 = .pointer (some ⟨g, 0, none⟩) ∧ Rv.But g w w' from hr)
          obtain ⟨g, e1, hb⟩ := h
          exact ⟨g, e1, hbut.blk hb (fun e3 => hne (by rw [e1, hp, e3]))⟩
        · exfalso
          subst e
          revert hK
          decide
      · obtain ⟨g, e, hb⟩ := h
        exact ⟨g, e, (hr.block _ (Rv.lt_of_blk hb)).trans hb⟩
    rw [if_neg hj6] at h ⊢
    by_cases hj1006 : j = 6
    · subst hj1006
      rw [if_pos rfl] at h ⊢
      rcases hr with ⟨hK1, hr⟩ | hr
      · have e12 : i = 7 := by simpa [hij] using hK1
        subst e12
        obtain ⟨hne, g', hp, hbut⟩ := (show f 4 ≠ f 5 ∧ ∃ g, f 5 = .pointer (some ⟨g, 0, none⟩) ∧ Rv.But g w w' from hr)
        obtain ⟨g, e1, hb⟩ := h
        exact ⟨g, e1, hbut.blk hb (fun e3 => hne (by rw [e1, hp, e3]))⟩
      · obtain ⟨g, e, hb⟩ := h
        exact ⟨g, e, (hr.block _ (Rv.lt_of_blk hb)).trans hb⟩
    rw [if_neg hj1006] at h ⊢
    by_cases hj5 : j = 4
    · subst hj5
      rw [if_pos rfl] at h ⊢
      rcases hr with ⟨hK1, hr⟩ | hr
      · exfalso
        have hi2 : i = 6 ∨ i = 7 := by simpa using hK1
        rcases hi2 with e | e <;> (subst e; revert hK; decide)
      · obtain ⟨g, e, hb⟩ := h
        exact ⟨g, e, (hr.block _ (Rv.lt_of_blk hb)).trans hb⟩
    rw [if_neg hj5] at h ⊢
    exact h
  · match i, h, hg with
    | 0, _, hg => cases hg
    | 1, _, hg => cases hg
    | 2, _, hg => cases hg
    | 3, _, hg => cases hg
    | 4, _, hg => cases hg
    | 5, _, hg => cases hg
    | 6, _, hg => cases hg
    | 7, _, hg => cases hg
    | m + 8, h, _ => exact absurd h (by show ¬ m + 8 < 8; omega)
  · match i, h, hg with
    | 0, _, hg => cases hg
    | 1, _, hg => cases hg
    | 2, _, hg => cases hg
    | 3, _, hg => cases hg
    | 4, _, hg => cases hg
    | 5, _, hg => cases hg
    | 6, _, hg => cases hg
    | 7, _, hg => cases hg
    | m + 8, h, _ => exact absurd h (by show ¬ m + 8 < 8; omega)
  · match i, h, hr, hf with
    | 0, _, hr, _ => exact Bool.noConfusion (show true = false from hr)
    | 1, _, hr, _ => exact Bool.noConfusion (show true = false from hr)
    | 2, _, hr, _ => exact Bool.noConfusion (show true = false from hr)
    | 3, _, hr, _ => exact Bool.noConfusion (show true = false from hr)
    | 4, _, hr, _ => exact Bool.noConfusion (show true = false from hr)
    | 5, _, hr, _ => exact Bool.noConfusion (show true = false from hr)
    | 6, _, hr, _ => exact Bool.noConfusion (show true = false from hr)
    | 7, _, hr, _ => exact Bool.noConfusion (show true = false from hr)
    | m + 8, h, _, _ => exact absurd h (by show ¬ m + 8 < 8; omega)
  · intro i h a W hrun hbase hpre hdep htr hta hJ
    obtain ⟨n0, n1, n2, n3⟩ := Rv.cells4 ((htr.block _ (by omega)).trans HB2.out.1)
    obtain ⟨r0, r1, r2, r3⟩ := Rv.cells4 ((htr.block _ (by omega)).trans HB2.out.2.1)
    match i, h with
    | 0, _ =>
      obtain ⟨e2, x2⟩ := Rv.ev (show a.tmps.getD 2 undef = .pointer (some ⟨w.heap.size, 0, none⟩) from hbase 2 rfl)
      exact Rv.step_op (op := Go.Op.load 27 (Go.Operand.tmp 2)) (v := c1.v) (w1 := W) rfl rfl (fun d pos aft g => by unfold execOp; go_simp) ⟨_, rfl, rfl, .inr (Below.refl _ _), htr, fun _ ht => ht, fun L _ hJ => Rv.Two.keep (by decide) (by decide) _ (Nat.le_refl _) hJ⟩
    | 1, _ =>
      obtain ⟨e14, x14⟩ := Rv.ev (show a.tmps.getD 14 undef = c1.v from hdep 0 rfl rfl)
      have cf : ∀ x0 W, (callFunc 17 #[x0]).run Tryd.prog W = .ok (.enter 17 #[x0]) W := fun _ _ => by kernel_rfl
      refine Rv.step_fn (op := Go.Op.call { callee := Go.Callee.value (Go.Operand.func 17), args := #[Go.Operand.tmp 14], argTypes := #[27] }) (f := 17) (args := #[c1.v]) (R := fun v W' => v = A.v ∧ Below W.heap.size W W') rfl rfl (fun d pos aft g => by unfold execOp; go_simp) ((C1.out W).mono ?_) ?_
      · (rintro e W' ⟨rfl, hb⟩; exact ⟨_, rfl, rfl, hb⟩)
      · (rintro v W' ⟨rfl, hb⟩; exact ⟨_, rfl, rfl, .inr hb, (fun W W' ht hb => ht.trans (hb.mono ht.size)) W W' htr hb, fun _ ht => (fun _ _ _ _ => trivial) W W' ht hb, fun L _ hJ => Rv.Two.keep (by decide) (by decide) _ (hb.size) hJ⟩)
    | 2, _ =>
      obtain ⟨e3, x3⟩ := Rv.ev (show a.tmps.getD 3 undef = .pointer (some ⟨w.heap.size + 1, 0, none⟩) from hbase 3 rfl)
      exact Rv.step_op (op := Go.Op.load 27 (Go.Operand.tmp 3)) (v := c2.v) (w1 := W) rfl rfl (fun d pos aft g => by unfold execOp; go_simp) ⟨_, rfl, rfl, .inr (Below.refl _ _), htr, fun _ ht => ht, fun L _ hJ => Rv.Two.keep (by decide) (by decide) _ (Nat.le_refl _) hJ⟩
    | 3, _ =>
      obtain ⟨e16, x16⟩ := Rv.ev (show a.tmps.getD 16 undef = c2.v from hdep 2 rfl rfl)
      have cf : ∀ x0 W, (callFunc 17 #[x0]).run Tryd.prog W = .ok (.enter 17 #[x0]) W := fun _ _ => by kernel_rfl
      refine Rv.step_fn (op := Go.Op.call { callee := Go.Callee.value (Go.Operand.func 17), args := #[Go.Operand.tmp 16], argTypes := #[27] }) (f := 17) (args := #[c2.v]) (R := fun v W' => v = C.v ∧ Below W.heap.size W W') rfl rfl (fun d pos aft g => by unfold execOp; go_simp) ((C2.out W).mono ?_) ?_
      · (rintro e W' ⟨rfl, hb⟩; exact ⟨_, rfl, rfl, hb⟩)
      · (rintro v W' ⟨rfl, hb⟩; exact ⟨_, rfl, rfl, .inr hb, (fun W W' ht hb => ht.trans (hb.mono ht.size)) W W' htr hb, fun _ ht => (fun _ _ _ _ => trivial) W W' ht hb, fun L _ hJ => Rv.Two.keep (by decide) (by decide) _ (hb.size) hJ⟩)
    | 4, _ =>
      have hal : Below W.heap.size W (W.alloc (.cells #[.int .i64 0, .int .i64 0, .int .i64 0, .int .i64 0] 27)) := (Below.refl _ _).alloc (Nat.le_refl _) _
      exact Rv.step_op (op := Go.Op.alloc 27) (ty := 0) (v := .pointer (some ⟨W.heap.size, 0, none⟩)) (w1 := W.alloc (.cells #[.int .i64 0, .int .i64 0, .int .i64 0, .int .i64 0] 27)) rfl rfl (fun d pos aft g => by unfold execOp; go_simp) ⟨_, rfl, ⟨W.heap.size, rfl, heap_alloc_new W _⟩, .inr hal, htr.trans (hal.mono htr.size), fun _ ht => ht, fun L _ hJ => Rv.Two.fst (by decide) htr.size (by simp) hJ⟩
    | 5, _ =>
      have hal : Below W.heap.size W (W.alloc (.cells #[.int .i64 0, .int .i64 0, .int .i64 0, .int .i64 0] 27)) := (Below.refl _ _).alloc (Nat.le_refl _) _
      exact Rv.step_op (op := Go.Op.alloc 27) (ty := 0) (v := .pointer (some ⟨W.heap.size, 0, none⟩)) (w1 := W.alloc (.cells #[.int .i64 0, .int .i64 0, .int .i64 0, .int .i64 0] 27)) rfl rfl (fun d pos aft g => by unfold execOp; go_simp) ⟨_, rfl, ⟨W.heap.size, rfl, heap_alloc_new W _⟩, .inr hal, htr.trans (hal.mono htr.size), fun _ ht => ht, fun L _ hJ => Rv.Two.snd (by decide) htr.size (by simp) hJ⟩
    | 6, _ =>
      obtain ⟨g5, e5', h5⟩ : ∃ g, a.tmps.getD 5 undef = .pointer (some ⟨g, 0, none⟩) ∧ W.heap[g]? = some (.cells #[.int .i64 0, .int .i64 0, .int .i64 0, .int .i64 0] 27 (0, 0)) := hdep 4 rfl rfl
      obtain ⟨e5, x5⟩ := Rv.ev e5'
      obtain ⟨e15, x15⟩ := Rv.ev (show a.tmps.getD 15 undef = A.v from hdep 1 rfl rfl)
      obtain ⟨L, _, hL, hJ2⟩ := hJ
      have hne := hJ2.2.2 (hL 4 rfl) (hL 5 rfl)
      have hge : X.heap.size ≤ g5 := by
        obtain ⟨g, eg, hge, _⟩ := hJ2.1 (hL 4 rfl)
        have eg2 : Value.pointer (some ⟨g, 0, none⟩) = .pointer (some ⟨g5, 0, none⟩) := eg.symm.trans e5'
        injection eg2 with eg2
        injection eg2 with eg2
        injection eg2 with eg2
        omega
      obtain ⟨k0, k1, k2, k3⟩ := Rv.cells4 h5
      obtain ⟨m0, m1, m2, m3⟩ := Rv.frozen4 h5
      exact Rv.step_skip (op := Go.Op.store 27 (Go.Operand.tmp 5) (Go.Operand.tmp 15)) (ty := 0) (w1 := ((((W.setCell ⟨g5, 0, none⟩ (.int .i64 A.a)).setCell ⟨g5, 1, none⟩ (.int .i64 A.x)).setCell ⟨g5, 2, none⟩ (.int .i64 A.b)).setCell ⟨g5, 3, none⟩ (.int .i64 A.y))) rfl rfl (fun d pos aft g => by unfold execOp; go_simp) ⟨undef, rfl, ⟨g5, e5', Rv.sets4 h5 _ _ _ _⟩, .inl ⟨rfl, hne, g5, e5', Rv.buts4 g5 W _ _ _ _⟩, Rv.belows4 htr hge _ _ _ _, (fun h _ => by cases h), fun L _ hJ => Rv.Two.keep (by decide) (by decide) _ ((Rv.buts4 g5 W _ _ _ _).1) hJ⟩
    | 7, _ =>
      obtain ⟨g6, e6', h6⟩ : ∃ g, a.tmps.getD 6 undef = .pointer (some ⟨g, 0, none⟩) ∧ W.heap[g]? = some (.cells #[.int .i64 0, .int .i64 0, .int .i64 0, .int .i64 0] 27 (0, 0)) := hdep 5 rfl rfl
      obtain ⟨e6, x6⟩ := Rv.ev e6'
      obtain ⟨e17, x17⟩ := Rv.ev (show a.tmps.getD 17 undef = C.v from hdep 3 rfl rfl)
      obtain ⟨L, _, hL, hJ2⟩ := hJ
      have hne := hJ2.2.2 (hL 4 rfl) (hL 5 rfl)
      have hge : X.heap.size ≤ g6 := by
        obtain ⟨g, eg, hge, _⟩ := hJ2.2.1 (hL 5 rfl)
        have eg2 : Value.pointer (some ⟨g, 0, none⟩) = .pointer (some ⟨g6, 0, none⟩) := eg.symm.trans e6'
        injection eg2 with eg2
        injection eg2 with eg2
        injection eg2 with eg2
        omega
      obtain ⟨k0, k1, k2, k3⟩ := Rv.cells4 h6
      obtain ⟨m0, m1, m2, m3⟩ := Rv.frozen4 h6
      exact Rv.step_skip (op := Go.Op.store 27 (Go.Operand.tmp 6) (Go.Operand.tmp 17)) (ty := 0) (w1 := ((((W.setCell ⟨g6, 0, none⟩ (.int .i64 C.a)).setCell ⟨g6, 1, none⟩ (.int .i64 C.x)).setCell ⟨g6, 2, none⟩ (.int .i64 C.b)).setCell ⟨g6, 3, none⟩ (.int .i64 C.y))) rfl rfl (fun d pos aft g => by unfold execOp; go_simp) ⟨undef, rfl, ⟨g6, e6', Rv.sets4 h6 _ _ _ _⟩, .inl ⟨rfl, hne, g6, e6', Rv.buts4 g6 W _ _ _ _⟩, Rv.belows4 htr hge _ _ _ _, (fun h _ => by cases h), fun L _ hJ => Rv.Two.keep (by decide) (by decide) _ ((Rv.buts4 g6 W _ _ _ _).1) hJ⟩
    | m + 8, h => exact absurd h (by show ¬ m + 8 < 8; omega)
  intro W f hf htr hJ
  have f0 : f 0 = c1.v := hf 0 (by show 0 < 8; omega) rfl
  have f1 : f 1 = A.v := hf 1 (by show 1 < 8; omega) rfl
  have f2 : f 2 = c2.v := hf 2 (by show 2 < 8; omega) rfl
  have f3 : f 3 = C.v := hf 3 (by show 3 < 8; omega) rfl
  have HS6 := Lib.hid (show (fun f W => ∃ g, f 4 = .pointer (some ⟨g, 0, none⟩) ∧ W.heap[g]? = some (.cells #[.int .i64 A.a, .int .i64 A.x, .int .i64 A.b, .int .i64 A.y] 27 (0, 0))) f W from hf 6 (by show 6 < 8; omega) rfl)
  have HS7 := Lib.hid (show (fun f W => ∃ g, f 5 = .pointer (some ⟨g, 0, none⟩) ∧ W.heap[g]? = some (.cells #[.int .i64 C.a, .int .i64 C.x, .int .i64 C.b, .int .i64 C.y] 27 (0, 0))) f W from hf 7 (by show 7 < 8; omega) rfl)
  clear hf
  refine (show ∀ (a : Act) (w : World), Code.wp _ _ _ a w → _ from by assumption) _ _ ?_
  refine Rv.fin_swap (L' := [(14, f 0), (15, f 1), (16, f 2), (17, f 3), (5, f 4), (6, f 5), (1006, f 6), (1007, f 7)]) rfl ?_
  rw [f0, f1, f2, f3]
  clear f0 f1 f2 f3
  simp only [Rv.fin, List.foldl_cons, List.foldl_nil, Act.put, List.setIfInBounds_toArray, List.set_cons_succ, List.set_cons_zero, List.set_nil]
  obtain ⟨g5, e4, hg5⟩ := HS6.out
  obtain ⟨g6, e5, hg6⟩ := HS7.out
  rw [e4, e5]
  clear e4 e5 HS6 HS7 hJ
  have hs1 : w.heap.size ≤ W.heap.size := by have := htr.size; omega
  have MM1 : Hid (Ms w.heap.size w W [(g5, A), (g6, C)]) := Lib.hid ⟨fun p hp => by
    rcases List.mem_cons.1 hp with rfl | hp
    · exact hg5
    · obtain rfl := List.mem_singleton.1 hp
      exact hg6, HX.out.trans (htr.mono (by omega)), hs1⟩
  obtain ⟨a0, a1, a2, a3, a4⟩ := MM1.out.get g5 A (.head _)
  obtain ⟨b0, b1, b2, b3, b4⟩ := MM1.out.get g6 C (.tail _ (.head _))
  clear htr HX HB2 hg5 hg6 hsz C1 C2 hs1
  generalize W = W1 at *
  go_wp2_with (first
    | (go_at_call 21; (with_reducible refine (SB.out _).mono ?_); rintro e W2 ⟨A7, c7, rfl, hr7, hb2⟩; have MM2 := Lib.hid (MM1.out.keep hb2); have R7 := Lib.hid hr7; clear hr7 hb2 a0 a1 a2 a3 a4 b0 b1 b2 b3 b4; obtain ⟨a0, a1, a2, a3, a4⟩ := MM2.out.get g5 A (.head _); obtain ⟨b0, b1, b2, b3, b4⟩ := MM2.out.get g6 C (.tail _ (.head _)))
    | (go_at_call 22; (with_reducible refine (places_any (.slice (some ⟨W2.heap.size, 0, none⟩) 2 2) [A, C] _ (rd_new (size := 4) (n := 2) rfl (by omega)) (fun c hc => by
          rcases List.mem_cons.1 hc with rfl | hc
          · exact PA.out
          · obtain rfl := List.mem_singleton.1 hc; exact PC.out) (by simp)).mono ?_); rintro e W3 ⟨A9, c9, r9, rfl, hr9, hl9, hb3⟩; have HA2 := Lib.hid ((Below.refl W2.heap.size W2).alloc (Nat.le_refl _) (.cells #[.int .i64 A.a, .int .i64 A.x, .int .i64 A.b, .int .i64 A.y, .int .i64 C.a, .int .i64 C.x, .int .i64 C.b, .int .i64 C.y] 27)); have MM3 := Lib.hid ((MM2.out.keep HA2.out).keep hb3); have R73 := Lib.hid ((R7.out.below HA2.out).below hb3); have R9 := Lib.hid hr9; clear hr9 hb3 a0 a1 a2 a3 a4 b0 b1 b2 b3 b4 HA2))
  go_loopw [9, 10] (fun v9 v10 wr => ∃ (k : Nat) (r : List Int) (A9 : Option Addr) (c9 : Nat), v10 = .int .i64 k ∧ k ≤ l.length ∧ v9 = .slice A9 r.length c9 ∧ r.length ≤ 5 + 3 * k ∧ Hid (Rd wr 1 (.slice A9 r.length c9) r.length (nums r)) ∧ Hid (Ms w.heap.size w wr [(g5, A), (g6, C)]) ∧ Hid (Rd wr 4 (.slice A7 l.length c7) l.length (clc l))) (fun _ v10 _ => (l.length - (intOf v10)).toNat)
  case atStart => exact ⟨0, r9, A9, c9, rfl, Nat.zero_le _, rfl, by simpa using hl9, R9, MM3, R73⟩
  case round =>
    obtain ⟨k, r, A9, c9, rfl, hk, rfl, hlr, R9, MM, R7⟩ := hrel
    clear R73 MM3 MM2
    by_cases hlt : k < l.length
    · obtain ⟨b7, o7, rfl, hb7, d0, d1, d2, d3⟩ := rd_cl R7.out k hlt
      have hc7 := rd_cap R7.out
      have HSL := fun W => piece_run (P := Tryd.prog) 28 27 4 Tryd.underlying28 sz27 b7 o7 l.length c7 k hlt hc7 W
      have HP7 := Lib.hid (rd_piece R7.out hlt (clc_piece l k hlt))
      have PK := Lib.hid (SP.out _ (List.getElem_mem hlt))
      have FK := Lib.hid (SF.out _ (List.getElem_mem hlt))
      generalize l[k] = D at *
      have NO := Lib.hid (fun W => none_cl D W PK.out)
      rw [show decide (D.hi ≤ D.lo) = false by simpa using FK.out] at NO
      go_wp2_with (first
        | (go_at_call 22; (with_reducible refine (places_any (.slice (some ⟨b7, o7 + k * 4, none⟩) 1 (c7 - k)) [D] _ HP7.out (fun c hc => by obtain rfl := List.mem_singleton.1 hc; exact PK.out) (by simp)).mono ?_); rintro e W4 ⟨A4, c4, r4, rfl, hr4, hl4, hb4⟩; have MM4 := Lib.hid (MM.out.keep hb4); have R74 := Lib.hid (R7.out.below hb4); have R94 := Lib.hid (R9.out.below hb4); have R4 := Lib.hid hr4; have hl4' : r4.length ≤ 3 := (by simpa using hl4); have f0 := cell_below hb4 d0; have f1 := cell_below hb4 d1; have f2 := cell_below hb4 d2; have f3 := cell_below hb4 d3; clear hr4 hb4 hl4 d0 d1 d2 d3)
        | (go_at_call 23; (with_reducible refine (isAll_any (.slice A9 r.length c9) (.slice A4 r4.length c4) r r4 _ R94.out R4.out (by omega)).mono ?_); rintro e W5 ⟨A5, c5, r5, rfl, hr5, hl5, hb5⟩; have MM5 := Lib.hid (MM4.out.keep hb5); have R75 := Lib.hid (R74.out.below hb5); have R5 := Lib.hid hr5; have d0 := cell_below hb5 f0; have d1 := cell_below hb5 f1; have d2 := cell_below hb5 f2; have d3 := cell_below hb5 f3; clear hr5 hb5 f0 f1 f2 f3)
        | (go_at_call 16; (with_reducible refine (NO.out _).mono ?_); rintro e W6 ⟨rfl, hb6⟩; have MM6 := Lib.hid (MM5.out.keep hb6); have R76 := Lib.hid (R75.out.below hb6); have R6 := Lib.hid (R5.out.below hb6); clear hb6))
      go_roundw
      case rel => exact ⟨k + 1, r5, A5, c5, by go_num, by omega, rfl, by omega, R6, MM6, R76⟩
      case measure => simp [intOf]; omega
    · obtain rfl : k = l.length := by omega
      obtain ⟨X2, rfl⟩ : ∃ X2 : World, X2 = wr := ⟨_, rfl⟩
      clear SB SF
      go_wp2
      go_loopw [11] (fun v11 wr => ∃ (j : Nat), v11 = .int .i64 j ∧ j ≤ r.length ∧ Hid (Rd wr 1 (.slice A9 r.length c9) r.length (nums r)) ∧ Hid (Ms w.heap.size w wr [(g5, A), (g6, C)]) ∧ Hid (Rd wr 4 (.slice A7 l.length c7) l.length (clc l))) (fun v11 _ => (r.length - (intOf v11)).toNat)
      case atStart => exact ⟨0, rfl, Nat.zero_le _, R9, MM, R7⟩
      case round =>
        obtain ⟨j, rfl, hj, R9, MM, R7⟩ := hrel
        by_cases hlt : j < r.length
        · obtain ⟨b9, o9, rfl, hb9, f0⟩ := rd_num R9.out j hlt
          have hc9 := rd_cap R9.out
          have HSL := fun W => piece_run (P := Tryd.prog) 42 3 1 Tryd.underlying42 sz3 b9 o9 r.length c9 j hlt hc9 W
          have HP9 := Lib.hid (rd_piece R9.out hlt (nums_piece r j hlt))
          generalize r[j] = p at *
          have IA := Lib.hid (fun W => in_cl A p W PA.out)
          have IC := Lib.hid (fun W => in_cl C p W PC.out)
          have HAS := Lib.hid (fun v W (hr : RL W v (l.map fun x => [x])) (hu : Rd W 1 (.slice (some ⟨b9, o9 + j * 1, none⟩) 1 (c9 - j)) 1 (nums [p])) => has_any v (.slice (some ⟨b9, o9 + j * 1, none⟩) 1 (c9 - j)) (l.map fun x => [x]) [p] W hr hu (fun x hx c hc => by
            obtain ⟨y, hy, rfl⟩ := List.mem_map.1 hx
            obtain rfl := List.mem_singleton.1 hc
            exact SP.out _ hy))
          rw [HS.out p] at HAS
          obtain ⟨ia, hia⟩ : ∃ ia, inB A p = ia := ⟨_, rfl⟩
          obtain ⟨ic, hic⟩ : ∃ ic, inB C p = ic := ⟨_, rfl⟩
          rw [hia, hic] at HAS
          rw [hia] at IA
          rw [hic] at IC
          clear hia hic
          have hno : ∀ (v : Bool) (W : World), (Op.unary .not (.bool v)).run Tryd.prog W = .ok (.bool (!v)) W := fun _ _ => rfl
          have hl3 : l.length ≤ 100000 := by omega
          obtain ⟨X, rfl⟩ : ∃ X : World, X = wr := ⟨_, rfl⟩
          cases ia
          · go_upto_region 15 with fail
            refine Rv.region_goods (n := 112) (by kernel_rfl) #[60, 61, 62, 63, 64, 65, 66, 67, 68, 69, 70, 71, 72, 73, 74, 75, 76, 77, 78, 79, 80, 81, 82, 83] #[none, none, none, none, none, none, none, none, none, none, none, none, none, none, some false] (fun i v W => if i = 1 then (fun v W => RL W v (l.map fun x => [x])) v W else v = (#[.slice A7 l.length c7, undef, .slice (some ⟨b9, o9, none⟩) r.length c9, .int .i64 (j : Int), .int .i64 (j : Int), .int .i64 ((j : Int) + 1), .slice (some ⟨b9, o9 + j * 1, none⟩) 1 (c9 - j), .bool false, A.v, .slice (some ⟨b9, o9, none⟩) r.length c9, .int .i64 (j : Int), .pointer (some ⟨b9, o9 + j, none⟩), .int .i64 p, .bool false, .bool false, undef, undef, undef, undef, undef, undef, undef, Go.Value.bool false, .bool false] : Array Value).getD i undef) (fun i v w w' h hb => ?_) (fun i h g b hg => ?_) rfl (by kernel_rfl) (by kernel_rfl) (fun i h hr w => ?_) ?_ ?_
            · by_cases hi61 : i = 1
              · subst hi61
                rw [if_pos rfl] at h ⊢
                exact (fun v w w' h hb => RL.below h hb) v w w' h hb
              rw [if_neg hi61] at h ⊢
              exact h
            · match i, h, hg with
              | 0, _, hg => cases hg
              | 1, _, hg => cases hg
              | 2, _, hg => cases hg
              | 3, _, hg => cases hg
              | 4, _, hg => cases hg
              | 5, _, hg => cases hg
              | 6, _, hg => cases hg
              | 7, _, hg => cases hg
              | 8, _, hg => cases hg
              | 9, _, hg => cases hg
              | 10, _, hg => cases hg
              | 11, _, hg => cases hg
              | 12, _, hg => cases hg
              | 13, _, hg => cases hg
              | 14, _, hg => cases hg
              | 15, _, hg => (cases hg; exact fun v w e => e)
              | 16, _, hg => (cases hg; exact fun v w e => e)
              | 17, _, hg => (cases hg; exact fun v w e => e)
              | 18, _, hg => (cases hg; exact fun v w e => e)
              | 19, _, hg => (cases hg; exact fun v w e => e)
              | 20, _, hg => (cases hg; exact fun v w e => e)
              | 21, _, hg => (cases hg; exact fun v w e => e)
              | 22, _, hg => cases hg
              | 23, _, hg => cases hg
              | m + 24, h, _ => exact absurd h (by show ¬ m + 24 < 24; omega)
            · match i, h, hr with
              | 0, _, hr => exact Bool.noConfusion (show true = false from hr)
              | 1, _, hr => exact Bool.noConfusion (show true = false from hr)
              | 2, _, hr => exact Bool.noConfusion (show true = false from hr)
              | 3, _, hr => exact Bool.noConfusion (show true = false from hr)
              | 4, _, hr => exact Bool.noConfusion (show true = false from hr)
              | 5, _, hr => exact Bool.noConfusion (show true = false from hr)
              | 6, _, hr => exact Bool.noConfusion (show true = false from hr)
              | 7, _, hr => exact Bool.noConfusion (show true = false from hr)
              | 8, _, hr => exact Bool.noConfusion (show true = false from hr)
              | 9, _, hr => exact Bool.noConfusion (show true = false from hr)
              | 10, _, hr => exact Bool.noConfusion (show true = false from hr)
              | 11, _, hr => exact Bool.noConfusion (show true = false from hr)
              | 12, _, hr => exact Bool.noConfusion (show true = false from hr)
              | 13, _, hr => exact Bool.noConfusion (show true = false from hr)
              | 14, _, hr => exact Bool.noConfusion (show true = false from hr)
              | 15, _, hr => rfl
              | 16, _, hr => rfl
              | 17, _, hr => rfl
              | 18, _, hr => rfl
              | 19, _, hr => rfl
              | 20, _, hr => rfl
              | 21, _, hr => rfl
              | 22, _, hr => exact Bool.noConfusion (show true = false from hr)
              | 23, _, hr => exact Bool.noConfusion (show true = false from hr)
              | m + 24, h, _ => exact absurd h (by show ¬ m + 24 < 24; omega)
            · intro i h a W hrun hbase hpre hdep htr
              have MK := MM.out.keep htr
              obtain ⟨n0, n1, n2, n3, _⟩ := MK.get g5 A (.head _)
              obtain ⟨m0, m1, m2, m3, _⟩ := MK.get g6 C (.tail _ (.head _))
              have q0 := (htr.cell (p := ⟨b9, o9 + j, none⟩) hb9).trans f0
              match i, h with
              | 0, _ =>
                obtain ⟨e7, x7⟩ := Rv.ev (show a.tmps.getD 7 undef = .slice A7 l.length c7 from hbase 7 rfl)
                exact Rv.step_op (op := Go.Op.move (Go.Operand.tmp 7)) (v := .slice A7 l.length c7) (w1 := W) rfl rfl (fun d pos aft g => by unfold execOp; go_simp) ⟨_, rfl, rfl, Below.refl _ _⟩
              | 1, _ =>
                obtain ⟨e60, x60⟩ := Rv.ev (show a.tmps.getD 60 undef = .slice A7 l.length c7 from hdep 0 rfl)
                have cf : ∀ x0 W, (callFunc 25 #[x0]).run Tryd.prog W = .ok (.enter 25 #[x0]) W := fun _ _ => by kernel_rfl
                refine Rv.step_fn (op := Go.Op.call { callee := Go.Callee.value (Go.Operand.func 25), args := #[Go.Operand.tmp 60], argTypes := #[28] }) (ty := 46) (f := 25) (args := #[.slice A7 l.length c7]) (R := fun v W' => RL W' v (l.map fun x => [x]) ∧ Below W.heap.size W W') rfl rfl (fun d pos aft g => by unfold execOp; go_simp) ((lists_any _ l W (R7.out.below htr) hl3).mono ?_) ?_
                · (rintro e W' ⟨A', c', rfl, hr, hb⟩; exact ⟨_, rfl, hr, hb⟩)
                · (rintro v W' ⟨hv, hb⟩; exact ⟨_, rfl, hv, hb⟩)
              | 2, _ =>
                obtain ⟨e9, x9⟩ := Rv.ev (show a.tmps.getD 9 undef = .slice (some ⟨b9, o9, none⟩) r.length c9 from hbase 9 rfl)
                exact Rv.step_op (op := Go.Op.move (Go.Operand.tmp 9)) (v := .slice (some ⟨b9, o9, none⟩) r.length c9) (w1 := W) rfl rfl (fun d pos aft g => by unfold execOp; go_simp) ⟨_, rfl, rfl, Below.refl _ _⟩
              | 3, _ =>
                obtain ⟨e11, x11⟩ := Rv.ev (show a.tmps.getD 11 undef = .int .i64 (j : Int) from hbase 11 rfl)
                exact Rv.step_op (op := Go.Op.move (Go.Operand.tmp 11)) (v := .int .i64 (j : Int)) (w1 := W) rfl rfl (fun d pos aft g => by unfold execOp; go_simp) ⟨_, rfl, rfl, Below.refl _ _⟩
              | 4, _ =>
                obtain ⟨e11, x11⟩ := Rv.ev (show a.tmps.getD 11 undef = .int .i64 (j : Int) from hbase 11 rfl)
                exact Rv.step_op (op := Go.Op.move (Go.Operand.tmp 11)) (v := .int .i64 (j : Int)) (w1 := W) rfl rfl (fun d pos aft g => by unfold execOp; go_simp) ⟨_, rfl, rfl, Below.refl _ _⟩
              | 5, _ =>
                obtain ⟨e64, x64⟩ := Rv.ev (show a.tmps.getD 64 undef = .int .i64 (j : Int) from hdep 4 rfl)
                have hwr : IntKind.i64.wrap ((j : Int) + 1) = (j : Int) + 1 := IntWalk.i64_in _ (by omega)
                exact Rv.step_op (op := Go.Op.binOp Go.BinOp.add 3 (Go.Operand.tmp 64) (Go.Operand.const (Go.Value.int Go.IntKind.i64 1)) 3) (v := .int .i64 ((j : Int) + 1)) (w1 := W) rfl rfl (fun d pos aft g => by unfold execOp; go_simp) ⟨_, rfl, rfl, Below.refl _ _⟩
              | 6, _ =>
                obtain ⟨e62, x62⟩ := Rv.ev (show a.tmps.getD 62 undef = .slice (some ⟨b9, o9, none⟩) r.length c9 from hdep 2 rfl)
                obtain ⟨e63, x63⟩ := Rv.ev (show a.tmps.getD 63 undef = .int .i64 (j : Int) from hdep 3 rfl)
                obtain ⟨e65, x65⟩ := Rv.ev (show a.tmps.getD 65 undef = .int .i64 ((j : Int) + 1) from hdep 5 rfl)
                exact Rv.step_op (op := Go.Op.slice 42 (Go.Operand.tmp 62) (some (Go.Operand.tmp 63)) (some (Go.Operand.tmp 65)) none) (v := .slice (some ⟨b9, o9 + j * 1, none⟩) 1 (c9 - j)) (w1 := W) rfl rfl (fun d pos aft g => by unfold execOp; go_simp) ⟨_, rfl, rfl, Below.refl _ _⟩
              | 7, _ =>
                have r61 : RL W (a.tmps.getD 61 undef) (l.map fun x => [x]) := hdep 1 rfl
                obtain ⟨v61, q61⟩ : ∃ v, a.tmps.getD 61 undef = v := ⟨_, rfl⟩
                rw [q61] at r61
                obtain ⟨e61, y61⟩ := Rv.ev q61
                obtain ⟨e66, x66⟩ := Rv.ev (show a.tmps.getD 66 undef = .slice (some ⟨b9, o9 + j * 1, none⟩) 1 (c9 - j) from hdep 6 rfl)
                have cf : ∀ x0 x1 W, (callFunc 24 #[x0, x1]).run Tryd.prog W = .ok (.enter 24 #[x0, x1]) W := fun _ _ _ => by kernel_rfl
                refine Rv.step_fn (op := Go.Op.call { callee := Go.Callee.value (Go.Operand.func 24), args := #[Go.Operand.tmp 61, Go.Operand.tmp 66], argTypes := #[46, 42] }) (ty := 4) (f := 24) (args := #[v61, .slice (some ⟨b9, o9 + j * 1, none⟩) 1 (c9 - j)]) (R := fun v W' => v = .bool false ∧ Below W.heap.size W W') rfl rfl (fun d pos aft g => by unfold execOp; go_simp) ((HAS.out v61 W r61 (HP9.out.below htr)).mono ?_) ?_
                · (rintro e W' ⟨rfl, hb⟩; exact ⟨_, rfl, by simp, hb⟩)
                · (rintro v W' ⟨rfl, hb⟩; exact ⟨_, rfl, rfl, hb⟩)
              | 8, _ =>
                obtain ⟨e5, x5⟩ := Rv.ev (show a.tmps.getD 5 undef = .pointer (some ⟨g5, 0, none⟩) from hbase 5 rfl)
                exact Rv.step_op (op := Go.Op.load 27 (Go.Operand.tmp 5)) (v := A.v) (w1 := W) rfl rfl (fun d pos aft g => by unfold execOp; go_simp) ⟨_, rfl, rfl, Below.refl _ _⟩
              | 9, _ =>
                obtain ⟨e9, x9⟩ := Rv.ev (show a.tmps.getD 9 undef = .slice (some ⟨b9, o9, none⟩) r.length c9 from hbase 9 rfl)
                exact Rv.step_op (op := Go.Op.move (Go.Operand.tmp 9)) (v := .slice (some ⟨b9, o9, none⟩) r.length c9) (w1 := W) rfl rfl (fun d pos aft g => by unfold execOp; go_simp) ⟨_, rfl, rfl, Below.refl _ _⟩
              | 10, _ =>
                obtain ⟨e11, x11⟩ := Rv.ev (show a.tmps.getD 11 undef = .int .i64 (j : Int) from hbase 11 rfl)
                exact Rv.step_op (op := Go.Op.move (Go.Operand.tmp 11)) (v := .int .i64 (j : Int)) (w1 := W) rfl rfl (fun d pos aft g => by unfold execOp; go_simp) ⟨_, rfl, rfl, Below.refl _ _⟩
              | 11, _ =>
                obtain ⟨e69, x69⟩ := Rv.ev (show a.tmps.getD 69 undef = .slice (some ⟨b9, o9, none⟩) r.length c9 from hdep 9 rfl)
                obtain ⟨e70, x70⟩ := Rv.ev (show a.tmps.getD 70 undef = .int .i64 (j : Int) from hdep 10 rfl)
                exact Rv.step_op (op := Go.Op.indexAddr 42 (Go.Operand.tmp 69) (Go.Operand.tmp 70)) (v := .pointer (some ⟨b9, o9 + j, none⟩)) (w1 := W) rfl rfl (fun d pos aft g => by unfold execOp; go_simp) ⟨_, rfl, rfl, Below.refl _ _⟩
              | 12, _ =>
                obtain ⟨e71, x71⟩ := Rv.ev (show a.tmps.getD 71 undef = .pointer (some ⟨b9, o9 + j, none⟩) from hdep 11 rfl)
                exact Rv.step_op (op := Go.Op.load 3 (Go.Operand.tmp 71)) (v := .int .i64 p) (w1 := W) rfl rfl (fun d pos aft g => by unfold execOp; go_simp) ⟨_, rfl, rfl, Below.refl _ _⟩
              | 13, _ =>
                obtain ⟨e68, x68⟩ := Rv.ev (show a.tmps.getD 68 undef = A.v from hdep 8 rfl)
                obtain ⟨e72, x72⟩ := Rv.ev (show a.tmps.getD 72 undef = .int .i64 p from hdep 12 rfl)
                have cf : ∀ x0 x1 W, (callFunc 26 #[x0, x1]).run Tryd.prog W = .ok (.enter 26 #[x0, x1]) W := fun _ _ _ => by kernel_rfl
                refine Rv.step_fn (op := Go.Op.call { callee := Go.Callee.value (Go.Operand.func 26), args := #[Go.Operand.tmp 68, Go.Operand.tmp 72], argTypes := #[27, 3] }) (f := 26) (args := #[A.v, .int .i64 p]) (R := fun v W' => v = .bool false ∧ Below W.heap.size W W') rfl rfl (fun d pos aft g => by unfold execOp; go_simp) ((IA.out W).mono ?_) ?_
                · (rintro e W' ⟨rfl, hb⟩; exact ⟨_, rfl, rfl, hb⟩)
                · (rintro v W' ⟨rfl, hb⟩; exact ⟨_, rfl, rfl, hb⟩)
              | 14, _ =>
                obtain ⟨e73, x73⟩ := Rv.ev (show a.tmps.getD 73 undef = .bool false from hdep 13 rfl)
                exact Rv.step_op (op := Go.Op.move (Go.Operand.tmp 73)) (v := .bool false) (w1 := W) rfl rfl (fun d pos aft g => by unfold execOp; go_simp) ⟨_, rfl, rfl, Below.refl _ _⟩
              | 15, _ => exact Bool.noConfusion (show false = true from hrun)
              | 16, _ => exact Bool.noConfusion (show false = true from hrun)
              | 17, _ => exact Bool.noConfusion (show false = true from hrun)
              | 18, _ => exact Bool.noConfusion (show false = true from hrun)
              | 19, _ => exact Bool.noConfusion (show false = true from hrun)
              | 20, _ => exact Bool.noConfusion (show false = true from hrun)
              | 21, _ => exact Bool.noConfusion (show false = true from hrun)
              | 22, _ =>
                obtain ⟨e74, x74⟩ := Rv.ev (show a.tmps.getD 74 undef = .bool false from hdep 14 rfl)
                obtain ⟨e81, x81⟩ := Rv.ev (show a.tmps.getD 81 undef = undef from hdep 21 rfl)
                exact Rv.step_op (op := Go.Op.pick (Go.Operand.tmp 74) (Go.Operand.tmp 81) (Go.Operand.const (Go.Value.bool false))) (v := Go.Value.bool false) (w1 := W) rfl rfl (fun d pos aft g => by unfold execOp; go_simp) ⟨_, rfl, rfl, Below.refl _ _⟩
              | 23, _ =>
                obtain ⟨e67, x67⟩ := Rv.ev (show a.tmps.getD 67 undef = .bool false from hdep 7 rfl)
                obtain ⟨e82, x82⟩ := Rv.ev (show a.tmps.getD 82 undef = Go.Value.bool false from hdep 22 rfl)
                exact Rv.step_op (op := Go.Op.binOp Go.BinOp.neq 4 (Go.Operand.tmp 67) (Go.Operand.tmp 82) 4) (v := .bool false) (w1 := W) rfl rfl (fun d pos aft g => by unfold execOp; go_simp) ⟨_, rfl, rfl, Below.refl _ _⟩
              | m + 24, h => exact absurd h (by show ¬ m + 24 < 24; omega)
            intro W f hf htr
            have f0 : f 0 = .slice A7 l.length c7 := hf 0 (by show 0 < 24; omega)
            have f1 := hf 1 (by show 1 < 24; omega)
            have f2 : f 2 = .slice (some ⟨b9, o9, none⟩) r.length c9 := hf 2 (by show 2 < 24; omega)
            have f3 : f 3 = .int .i64 (j : Int) := hf 3 (by show 3 < 24; omega)
            have f4 : f 4 = .int .i64 (j : Int) := hf 4 (by show 4 < 24; omega)
            have f5 : f 5 = .int .i64 ((j : Int) + 1) := hf 5 (by show 5 < 24; omega)
            have f6 : f 6 = .slice (some ⟨b9, o9 + j * 1, none⟩) 1 (c9 - j) := hf 6 (by show 6 < 24; omega)
            have f7 : f 7 = .bool false := hf 7 (by show 7 < 24; omega)
            have f8 : f 8 = A.v := hf 8 (by show 8 < 24; omega)
            have f9 : f 9 = .slice (some ⟨b9, o9, none⟩) r.length c9 := hf 9 (by show 9 < 24; omega)
            have f10 : f 10 = .int .i64 (j : Int) := hf 10 (by show 10 < 24; omega)
            have f11 : f 11 = .pointer (some ⟨b9, o9 + j, none⟩) := hf 11 (by show 11 < 24; omega)
            have f12 : f 12 = .int .i64 p := hf 12 (by show 12 < 24; omega)
            have f13 : f 13 = .bool false := hf 13 (by show 13 < 24; omega)
            have f14 : f 14 = .bool false := hf 14 (by show 14 < 24; omega)
            have f15 : f 15 = undef := hf 15 (by show 15 < 24; omega)
            have f16 : f 16 = undef := hf 16 (by show 16 < 24; omega)
            have f17 : f 17 = undef := hf 17 (by show 17 < 24; omega)
            have f18 : f 18 = undef := hf 18 (by show 18 < 24; omega)
            have f19 : f 19 = undef := hf 19 (by show 19 < 24; omega)
            have f20 : f 20 = undef := hf 20 (by show 20 < 24; omega)
            have f21 : f 21 = undef := hf 21 (by show 21 < 24; omega)
            have f22 : f 22 = Go.Value.bool false := hf 22 (by show 22 < 24; omega)
            have f23 : f 23 = .bool false := hf 23 (by show 23 < 24; omega)
            refine (show ∀ (a : Act) (w : World), Code.wp _ _ _ a w → _ from by assumption) _ _ ?_
            refine Rv.fin_swap (L' := [(60, f 0), (61, f 1), (62, f 2), (63, f 3), (64, f 4), (65, f 5), (66, f 6), (67, f 7), (68, f 8), (69, f 9), (70, f 10), (71, f 11), (72, f 12), (73, f 13), (74, f 14), (75, f 15), (76, f 16), (77, f 17), (78, f 18), (79, f 19), (80, f 20), (81, f 21), (82, f 22), (83, f 23)]) rfl ?_
            rw [f0, f2, f3, f4, f5, f6, f7, f8, f9, f10, f11, f12, f13, f14, f15, f16, f17, f18, f19, f20, f21, f22, f23]
            clear f0 f2 f3 f4 f5 f6 f7 f8 f9 f10 f11 f12 f13 f14 f15 f16 f17 f18 f19 f20 f21 f22 f23
            simp only [Rv.fin, List.foldl_cons, List.foldl_nil, Act.put, List.setIfInBounds_toArray, List.set_cons_succ, List.set_cons_zero]
            clear f1
            generalize f 1 = v61 at *
            have R9W := Lib.hid (R9.out.below htr)
            have MMW := Lib.hid (MM.out.keep htr)
            have R7W := Lib.hid (R7.out.below htr)
            go_wp2
            go_roundw
            case rel => exact ⟨j + 1, by go_num, by omega, R9W, MMW, R7W⟩
            case measure => simp [intOf]; omega
          · go_upto_region 15 with fail
            refine Rv.region_goods (n := 112) (by kernel_rfl) #[60, 61, 62, 63, 64, 65, 66, 67, 68, 69, 70, 71, 72, 73, 74, 75, 76, 77, 78, 79, 80, 81, 82, 83] #[none, none, none, none, none, none, none, none, none, none, none, none, none, none, some true] (fun i v W => if i = 1 then (fun v W => RL W v (l.map fun x => [x])) v W else v = (#[.slice A7 l.length c7, undef, .slice (some ⟨b9, o9, none⟩) r.length c9, .int .i64 (j : Int), .int .i64 (j : Int), .int .i64 ((j : Int) + 1), .slice (some ⟨b9, o9 + j * 1, none⟩) 1 (c9 - j), .bool (!ic), A.v, .slice (some ⟨b9, o9, none⟩) r.length c9, .int .i64 (j : Int), .pointer (some ⟨b9, o9 + j, none⟩), .int .i64 p, .bool true, .bool true, C.v, .slice (some ⟨b9, o9, none⟩) r.length c9, .int .i64 (j : Int), .pointer (some ⟨b9, o9 + j, none⟩), .int .i64 p, .bool ic, .bool (!ic), .bool (!ic), .bool false] : Array Value).getD i undef) (fun i v w w' h hb => ?_) (fun i h g b hg => ?_) rfl (by kernel_rfl) (by kernel_rfl) (fun i h hr w => ?_) ?_ ?_
            · by_cases hi61 : i = 1
              · subst hi61
                rw [if_pos rfl] at h ⊢
                exact (fun v w w' h hb => RL.below h hb) v w w' h hb
              rw [if_neg hi61] at h ⊢
              exact h
            · match i, h, hg with
              | 0, _, hg => cases hg
              | 1, _, hg => cases hg
              | 2, _, hg => cases hg
              | 3, _, hg => cases hg
              | 4, _, hg => cases hg
              | 5, _, hg => cases hg
              | 6, _, hg => cases hg
              | 7, _, hg => cases hg
              | 8, _, hg => cases hg
              | 9, _, hg => cases hg
              | 10, _, hg => cases hg
              | 11, _, hg => cases hg
              | 12, _, hg => cases hg
              | 13, _, hg => cases hg
              | 14, _, hg => cases hg
              | 15, _, hg => (cases hg; exact fun v w e => e)
              | 16, _, hg => (cases hg; exact fun v w e => e)
              | 17, _, hg => (cases hg; exact fun v w e => e)
              | 18, _, hg => (cases hg; exact fun v w e => e)
              | 19, _, hg => (cases hg; exact fun v w e => e)
              | 20, _, hg => (cases hg; exact fun v w e => e)
              | 21, _, hg => (cases hg; exact fun v w e => e)
              | 22, _, hg => cases hg
              | 23, _, hg => cases hg
              | m + 24, h, _ => exact absurd h (by show ¬ m + 24 < 24; omega)
            · match i, h, hr with
              | 0, _, hr => exact Bool.noConfusion (show true = false from hr)
              | 1, _, hr => exact Bool.noConfusion (show true = false from hr)
              | 2, _, hr => exact Bool.noConfusion (show true = false from hr)
              | 3, _, hr => exact Bool.noConfusion (show true = false from hr)
              | 4, _, hr => exact Bool.noConfusion (show true = false from hr)
              | 5, _, hr => exact Bool.noConfusion (show true = false from hr)
              | 6, _, hr => exact Bool.noConfusion (show true = false from hr)
              | 7, _, hr => exact Bool.noConfusion (show true = false from hr)
              | 8, _, hr => exact Bool.noConfusion (show true = false from hr)
              | 9, _, hr => exact Bool.noConfusion (show true = false from hr)
              | 10, _, hr => exact Bool.noConfusion (show true = false from hr)
              | 11, _, hr => exact Bool.noConfusion (show true = false from hr)
              | 12, _, hr => exact Bool.noConfusion (show true = false from hr)
              | 13, _, hr => exact Bool.noConfusion (show true = false from hr)
              | 14, _, hr => exact Bool.noConfusion (show true = false from hr)
              | 15, _, hr => exact Bool.noConfusion (show true = false from hr)
              | 16, _, hr => exact Bool.noConfusion (show true = false from hr)
              | 17, _, hr => exact Bool.noConfusion (show true = false from hr)
              | 18, _, hr => exact Bool.noConfusion (show true = false from hr)
              | 19, _, hr => exact Bool.noConfusion (show true = false from hr)
              | 20, _, hr => exact Bool.noConfusion (show true = false from hr)
              | 21, _, hr => exact Bool.noConfusion (show true = false from hr)
              | 22, _, hr => exact Bool.noConfusion (show true = false from hr)
              | 23, _, hr => exact Bool.noConfusion (show true = false from hr)
              | m + 24, h, _ => exact absurd h (by show ¬ m + 24 < 24; omega)
            · intro i h a W hrun hbase hpre hdep htr
              have MK := MM.out.keep htr
              obtain ⟨n0, n1, n2, n3, _⟩ := MK.get g5 A (.head _)
              obtain ⟨m0, m1, m2, m3, _⟩ := MK.get g6 C (.tail _ (.head _))
              have q0 := (htr.cell (p := ⟨b9, o9 + j, none⟩) hb9).trans f0
              match i, h with
              | 0, _ =>
                obtain ⟨e7, x7⟩ := Rv.ev (show a.tmps.getD 7 undef = .slice A7 l.length c7 from hbase 7 rfl)
                exact Rv.step_op (op := Go.Op.move (Go.Operand.tmp 7)) (v := .slice A7 l.length c7) (w1 := W) rfl rfl (fun d pos aft g => by unfold execOp; go_simp) ⟨_, rfl, rfl, Below.refl _ _⟩
              | 1, _ =>
                obtain ⟨e60, x60⟩ := Rv.ev (show a.tmps.getD 60 undef = .slice A7 l.length c7 from hdep 0 rfl)
                have cf : ∀ x0 W, (callFunc 25 #[x0]).run Tryd.prog W = .ok (.enter 25 #[x0]) W := fun _ _ => by kernel_rfl
                refine Rv.step_fn (op := Go.Op.call { callee := Go.Callee.value (Go.Operand.func 25), args := #[Go.Operand.tmp 60], argTypes := #[28] }) (ty := 46) (f := 25) (args := #[.slice A7 l.length c7]) (R := fun v W' => RL W' v (l.map fun x => [x]) ∧ Below W.heap.size W W') rfl rfl (fun d pos aft g => by unfold execOp; go_simp) ((lists_any _ l W (R7.out.below htr) hl3).mono ?_) ?_
                · (rintro e W' ⟨A', c', rfl, hr, hb⟩; exact ⟨_, rfl, hr, hb⟩)
                · (rintro v W' ⟨hv, hb⟩; exact ⟨_, rfl, hv, hb⟩)
              | 2, _ =>
                obtain ⟨e9, x9⟩ := Rv.ev (show a.tmps.getD 9 undef = .slice (some ⟨b9, o9, none⟩) r.length c9 from hbase 9 rfl)
                exact Rv.step_op (op := Go.Op.move (Go.Operand.tmp 9)) (v := .slice (some ⟨b9, o9, none⟩) r.length c9) (w1 := W) rfl rfl (fun d pos aft g => by unfold execOp; go_simp) ⟨_, rfl, rfl, Below.refl _ _⟩
              | 3, _ =>
                obtain ⟨e11, x11⟩ := Rv.ev (show a.tmps.getD 11 undef = .int .i64 (j : Int) from hbase 11 rfl)
                exact Rv.step_op (op := Go.Op.move (Go.Operand.tmp 11)) (v := .int .i64 (j : Int)) (w1 := W) rfl rfl (fun d pos aft g => by unfold execOp; go_simp) ⟨_, rfl, rfl, Below.refl _ _⟩
              | 4, _ =>
                obtain ⟨e11, x11⟩ := Rv.ev (show a.tmps.getD 11 undef = .int .i64 (j : Int) from hbase 11 rfl)
                exact Rv.step_op (op := Go.Op.move (Go.Operand.tmp 11)) (v := .int .i64 (j : Int)) (w1 := W) rfl rfl (fun d pos aft g => by unfold execOp; go_simp) ⟨_, rfl, rfl, Below.refl _ _⟩
              | 5, _ =>
                obtain ⟨e64, x64⟩ := Rv.ev (show a.tmps.getD 64 undef = .int .i64 (j : Int) from hdep 4 rfl)
                have hwr : IntKind.i64.wrap ((j : Int) + 1) = (j : Int) + 1 := IntWalk.i64_in _ (by omega)
                exact Rv.step_op (op := Go.Op.binOp Go.BinOp.add 3 (Go.Operand.tmp 64) (Go.Operand.const (Go.Value.int Go.IntKind.i64 1)) 3) (v := .int .i64 ((j : Int) + 1)) (w1 := W) rfl rfl (fun d pos aft g => by unfold execOp; go_simp) ⟨_, rfl, rfl, Below.refl _ _⟩
              | 6, _ =>
                obtain ⟨e62, x62⟩ := Rv.ev (show a.tmps.getD 62 undef = .slice (some ⟨b9, o9, none⟩) r.length c9 from hdep 2 rfl)
                obtain ⟨e63, x63⟩ := Rv.ev (show a.tmps.getD 63 undef = .int .i64 (j : Int) from hdep 3 rfl)
                obtain ⟨e65, x65⟩ := Rv.ev (show a.tmps.getD 65 undef = .int .i64 ((j : Int) + 1) from hdep 5 rfl)
                exact Rv.step_op (op := Go.Op.slice 42 (Go.Operand.tmp 62) (some (Go.Operand.tmp 63)) (some (Go.Operand.tmp 65)) none) (v := .slice (some ⟨b9, o9 + j * 1, none⟩) 1 (c9 - j)) (w1 := W) rfl rfl (fun d pos aft g => by unfold execOp; go_simp) ⟨_, rfl, rfl, Below.refl _ _⟩
              | 7, _ =>
                have r61 : RL W (a.tmps.getD 61 undef) (l.map fun x => [x]) := hdep 1 rfl
                obtain ⟨v61, q61⟩ : ∃ v, a.tmps.getD 61 undef = v := ⟨_, rfl⟩
                rw [q61] at r61
                obtain ⟨e61, y61⟩ := Rv.ev q61
                obtain ⟨e66, x66⟩ := Rv.ev (show a.tmps.getD 66 undef = .slice (some ⟨b9, o9 + j * 1, none⟩) 1 (c9 - j) from hdep 6 rfl)
                have cf : ∀ x0 x1 W, (callFunc 24 #[x0, x1]).run Tryd.prog W = .ok (.enter 24 #[x0, x1]) W := fun _ _ _ => by kernel_rfl
                refine Rv.step_fn (op := Go.Op.call { callee := Go.Callee.value (Go.Operand.func 24), args := #[Go.Operand.tmp 61, Go.Operand.tmp 66], argTypes := #[46, 42] }) (ty := 4) (f := 24) (args := #[v61, .slice (some ⟨b9, o9 + j * 1, none⟩) 1 (c9 - j)]) (R := fun v W' => v = .bool (!ic) ∧ Below W.heap.size W W') rfl rfl (fun d pos aft g => by unfold execOp; go_simp) ((HAS.out v61 W r61 (HP9.out.below htr)).mono ?_) ?_
                · (rintro e W' ⟨rfl, hb⟩; exact ⟨_, rfl, by simp, hb⟩)
                · (rintro v W' ⟨rfl, hb⟩; exact ⟨_, rfl, rfl, hb⟩)
              | 8, _ =>
                obtain ⟨e5, x5⟩ := Rv.ev (show a.tmps.getD 5 undef = .pointer (some ⟨g5, 0, none⟩) from hbase 5 rfl)
                exact Rv.step_op (op := Go.Op.load 27 (Go.Operand.tmp 5)) (v := A.v) (w1 := W) rfl rfl (fun d pos aft g => by unfold execOp; go_simp) ⟨_, rfl, rfl, Below.refl _ _⟩
              | 9, _ =>
                obtain ⟨e9, x9⟩ := Rv.ev (show a.tmps.getD 9 undef = .slice (some ⟨b9, o9, none⟩) r.length c9 from hbase 9 rfl)
                exact Rv.step_op (op := Go.Op.move (Go.Operand.tmp 9)) (v := .slice (some ⟨b9, o9, none⟩) r.length c9) (w1 := W) rfl rfl (fun d pos aft g => by unfold execOp; go_simp) ⟨_, rfl, rfl, Below.refl _ _⟩
              | 10, _ =>
                obtain ⟨e11, x11⟩ := Rv.ev (show a.tmps.getD 11 undef = .int .i64 (j : Int) from hbase 11 rfl)
                exact Rv.step_op (op := Go.Op.move (Go.Operand.tmp 11)) (v := .int .i64 (j : Int)) (w1 := W) rfl rfl (fun d pos aft g => by unfold execOp; go_simp) ⟨_, rfl, rfl, Below.refl _ _⟩
              | 11, _ =>
                obtain ⟨e69, x69⟩ := Rv.ev (show a.tmps.getD 69 undef = .slice (some ⟨b9, o9, none⟩) r.length c9 from hdep 9 rfl)
                obtain ⟨e70, x70⟩ := Rv.ev (show a.tmps.getD 70 undef = .int .i64 (j : Int) from hdep 10 rfl)
                exact Rv.step_op (op := Go.Op.indexAddr 42 (Go.Operand.tmp 69) (Go.Operand.tmp 70)) (v := .pointer (some ⟨b9, o9 + j, none⟩)) (w1 := W) rfl rfl (fun d pos aft g => by unfold execOp; go_simp) ⟨_, rfl, rfl, Below.refl _ _⟩
              | 12, _ =>
                obtain ⟨e71, x71⟩ := Rv.ev (show a.tmps.getD 71 undef = .pointer (some ⟨b9, o9 + j, none⟩) from hdep 11 rfl)
                exact Rv.step_op (op := Go.Op.load 3 (Go.Operand.tmp 71)) (v := .int .i64 p) (w1 := W) rfl rfl (fun d pos aft g => by unfold execOp; go_simp) ⟨_, rfl, rfl, Below.refl _ _⟩
              | 13, _ =>
                obtain ⟨e68, x68⟩ := Rv.ev (show a.tmps.getD 68 undef = A.v from hdep 8 rfl)
                obtain ⟨e72, x72⟩ := Rv.ev (show a.tmps.getD 72 undef = .int .i64 p from hdep 12 rfl)
                have cf : ∀ x0 x1 W, (callFunc 26 #[x0, x1]).run Tryd.prog W = .ok (.enter 26 #[x0, x1]) W := fun _ _ _ => by kernel_rfl
                refine Rv.step_fn (op := Go.Op.call { callee := Go.Callee.value (Go.Operand.func 26), args := #[Go.Operand.tmp 68, Go.Operand.tmp 72], argTypes := #[27, 3] }) (f := 26) (args := #[A.v, .int .i64 p]) (R := fun v W' => v = .bool true ∧ Below W.heap.size W W') rfl rfl (fun d pos aft g => by unfold execOp; go_simp) ((IA.out W).mono ?_) ?_
                · (rintro e W' ⟨rfl, hb⟩; exact ⟨_, rfl, rfl, hb⟩)
                · (rintro v W' ⟨rfl, hb⟩; exact ⟨_, rfl, rfl, hb⟩)
              | 14, _ =>
                obtain ⟨e73, x73⟩ := Rv.ev (show a.tmps.getD 73 undef = .bool true from hdep 13 rfl)
                exact Rv.step_op (op := Go.Op.move (Go.Operand.tmp 73)) (v := .bool true) (w1 := W) rfl rfl (fun d pos aft g => by unfold execOp; go_simp) ⟨_, rfl, rfl, Below.refl _ _⟩
              | 15, _ =>
                obtain ⟨e6, x6⟩ := Rv.ev (show a.tmps.getD 6 undef = .pointer (some ⟨g6, 0, none⟩) from hbase 6 rfl)
                exact Rv.step_op (op := Go.Op.load 27 (Go.Operand.tmp 6)) (v := C.v) (w1 := W) rfl rfl (fun d pos aft g => by unfold execOp; go_simp) ⟨_, rfl, rfl, Below.refl _ _⟩
              | 16, _ =>
                obtain ⟨e9, x9⟩ := Rv.ev (show a.tmps.getD 9 undef = .slice (some ⟨b9, o9, none⟩) r.length c9 from hbase 9 rfl)
                exact Rv.step_op (op := Go.Op.move (Go.Operand.tmp 9)) (v := .slice (some ⟨b9, o9, none⟩) r.length c9) (w1 := W) rfl rfl (fun d pos aft g => by unfold execOp; go_simp) ⟨_, rfl, rfl, Below.refl _ _⟩
              | 17, _ =>
                obtain ⟨e11, x11⟩ := Rv.ev (show a.tmps.getD 11 undef = .int .i64 (j : Int) from hbase 11 rfl)
                exact Rv.step_op (op := Go.Op.move (Go.Operand.tmp 11)) (v := .int .i64 (j : Int)) (w1 := W) rfl rfl (fun d pos aft g => by unfold execOp; go_simp) ⟨_, rfl, rfl, Below.refl _ _⟩
              | 18, _ =>
                obtain ⟨e76, x76⟩ := Rv.ev (show a.tmps.getD 76 undef = .slice (some ⟨b9, o9, none⟩) r.length c9 from hdep 16 rfl)
                obtain ⟨e77, x77⟩ := Rv.ev (show a.tmps.getD 77 undef = .int .i64 (j : Int) from hdep 17 rfl)
                exact Rv.step_op (op := Go.Op.indexAddr 42 (Go.Operand.tmp 76) (Go.Operand.tmp 77)) (v := .pointer (some ⟨b9, o9 + j, none⟩)) (w1 := W) rfl rfl (fun d pos aft g => by unfold execOp; go_simp) ⟨_, rfl, rfl, Below.refl _ _⟩
              | 19, _ =>
                obtain ⟨e78, x78⟩ := Rv.ev (show a.tmps.getD 78 undef = .pointer (some ⟨b9, o9 + j, none⟩) from hdep 18 rfl)
                exact Rv.step_op (op := Go.Op.load 3 (Go.Operand.tmp 78)) (v := .int .i64 p) (w1 := W) rfl rfl (fun d pos aft g => by unfold execOp; go_simp) ⟨_, rfl, rfl, Below.refl _ _⟩
              | 20, _ =>
                obtain ⟨e75, x75⟩ := Rv.ev (show a.tmps.getD 75 undef = C.v from hdep 15 rfl)
                obtain ⟨e79, x79⟩ := Rv.ev (show a.tmps.getD 79 undef = .int .i64 p from hdep 19 rfl)
                have cf : ∀ x0 x1 W, (callFunc 26 #[x0, x1]).run Tryd.prog W = .ok (.enter 26 #[x0, x1]) W := fun _ _ _ => by kernel_rfl
                refine Rv.step_fn (op := Go.Op.call { callee := Go.Callee.value (Go.Operand.func 26), args := #[Go.Operand.tmp 75, Go.Operand.tmp 79], argTypes := #[27, 3] }) (f := 26) (args := #[C.v, .int .i64 p]) (R := fun v W' => v = .bool ic ∧ Below W.heap.size W W') rfl rfl (fun d pos aft g => by unfold execOp; go_simp) ((IC.out W).mono ?_) ?_
                · (rintro e W' ⟨rfl, hb⟩; exact ⟨_, rfl, rfl, hb⟩)
                · (rintro v W' ⟨rfl, hb⟩; exact ⟨_, rfl, rfl, hb⟩)
              | 21, _ =>
                obtain ⟨e80, x80⟩ := Rv.ev (show a.tmps.getD 80 undef = .bool ic from hdep 20 rfl)
                exact Rv.step_op (op := Go.Op.unOp Go.UnOp.not 4 (Go.Operand.tmp 80)) (v := .bool (!ic)) (w1 := W) rfl rfl (fun d pos aft g => by unfold execOp; go_simp) ⟨_, rfl, rfl, Below.refl _ _⟩
              | 22, _ =>
                obtain ⟨e74, x74⟩ := Rv.ev (show a.tmps.getD 74 undef = .bool true from hdep 14 rfl)
                obtain ⟨e81, x81⟩ := Rv.ev (show a.tmps.getD 81 undef = .bool (!ic) from hdep 21 rfl)
                exact Rv.step_op (op := Go.Op.pick (Go.Operand.tmp 74) (Go.Operand.tmp 81) (Go.Operand.const (Go.Value.bool false))) (v := .bool (!ic)) (w1 := W) rfl rfl (fun d pos aft g => by unfold execOp; go_simp) ⟨_, rfl, rfl, Below.refl _ _⟩
              | 23, _ =>
                obtain ⟨e67, x67⟩ := Rv.ev (show a.tmps.getD 67 undef = .bool (!ic) from hdep 7 rfl)
                obtain ⟨e82, x82⟩ := Rv.ev (show a.tmps.getD 82 undef = .bool (!ic) from hdep 22 rfl)
                exact Rv.step_op (op := Go.Op.binOp Go.BinOp.neq 4 (Go.Operand.tmp 67) (Go.Operand.tmp 82) 4) (v := .bool false) (w1 := W) rfl rfl (fun d pos aft g => by unfold execOp; go_simp) ⟨_, rfl, rfl, Below.refl _ _⟩
              | m + 24, h => exact absurd h (by show ¬ m + 24 < 24; omega)
            intro W f hf htr
            have f0 : f 0 = .slice A7 l.length c7 := hf 0 (by show 0 < 24; omega)
            have f1 := hf 1 (by show 1 < 24; omega)
            have f2 : f 2 = .slice (some ⟨b9, o9, none⟩) r.length c9 := hf 2 (by show 2 < 24; omega)
            have f3 : f 3 = .int .i64 (j : Int) := hf 3 (by show 3 < 24; omega)
            have f4 : f 4 = .int .i64 (j : Int) := hf 4 (by show 4 < 24; omega)
            have f5 : f 5 = .int .i64 ((j : Int) + 1) := hf 5 (by show 5 < 24; omega)
            have f6 : f 6 = .slice (some ⟨b9, o9 + j * 1, none⟩) 1 (c9 - j) := hf 6 (by show 6 < 24; omega)
            have f7 : f 7 = .bool (!ic) := hf 7 (by show 7 < 24; omega)
            have f8 : f 8 = A.v := hf 8 (by show 8 < 24; omega)
            have f9 : f 9 = .slice (some ⟨b9, o9, none⟩) r.length c9 := hf 9 (by show 9 < 24; omega)
            have f10 : f 10 = .int .i64 (j : Int) := hf 10 (by show 10 < 24; omega)
            have f11 : f 11 = .pointer (some ⟨b9, o9 + j, none⟩) := hf 11 (by show 11 < 24; omega)
            have f12 : f 12 = .int .i64 p := hf 12 (by show 12 < 24; omega)
            have f13 : f 13 = .bool true := hf 13 (by show 13 < 24; omega)
            have f14 : f 14 = .bool true := hf 14 (by show 14 < 24; omega)
            have f15 : f 15 = C.v := hf 15 (by show 15 < 24; omega)
            have f16 : f 16 = .slice (some ⟨b9, o9, none⟩) r.length c9 := hf 16 (by show 16 < 24; omega)
            have f17 : f 17 = .int .i64 (j : Int) := hf 17 (by show 17 < 24; omega)
            have f18 : f 18 = .pointer (some ⟨b9, o9 + j, none⟩) := hf 18 (by show 18 < 24; omega)
            have f19 : f 19 = .int .i64 p := hf 19 (by show 19 < 24; omega)
            have f20 : f 20 = .bool ic := hf 20 (by show 20 < 24; omega)
            have f21 : f 21 = .bool (!ic) := hf 21 (by show 21 < 24; omega)
            have f22 : f 22 = .bool (!ic) := hf 22 (by show 22 < 24; omega)
            have f23 : f 23 = .bool false := hf 23 (by show 23 < 24; omega)
            refine (show ∀ (a : Act) (w : World), Code.wp _ _ _ a w → _ from by assumption) _ _ ?_
            refine Rv.fin_swap (L' := [(60, f 0), (61, f 1), (62, f 2), (63, f 3), (64, f 4), (65, f 5), (66, f 6), (67, f 7), (68, f 8), (69, f 9), (70, f 10), (71, f 11), (72, f 12), (73, f 13), (74, f 14), (75, f 15), (76, f 16), (77, f 17), (78, f 18), (79, f 19), (80, f 20), (81, f 21), (82, f 22), (83, f 23)]) rfl ?_
            rw [f0, f2, f3, f4, f5, f6, f7, f8, f9, f10, f11, f12, f13, f14, f15, f16, f17, f18, f19, f20, f21, f22, f23]
            clear f0 f2 f3 f4 f5 f6 f7 f8 f9 f10 f11 f12 f13 f14 f15 f16 f17 f18 f19 f20 f21 f22 f23
            simp only [Rv.fin, List.foldl_cons, List.foldl_nil, Act.put, List.setIfInBounds_toArray, List.set_cons_succ, List.set_cons_zero]
            clear f1
            generalize f 1 = v61 at *
            have R9W := Lib.hid (R9.out.below htr)
            have MMW := Lib.hid (MM.out.keep htr)
            have R7W := Lib.hid (R7.out.below htr)
            go_wp2
            go_roundw
            case rel => exact ⟨j + 1, by go_num, by omega, R9W, MMW, R7W⟩
            case measure => simp [intOf]; omega
        · obtain rfl : j = r.length := by omega
          obtain ⟨a0, a1, a2, a3, a4⟩ := MM.out.get g5 A (.head _)
          have SO2 := Lib.hid (fun W => show Calls Tryd.prog 21 #[A.v, coV A.b A.y 4 0] W fun e w' => ∃ Q c, e = .returned (.tuple #[.slice Q 1 c, .bool true]) ∧ Rd w' 4 (.slice Q 1 c) 1 (clc [A]) ∧ Below W.heap.size W w' from SO.out W)
          clear SO R9 R7
          go_upto_region 18 with (go_at_call 21; (with_reducible refine (SO2.out _).mono ?_); rintro e W8 ⟨Q, c12, rfl, hr12, hb8⟩; have MM8 := Lib.hid (MM.out.keep hb8); have R12 := Lib.hid hr12; clear hr12 hb8 a0 a1 a2 a3 a4)
          obtain ⟨b12, o12, rfl, hb12, k0, k1, k2, k3⟩ := rd_cl R12.out 0 (by simp)
          simp only [Nat.zero_mul, Nat.add_zero, List.getElem_cons_zero] at k0 k1 k2 k3
          obtain ⟨X, rfl⟩ : ∃ X : World, X = W8 := ⟨_, rfl⟩
          obtain ⟨te, hte⟩ : ∃ te, (hiA == 10000) = te := ⟨_, rfl⟩
          have HTE := Lib.hid hte
          cases te
          ·
            refine Rv.region_goods (n := 112) (by kernel_rfl) #[93, 94, 95, 96, 97, 98, 99, 100, 101, 102, 103, 104, 105, 106, 107, 108, 109, 110, 111, 4] #[none, some true, none, none, none, none, some false, none, none, none, some true] (fun i v W => v = (#[.bool true, .bool true, .pointer (some ⟨g5, 2, none⟩), cuV A.b A.y, .int .i64 hiA, .bool false, .bool false, .slice (some ⟨b12, o12, none⟩) 1 c12, .int .i64 1, .bool true, .bool true, .slice (some ⟨b12, o12, none⟩) 1 c12, .pointer (some ⟨b12, o12, none⟩), A.v, A.v, .bool true, .bool true, .bool true, .bool true, .bool true] : Array Value).getD i undef) (fun i v w w' h hb => ?_) (fun i h g b hg => ?_) rfl (by kernel_rfl) (by kernel_rfl) (fun i h hr w => ?_) ?_ ?_
            · exact h
            · match i, h, hg with
              | 0, _, hg => cases hg
              | 1, _, hg => cases hg
              | 2, _, hg => (cases hg; exact fun v w e => e)
              | 3, _, hg => (cases hg; exact fun v w e => e)
              | 4, _, hg => (cases hg; exact fun v w e => e)
              | 5, _, hg => (cases hg; exact fun v w e => e)
              | 6, _, hg => (cases hg; exact fun v w e => e)
              | 7, _, hg => (cases hg; exact fun v w e => e)
              | 8, _, hg => (cases hg; exact fun v w e => e)
              | 9, _, hg => (cases hg; exact fun v w e => e)
              | 10, _, hg => (cases hg; exact fun v w e => e)
              | 11, _, hg => (cases hg; exact fun v w e => e)
              | 12, _, hg => (cases hg; exact fun v w e => e)
              | 13, _, hg => (cases hg; exact fun v w e => e)
              | 14, _, hg => (cases hg; exact fun v w e => e)
              | 15, _, hg => (cases hg; exact fun v w e => e)
              | 16, _, hg => (cases hg; exact fun v w e => e)
              | 17, _, hg => (cases hg; exact fun v w e => e)
              | 18, _, hg => cases hg
              | 19, _, hg => cases hg
              | m + 20, h, _ => exact absurd h (by show ¬ m + 20 < 20; omega)
            · match i, h, hr with
              | 0, _, hr => exact Bool.noConfusion (show true = false from hr)
              | 1, _, hr => exact Bool.noConfusion (show true = false from hr)
              | 2, _, hr => exact Bool.noConfusion (show true = false from hr)
              | 3, _, hr => exact Bool.noConfusion (show true = false from hr)
              | 4, _, hr => exact Bool.noConfusion (show true = false from hr)
              | 5, _, hr => exact Bool.noConfusion (show true = false from hr)
              | 6, _, hr => exact Bool.noConfusion (show true = false from hr)
              | 7, _, hr => exact Bool.noConfusion (show true = false from hr)
              | 8, _, hr => exact Bool.noConfusion (show true = false from hr)
              | 9, _, hr => exact Bool.noConfusion (show true = false from hr)
              | 10, _, hr => exact Bool.noConfusion (show true = false from hr)
              | 11, _, hr => exact Bool.noConfusion (show true = false from hr)
              | 12, _, hr => exact Bool.noConfusion (show true = false from hr)
              | 13, _, hr => exact Bool.noConfusion (show true = false from hr)
              | 14, _, hr => exact Bool.noConfusion (show true = false from hr)
              | 15, _, hr => exact Bool.noConfusion (show true = false from hr)
              | 16, _, hr => exact Bool.noConfusion (show true = false from hr)
              | 17, _, hr => exact Bool.noConfusion (show true = false from hr)
              | 18, _, hr => exact Bool.noConfusion (show true = false from hr)
              | 19, _, hr => exact Bool.noConfusion (show true = false from hr)
              | m + 20, h, _ => exact absurd h (by show ¬ m + 20 < 20; omega)
            · intro i h a W hrun hbase hpre hdep htr
              have MK := MM8.out.keep htr
              obtain ⟨n0, n1, n2, n3, _⟩ := MK.get g5 A (.head _)
              have q0 := (htr.cell (p := ⟨b12, o12, none⟩) hb12).trans k0
              have q1 := (htr.cell (p := ⟨b12, o12 + 1, none⟩) hb12).trans k1
              have q2 := (htr.cell (p := ⟨b12, o12 + 2, none⟩) hb12).trans k2
              have q3 := (htr.cell (p := ⟨b12, o12 + 3, none⟩) hb12).trans k3
              match i, h with
              | 0, _ =>
                obtain ⟨e13, x13⟩ := Rv.ev (show a.tmps.getD 13 undef = .bool true from hbase 13 rfl)
                exact Rv.step_op (op := Go.Op.move (Go.Operand.tmp 13)) (v := .bool true) (w1 := W) rfl rfl (fun d pos aft g => by unfold execOp; go_simp) ⟨_, rfl, rfl, Below.refl _ _⟩
              | 1, _ =>
                obtain ⟨e93, x93⟩ := Rv.ev (show a.tmps.getD 93 undef = .bool true from hdep 0 rfl)
                exact Rv.step_op (op := Go.Op.move (Go.Operand.tmp 93)) (v := .bool true) (w1 := W) rfl rfl (fun d pos aft g => by unfold execOp; go_simp) ⟨_, rfl, rfl, Below.refl _ _⟩
              | 2, _ =>
                obtain ⟨e5, x5⟩ := Rv.ev (show a.tmps.getD 5 undef = .pointer (some ⟨g5, 0, none⟩) from hbase 5 rfl)
                exact Rv.step_op (op := Go.Op.fieldAddr 27 (Go.Operand.tmp 5) 1) (v := .pointer (some ⟨g5, 2, none⟩)) (w1 := W) rfl rfl (fun d pos aft g => by unfold execOp; go_simp) ⟨_, rfl, rfl, Below.refl _ _⟩
              | 3, _ =>
                obtain ⟨e95, x95⟩ := Rv.ev (show a.tmps.getD 95 undef = .pointer (some ⟨g5, 2, none⟩) from hdep 2 rfl)
                exact Rv.step_op (op := Go.Op.load 24 (Go.Operand.tmp 95)) (v := cuV A.b A.y) (w1 := W) rfl rfl (fun d pos aft g => by unfold execOp; go_simp) ⟨_, rfl, rfl, Below.refl _ _⟩
              | 4, _ =>
                obtain ⟨e96, x96⟩ := Rv.ev (show a.tmps.getD 96 undef = cuV A.b A.y from hdep 3 rfl)
                have cf : ∀ x0 W, (callFunc 27 #[x0]).run Tryd.prog W = .ok (.enter 27 #[x0]) W := fun _ _ => by kernel_rfl
                refine Rv.step_fn (op := Go.Op.call { callee := Go.Callee.value (Go.Operand.func 27), args := #[Go.Operand.tmp 96], argTypes := #[24] }) (f := 27) (args := #[cuV A.b A.y]) (R := fun v W' => v = .int .i64 hiA ∧ Below W.heap.size W W') rfl rfl (fun d pos aft g => by unfold execOp; go_simp) ((PL.out W).mono ?_) ?_
                · (rintro e W' ⟨rfl, hb⟩; exact ⟨_, rfl, rfl, hb⟩)
                · (rintro v W' ⟨rfl, hb⟩; exact ⟨_, rfl, rfl, hb⟩)
              | 5, _ =>
                obtain ⟨e97, x97⟩ := Rv.ev (show a.tmps.getD 97 undef = .int .i64 hiA from hdep 4 rfl)
                exact Rv.step_op (op := Go.Op.binOp Go.BinOp.eql 3 (Go.Operand.tmp 97) (Go.Operand.const (Go.Value.int Go.IntKind.i64 10000)) 3) (v := .bool false) (w1 := W) rfl rfl (fun d pos aft g => by unfold execOp; go_simp) ⟨_, rfl, rfl, Below.refl _ _⟩
              | 6, _ =>
                obtain ⟨e98, x98⟩ := Rv.ev (show a.tmps.getD 98 undef = .bool false from hdep 5 rfl)
                exact Rv.step_op (op := Go.Op.move (Go.Operand.tmp 98)) (v := .bool false) (w1 := W) rfl rfl (fun d pos aft g => by unfold execOp; go_simp) ⟨_, rfl, rfl, Below.refl _ _⟩
              | 7, _ =>
                obtain ⟨e12, x12⟩ := Rv.ev (show a.tmps.getD 12 undef = .slice (some ⟨b12, o12, none⟩) 1 c12 from hbase 12 rfl)
                exact Rv.step_op (op := Go.Op.move (Go.Operand.tmp 12)) (v := .slice (some ⟨b12, o12, none⟩) 1 c12) (w1 := W) rfl rfl (fun d pos aft g => by unfold execOp; go_simp) ⟨_, rfl, rfl, Below.refl _ _⟩
              | 8, _ =>
                obtain ⟨e100, x100⟩ := Rv.ev (show a.tmps.getD 100 undef = .slice (some ⟨b12, o12, none⟩) 1 c12 from hdep 7 rfl)
                exact Rv.step_op (op := Go.Op.call { callee := Go.Callee.builtin Go.Builtin.len, args := #[Go.Operand.tmp 100], argTypes := #[28] }) (v := .int .i64 1) (w1 := W) rfl rfl (fun d pos aft g => by unfold execOp; go_simp) ⟨_, rfl, rfl, Below.refl _ _⟩
              | 9, _ =>
                obtain ⟨e101, x101⟩ := Rv.ev (show a.tmps.getD 101 undef = .int .i64 1 from hdep 8 rfl)
                exact Rv.step_op (op := Go.Op.binOp Go.BinOp.eql 3 (Go.Operand.tmp 101) (Go.Operand.const (Go.Value.int Go.IntKind.i64 1)) 3) (v := .bool true) (w1 := W) rfl rfl (fun d pos aft g => by unfold execOp; go_simp) ⟨_, rfl, rfl, Below.refl _ _⟩
              | 10, _ =>
                obtain ⟨e102, x102⟩ := Rv.ev (show a.tmps.getD 102 undef = .bool true from hdep 9 rfl)
                exact Rv.step_op (op := Go.Op.move (Go.Operand.tmp 102)) (v := .bool true) (w1 := W) rfl rfl (fun d pos aft g => by unfold execOp; go_simp) ⟨_, rfl, rfl, Below.refl _ _⟩
              | 11, _ =>
                obtain ⟨e12, x12⟩ := Rv.ev (show a.tmps.getD 12 undef = .slice (some ⟨b12, o12, none⟩) 1 c12 from hbase 12 rfl)
                exact Rv.step_op (op := Go.Op.move (Go.Operand.tmp 12)) (v := .slice (some ⟨b12, o12, none⟩) 1 c12) (w1 := W) rfl rfl (fun d pos aft g => by unfold execOp; go_simp) ⟨_, rfl, rfl, Below.refl _ _⟩
              | 12, _ =>
                obtain ⟨e104, x104⟩ := Rv.ev (show a.tmps.getD 104 undef = .slice (some ⟨b12, o12, none⟩) 1 c12 from hdep 11 rfl)
                exact Rv.step_op (op := Go.Op.indexAddr 28 (Go.Operand.tmp 104) (Go.Operand.const (Go.Value.int Go.IntKind.i64 0))) (v := .pointer (some ⟨b12, o12, none⟩)) (w1 := W) rfl rfl (fun d pos aft g => by unfold execOp; go_simp) ⟨_, rfl, rfl, Below.refl _ _⟩
              | 13, _ =>
                obtain ⟨e105, x105⟩ := Rv.ev (show a.tmps.getD 105 undef = .pointer (some ⟨b12, o12, none⟩) from hdep 12 rfl)
                exact Rv.step_op (op := Go.Op.load 27 (Go.Operand.tmp 105)) (v := A.v) (w1 := W) rfl rfl (fun d pos aft g => by unfold execOp; go_simp) ⟨_, rfl, rfl, Below.refl _ _⟩
              | 14, _ =>
                obtain ⟨e5, x5⟩ := Rv.ev (show a.tmps.getD 5 undef = .pointer (some ⟨g5, 0, none⟩) from hbase 5 rfl)
                exact Rv.step_op (op := Go.Op.load 27 (Go.Operand.tmp 5)) (v := A.v) (w1 := W) rfl rfl (fun d pos aft g => by unfold execOp; go_simp) ⟨_, rfl, rfl, Below.refl _ _⟩
              | 15, _ =>
                obtain ⟨e106, x106⟩ := Rv.ev (show a.tmps.getD 106 undef = A.v from hdep 13 rfl)
                obtain ⟨e107, x107⟩ := Rv.ev (show a.tmps.getD 107 undef = A.v from hdep 14 rfl)
                have cf : ∀ x0 x1 W, (callFunc 15 #[x0, x1]).run Tryd.prog W = .ok (.enter 15 #[x0, x1]) W := fun _ _ _ => by kernel_rfl
                refine Rv.step_fn (op := Go.Op.call { callee := Go.Callee.value (Go.Operand.func 15), args := #[Go.Operand.tmp 106, Go.Operand.tmp 107], argTypes := #[27, 27] }) (f := 15) (args := #[A.v, A.v]) (R := fun v W' => v = .bool true ∧ Below W.heap.size W W') rfl rfl (fun d pos aft g => by unfold execOp; go_simp) ((SA.out W).mono ?_) ?_
                · (rintro e W' ⟨rfl, hb⟩; exact ⟨_, rfl, rfl, hb⟩)
                · (rintro v W' ⟨rfl, hb⟩; exact ⟨_, rfl, rfl, hb⟩)
              | 16, _ =>
                obtain ⟨e103, x103⟩ := Rv.ev (show a.tmps.getD 103 undef = .bool true from hdep 10 rfl)
                obtain ⟨e108, x108⟩ := Rv.ev (show a.tmps.getD 108 undef = .bool true from hdep 15 rfl)
                exact Rv.step_op (op := Go.Op.pick (Go.Operand.tmp 103) (Go.Operand.tmp 108) (Go.Operand.const (Go.Value.bool false))) (v := .bool true) (w1 := W) rfl rfl (fun d pos aft g => by unfold execOp; go_simp) ⟨_, rfl, rfl, Below.refl _ _⟩
              | 17, _ =>
                obtain ⟨e99, x99⟩ := Rv.ev (show a.tmps.getD 99 undef = .bool false from hdep 6 rfl)
                obtain ⟨e109, x109⟩ := Rv.ev (show a.tmps.getD 109 undef = .bool true from hdep 16 rfl)
                exact Rv.step_op (op := Go.Op.pick (Go.Operand.tmp 99) (Go.Operand.const (Go.Value.bool true)) (Go.Operand.tmp 109)) (v := .bool true) (w1 := W) rfl rfl (fun d pos aft g => by unfold execOp; go_simp) ⟨_, rfl, rfl, Below.refl _ _⟩
              | 18, _ =>
                obtain ⟨e94, x94⟩ := Rv.ev (show a.tmps.getD 94 undef = .bool true from hdep 1 rfl)
                obtain ⟨e110, x110⟩ := Rv.ev (show a.tmps.getD 110 undef = .bool true from hdep 17 rfl)
                exact Rv.step_op (op := Go.Op.pick (Go.Operand.tmp 94) (Go.Operand.tmp 110) (Go.Operand.const (Go.Value.bool false))) (v := .bool true) (w1 := W) rfl rfl (fun d pos aft g => by unfold execOp; go_simp) ⟨_, rfl, rfl, Below.refl _ _⟩
              | 19, _ =>
                obtain ⟨e111, x111⟩ := Rv.ev (show a.tmps.getD 111 undef = .bool true from hdep 18 rfl)
                exact Rv.step_op (op := Go.Op.assign (Go.Operand.tmp 111)) (v := .bool true) (w1 := W) rfl rfl (fun d pos aft g => by unfold execOp; go_simp) ⟨_, rfl, rfl, Below.refl _ _⟩
              | m + 20, h => exact absurd h (by show ¬ m + 20 < 20; omega)
            intro W f hf htr
            have f0 : f 0 = .bool true := hf 0 (by show 0 < 20; omega)
            have f1 : f 1 = .bool true := hf 1 (by show 1 < 20; omega)
            have f2 : f 2 = .pointer (some ⟨g5, 2, none⟩) := hf 2 (by show 2 < 20; omega)
            have f3 : f 3 = cuV A.b A.y := hf 3 (by show 3 < 20; omega)
            have f4 : f 4 = .int .i64 hiA := hf 4 (by show 4 < 20; omega)
            have f5 : f 5 = .bool false := hf 5 (by show 5 < 20; omega)
            have f6 : f 6 = .bool false := hf 6 (by show 6 < 20; omega)
            have f7 : f 7 = .slice (some ⟨b12, o12, none⟩) 1 c12 := hf 7 (by show 7 < 20; omega)
            have f8 : f 8 = .int .i64 1 := hf 8 (by show 8 < 20; omega)
            have f9 : f 9 = .bool true := hf 9 (by show 9 < 20; omega)
            have f10 : f 10 = .bool true := hf 10 (by show 10 < 20; omega)
            have f11 : f 11 = .slice (some ⟨b12, o12, none⟩) 1 c12 := hf 11 (by show 11 < 20; omega)
            have f12 : f 12 = .pointer (some ⟨b12, o12, none⟩) := hf 12 (by show 12 < 20; omega)
            have f13 : f 13 = A.v := hf 13 (by show 13 < 20; omega)
            have f14 : f 14 = A.v := hf 14 (by show 14 < 20; omega)
            have f15 : f 15 = .bool true := hf 15 (by show 15 < 20; omega)
            have f16 : f 16 = .bool true := hf 16 (by show 16 < 20; omega)
            have f17 : f 17 = .bool true := hf 17 (by show 17 < 20; omega)
            have f18 : f 18 = .bool true := hf 18 (by show 18 < 20; omega)
            have f19 : f 19 = .bool true := hf 19 (by show 19 < 20; omega)
            refine (show ∀ (a : Act) (w : World), Code.wp _ _ _ a w → _ from by assumption) _ _ ?_
            refine Rv.fin_swap (L' := [(93, f 0), (94, f 1), (95, f 2), (96, f 3), (97, f 4), (98, f 5), (99, f 6), (100, f 7), (101, f 8), (102, f 9), (103, f 10), (104, f 11), (105, f 12), (106, f 13), (107, f 14), (108, f 15), (109, f 16), (110, f 17), (111, f 18), (4, f 19)]) rfl ?_
            rw [f0, f1, f2, f3, f4, f5, f6, f7, f8, f9, f10, f11, f12, f13, f14, f15, f16, f17, f18, f19]
            clear f0 f1 f2 f3 f4 f5 f6 f7 f8 f9 f10 f11 f12 f13 f14 f15 f16 f17 f18 f19
            simp only [Rv.fin, List.foldl_cons, List.foldl_nil, Act.put, List.setIfInBounds_toArray, List.set_cons_succ, List.set_cons_zero]
            have MMW := Lib.hid (MM8.out.keep htr)
            go_wp2
            go_ret
            exact ⟨rfl, MMW.out.2.1⟩
          ·
            refine Rv.region_goods (n := 112) (by kernel_rfl) #[93, 94, 95, 96, 97, 98, 99, 100, 101, 102, 103, 104, 105, 106, 107, 108, 109, 110, 111, 4] #[none, some true, none, none, none, none, some true, none, none, none, none] (fun i v W => v = (#[.bool true, .bool true, .pointer (some ⟨g5, 2, none⟩), cuV A.b A.y, .int .i64 hiA, .bool true, .bool true, undef, undef, undef, undef, undef, undef, undef, undef, undef, undef, Go.Value.bool true, Go.Value.bool true, Go.Value.bool true] : Array Value).getD i undef) (fun i v w w' h hb => ?_) (fun i h g b hg => ?_) rfl (by kernel_rfl) (by kernel_rfl) (fun i h hr w => ?_) ?_ ?_
            · exact h
            · match i, h, hg with
              | 0, _, hg => cases hg
              | 1, _, hg => cases hg
              | 2, _, hg => (cases hg; exact fun v w e => e)
              | 3, _, hg => (cases hg; exact fun v w e => e)
              | 4, _, hg => (cases hg; exact fun v w e => e)
              | 5, _, hg => (cases hg; exact fun v w e => e)
              | 6, _, hg => (cases hg; exact fun v w e => e)
              | 7, _, hg => (cases hg; exact fun v w e => e)
              | 8, _, hg => (cases hg; exact fun v w e => e)
              | 9, _, hg => (cases hg; exact fun v w e => e)
              | 10, _, hg => (cases hg; exact fun v w e => e)
              | 11, _, hg => (cases hg; exact fun v w e => e)
              | 12, _, hg => (cases hg; exact fun v w e => e)
              | 13, _, hg => (cases hg; exact fun v w e => e)
              | 14, _, hg => (cases hg; exact fun v w e => e)
              | 15, _, hg => (cases hg; exact fun v w e => e)
              | 16, _, hg => (cases hg; exact fun v w e => e)
              | 17, _, hg => (cases hg; exact fun v w e => e)
              | 18, _, hg => cases hg
              | 19, _, hg => cases hg
              | m + 20, h, _ => exact absurd h (by show ¬ m + 20 < 20; omega)
            · match i, h, hr with
              | 0, _, hr => exact Bool.noConfusion (show true = false from hr)
              | 1, _, hr => exact Bool.noConfusion (show true = false from hr)
              | 2, _, hr => exact Bool.noConfusion (show true = false from hr)
              | 3, _, hr => exact Bool.noConfusion (show true = false from hr)
              | 4, _, hr => exact Bool.noConfusion (show true = false from hr)
              | 5, _, hr => exact Bool.noConfusion (show true = false from hr)
              | 6, _, hr => exact Bool.noConfusion (show true = false from hr)
              | 7, _, hr => rfl
              | 8, _, hr => rfl
              | 9, _, hr => rfl
              | 10, _, hr => rfl
              | 11, _, hr => rfl
              | 12, _, hr => rfl
              | 13, _, hr => rfl
              | 14, _, hr => rfl
              | 15, _, hr => rfl
              | 16, _, hr => rfl
              | 17, _, hr => exact Bool.noConfusion (show true = false from hr)
              | 18, _, hr => exact Bool.noConfusion (show true = false from hr)
              | 19, _, hr => exact Bool.noConfusion (show true = false from hr)
              | m + 20, h, _ => exact absurd h (by show ¬ m + 20 < 20; omega)
            · intro i h a W hrun hbase hpre hdep htr
              have MK := MM8.out.keep htr
              obtain ⟨n0, n1, n2, n3, _⟩ := MK.get g5 A (.head _)
              have q0 := (htr.cell (p := ⟨b12, o12, none⟩) hb12).trans k0
              have q1 := (htr.cell (p := ⟨b12, o12 + 1, none⟩) hb12).trans k1
              have q2 := (htr.cell (p := ⟨b12, o12 + 2, none⟩) hb12).trans k2
              have q3 := (htr.cell (p := ⟨b12, o12 + 3, none⟩) hb12).trans k3
              match i, h with
              | 0, _ =>
                obtain ⟨e13, x13⟩ := Rv.ev (show a.tmps.getD 13 undef = .bool true from hbase 13 rfl)
                exact Rv.step_op (op := Go.Op.move (Go.Operand.tmp 13)) (v := .bool true) (w1 := W) rfl rfl (fun d pos aft g => by unfold execOp; go_simp) ⟨_, rfl, rfl, Below.refl _ _⟩
              | 1, _ =>
                obtain ⟨e93, x93⟩ := Rv.ev (show a.tmps.getD 93 undef = .bool true from hdep 0 rfl)
                exact Rv.step_op (op := Go.Op.move (Go.Operand.tmp 93)) (v := .bool true) (w1 := W) rfl rfl (fun d pos aft g => by unfold execOp; go_simp) ⟨_, rfl, rfl, Below.refl _ _⟩
              | 2, _ =>
                obtain ⟨e5, x5⟩ := Rv.ev (show a.tmps.getD 5 undef = .pointer (some ⟨g5, 0, none⟩) from hbase 5 rfl)
                exact Rv.step_op (op := Go.Op.fieldAddr 27 (Go.Operand.tmp 5) 1) (v := .pointer (some ⟨g5, 2, none⟩)) (w1 := W) rfl rfl (fun d pos aft g => by unfold execOp; go_simp) ⟨_, rfl, rfl, Below.refl _ _⟩
              | 3, _ =>
                obtain ⟨e95, x95⟩ := Rv.ev (show a.tmps.getD 95 undef = .pointer (some ⟨g5, 2, none⟩) from hdep 2 rfl)
                exact Rv.step_op (op := Go.Op.load 24 (Go.Operand.tmp 95)) (v := cuV A.b A.y) (w1 := W) rfl rfl (fun d pos aft g => by unfold execOp; go_simp) ⟨_, rfl, rfl, Below.refl _ _⟩
              | 4, _ =>
                obtain ⟨e96, x96⟩ := Rv.ev (show a.tmps.getD 96 undef = cuV A.b A.y from hdep 3 rfl)
                have cf : ∀ x0 W, (callFunc 27 #[x0]).run Tryd.prog W = .ok (.enter 27 #[x0]) W := fun _ _ => by kernel_rfl
                refine Rv.step_fn (op := Go.Op.call { callee := Go.Callee.value (Go.Operand.func 27), args := #[Go.Operand.tmp 96], argTypes := #[24] }) (f := 27) (args := #[cuV A.b A.y]) (R := fun v W' => v = .int .i64 hiA ∧ Below W.heap.size W W') rfl rfl (fun d pos aft g => by unfold execOp; go_simp) ((PL.out W).mono ?_) ?_
                · (rintro e W' ⟨rfl, hb⟩; exact ⟨_, rfl, rfl, hb⟩)
                · (rintro v W' ⟨rfl, hb⟩; exact ⟨_, rfl, rfl, hb⟩)
              | 5, _ =>
                obtain ⟨e97, x97⟩ := Rv.ev (show a.tmps.getD 97 undef = .int .i64 hiA from hdep 4 rfl)
                exact Rv.step_op (op := Go.Op.binOp Go.BinOp.eql 3 (Go.Operand.tmp 97) (Go.Operand.const (Go.Value.int Go.IntKind.i64 10000)) 3) (v := .bool true) (w1 := W) rfl rfl (fun d pos aft g => by unfold execOp; go_simp) ⟨_, rfl, rfl, Below.refl _ _⟩
              | 6, _ =>
                obtain ⟨e98, x98⟩ := Rv.ev (show a.tmps.getD 98 undef = .bool true from hdep 5 rfl)
                exact Rv.step_op (op := Go.Op.move (Go.Operand.tmp 98)) (v := .bool true) (w1 := W) rfl rfl (fun d pos aft g => by unfold execOp; go_simp) ⟨_, rfl, rfl, Below.refl _ _⟩
              | 7, _ => exact Bool.noConfusion (show false = true from hrun)
              | 8, _ => exact Bool.noConfusion (show false = true from hrun)
              | 9, _ => exact Bool.noConfusion (show false = true from hrun)
              | 10, _ => exact Bool.noConfusion (show false = true from hrun)
              | 11, _ => exact Bool.noConfusion (show false = true from hrun)
              | 12, _ => exact Bool.noConfusion (show false = true from hrun)
              | 13, _ => exact Bool.noConfusion (show false = true from hrun)
              | 14, _ => exact Bool.noConfusion (show false = true from hrun)
              | 15, _ => exact Bool.noConfusion (show false = true from hrun)
              | 16, _ => exact Bool.noConfusion (show false = true from hrun)
              | 17, _ =>
                obtain ⟨e99, x99⟩ := Rv.ev (show a.tmps.getD 99 undef = .bool true from hdep 6 rfl)
                obtain ⟨e109, x109⟩ := Rv.ev (show a.tmps.getD 109 undef = undef from hdep 16 rfl)
                exact Rv.step_op (op := Go.Op.pick (Go.Operand.tmp 99) (Go.Operand.const (Go.Value.bool true)) (Go.Operand.tmp 109)) (v := Go.Value.bool true) (w1 := W) rfl rfl (fun d pos aft g => by unfold execOp; go_simp) ⟨_, rfl, rfl, Below.refl _ _⟩
              | 18, _ =>
                obtain ⟨e94, x94⟩ := Rv.ev (show a.tmps.getD 94 undef = .bool true from hdep 1 rfl)
                obtain ⟨e110, x110⟩ := Rv.ev (show a.tmps.getD 110 undef = Go.Value.bool true from hdep 17 rfl)
                exact Rv.step_op (op := Go.Op.pick (Go.Operand.tmp 94) (Go.Operand.tmp 110) (Go.Operand.const (Go.Value.bool false))) (v := Go.Value.bool true) (w1 := W) rfl rfl (fun d pos aft g => by unfold execOp; go_simp) ⟨_, rfl, rfl, Below.refl _ _⟩
              | 19, _ =>
                obtain ⟨e111, x111⟩ := Rv.ev (show a.tmps.getD 111 undef = Go.Value.bool true from hdep 18 rfl)
                exact Rv.step_op (op := Go.Op.assign (Go.Operand.tmp 111)) (v := Go.Value.bool true) (w1 := W) rfl rfl (fun d pos aft g => by unfold execOp; go_simp) ⟨_, rfl, rfl, Below.refl _ _⟩
              | m + 20, h => exact absurd h (by show ¬ m + 20 < 20; omega)
            intro W f hf htr
            have f0 : f 0 = .bool true := hf 0 (by show 0 < 20; omega)
            have f1 : f 1 = .bool true := hf 1 (by show 1 < 20; omega)
            have f2 : f 2 = .pointer (some ⟨g5, 2, none⟩) := hf 2 (by show 2 < 20; omega)
            have f3 : f 3 = cuV A.b A.y := hf 3 (by show 3 < 20; omega)
            have f4 : f 4 = .int .i64 hiA := hf 4 (by show 4 < 20; omega)
            have f5 : f 5 = .bool true := hf 5 (by show 5 < 20; omega)
            have f6 : f 6 = .bool true := hf 6 (by show 6 < 20; omega)
            have f7 : f 7 = undef := hf 7 (by show 7 < 20; omega)
            have f8 : f 8 = undef := hf 8 (by show 8 < 20; omega)
            have f9 : f 9 = undef := hf 9 (by show 9 < 20; omega)
            have f10 : f 10 = undef := hf 10 (by show 10 < 20; omega)
            have f11 : f 11 = undef := hf 11 (by show 11 < 20; omega)
            have f12 : f 12 = undef := hf 12 (by show 12 < 20; omega)
            have f13 : f 13 = undef := hf 13 (by show 13 < 20; omega)
            have f14 : f 14 = undef := hf 14 (by show 14 < 20; omega)
            have f15 : f 15 = undef := hf 15 (by show 15 < 20; omega)
            have f16 : f 16 = undef := hf 16 (by show 16 < 20; omega)
            have f17 : f 17 = Go.Value.bool true := hf 17 (by show 17 < 20; omega)
            have f18 : f 18 = Go.Value.bool true := hf 18 (by show 18 < 20; omega)
            have f19 : f 19 = Go.Value.bool true := hf 19 (by show 19 < 20; omega)
            refine (show ∀ (a : Act) (w : World), Code.wp _ _ _ a w → _ from by assumption) _ _ ?_
            refine Rv.fin_swap (L' := [(93, f 0), (94, f 1), (95, f 2), (96, f 3), (97, f 4), (98, f 5), (99, f 6), (100, f 7), (101, f 8), (102, f 9), (103, f 10), (104, f 11), (105, f 12), (106, f 13), (107, f 14), (108, f 15), (109, f 16), (110, f 17), (111, f 18), (4, f 19)]) rfl ?_
            rw [f0, f1, f2, f3, f4, f5, f6, f7, f8, f9, f10, f11, f12, f13, f14, f15, f16, f17, f18, f19]
            clear f0 f1 f2 f3 f4 f5 f6 f7 f8 f9 f10 f11 f12 f13 f14 f15 f16 f17 f18 f19
            simp only [Rv.fin, List.foldl_cons, List.foldl_nil, Act.put, List.setIfInBounds_toArray, List.set_cons_succ, List.set_cons_zero]
            have MMW := Lib.hid (MM8.out.keep htr)
            go_wp2
            go_ret
            exact ⟨rfl, MMW.out.2.1⟩
end Go.Proofs.YtfnogpelaoofbaaDoor.Rg

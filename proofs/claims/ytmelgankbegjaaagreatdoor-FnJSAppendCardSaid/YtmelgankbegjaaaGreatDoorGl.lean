/- Part l of the chain. Conditions: those written at each lemma. -/
import Derived.Test.YtmelgankbegjaaaGreatDoorGj
import Derived.Test.YtmelgankbegjaaaGreatDoorGk
import Derived.Test.YtmelgankbegjaaaGreatDoorGd
import Derived.Test.YtmelgankbegjaaaGreatDoorGg
set_option linter.unusedVariables false
set_option linter.unusedSimpArgs false
set_option maxRecDepth 100000
set_option maxHeartbeats 8000000
namespace Go.Proofs.YtmelgankbegjaaaGreatDoor.Js
open Go.RowKit Go.Proofs.YtmelgankbegjaaaGreatDoor.B

/-- What Update answers, once it has been called. -/
def Jd (N : Nat) (tt : J) (L : Nat → Bool) (f : Nat → Value) (W : World) : Prop := L 8 = true → ∃ (u : Value) (ch : Bool), f 8 = .tuple #[u, .bool ch, .bool true] ∧ IO (fun x => N ≤ x) W tt u
section
variable {N : Nat} {tt : J} {L : Nat → Bool} {f : Nat → Value} {W W' : World}
theorem Jd.loc {n : Nat} (hn : 8 < n) (L L' : Nat → Bool) (f f' : Nat → Value) (w : World) (h1 : ∀ k, k < n → L k = L' k) (h2 : ∀ k, k < n → f k = f' k) (h : Jd N tt L f w) : Jd N tt L' f' w := by
  unfold Jd at *
  rw [← h1 8 hn, ← h2 8 hn]
  exact h
theorem Jd.keep {i : Nat} (h8 : i ≠ 8) (v : Value) (hb : Below W.heap.size W W') (h : Jd N tt L f W) : Jd N tt (Rv.put L i) (Rv.upd f i v) W' := by
  unfold Jd Rv.put Rv.upd at *
  rw [if_neg (Ne.symm h8), if_neg (Ne.symm h8)]
  exact fun hl => (h hl).imp fun u h => h.imp fun ch h => ⟨h.1, h.2.below hb⟩
theorem Jd.call {u : Value} {ch : Bool} (h : IO (fun x => N ≤ x) W' tt u) : Jd N tt (Rv.put L 8) (Rv.upd f 8 (.tuple #[u, .bool ch, .bool true])) W' := by
  unfold Jd Rv.put Rv.upd
  rw [if_pos rfl, if_pos rfl]
  exact fun _ => ⟨u, ch, rfl, h⟩
theorem Jd.store {i b : Nat} (h8 : i ≠ 8) (v : Value) (hg : W.grownBy W' (some b)) (hb : b < N) (h : Jd N tt L f W) : Jd N tt (Rv.put L i) (Rv.upd f i v) W' := by
  unfold Jd Rv.put Rv.upd at *
  rw [if_neg (Ne.symm h8), if_neg (Ne.symm h8)]
  exact fun hl => (h hl).imp fun u h => h.imp fun ch h => ⟨h.1, h.2.keep (.grown hg (fun x hx e => by injection e with e; omega))⟩
end
theorem ix58 (op : Nat) (h : op = 3 ∨ op = 4 ∨ op = 5) (W : World) : (Instr.indexAt 58 (.pointer (some ⟨0, 0, none⟩)) (.int .i64 (op : Int))).run Tryz.prog W = .ok (.pointer (some ⟨0, op, none⟩)) W := by
  rcases h with rfl | rfl | rfl <;> (go_simp; try simp)
/-- JSDo. -/
theorem jsdo_any (op : Nat) (m : Int) (hop : op = 3 ∨ op = 4 ∨ op = 5) (hm : m = 0 ∨ m = 2 ∨ m = 4) (l : List Sp) (hl : l.length ≤ 4) (hL : ∀ s ∈ l, Stp s) (t1 t2 : J) (p q : Nat → Prop) (v1 v2 : Value) (w : World) (hw : Way t1 l) (hw1 : Wf t1) (hw2 : Wf t2) (hj1 : NN p w t1 v1) (hj2 : NN q w t2 v2)
    (has : As w) (hmd : w.cell? ⟨0, op, none⟩ = some (.int .i64 m)) :
    Calls Tryz.prog 8 #[.int .i64 (op : Int), v1, .string (bs (36 :: segs l)), v2] w fun e w' => ∃ v d, (∃ c9 : Bool, e = .returned (.tuple #[v, .bool c9, .bool true])) ∧ eqJ d (upd m t2 l t1) = true ∧ Wg d ∧ NN (fun x => w.heap.size ≤ x) w' d v ∧ Below w.heap.size w w' := by
  suffices H : ∀ (R : Ending → World → Prop), (∀ w' v d (c9 : Bool), eqJ d (upd m t2 l t1) = true → Wg d → NN (fun x => w.heap.size ≤ x) w' d v → Below w.heap.size w w' → R (.returned (.tuple #[v, .bool c9, .bool true])) w') → Calls Tryz.prog 8 #[.int .i64 (op : Int), v1, .string (bs (36 :: segs l)), v2] w R from H _ (fun w' v d c9 h1 h2 h3 h4 => ⟨v, d, ⟨c9, rfl⟩, h1, h2, h3, h4⟩)
  intro R hR
  have HRR := Lib.hid hR
  clear hR
  obtain ⟨A1, c1, B1, d1, rfl, _⟩ := hj1.five
  obtain ⟨A2, c2, B2, d2, rfl, _⟩ := hj2.five
  obtain ⟨hb1, hb2, hb3, hb4, hX⟩ := four_blocks w (.cells #[.int .i64 t1.k, .int .u64 (nb t1.k t1.n), .string t1.s, .slice A1 t1.ns.length c1, .slice B1 t1.is.length d1] 34) (.cells #[.int .i64 t2.k, .int .u64 (nb t2.k t2.n), .string t2.s, .slice A2 t2.ns.length c2, .slice B2 t2.is.length d2] 34) (.cells #[.int .i64 0, .int .u64 0, .string ⟨#[]⟩, .slice none 0 0, .slice none 0 0] 34) (.cells #[.bool false] 4)
  have HX := Lib.hid hX
  have HJ1 := Lib.hid (hj1.below hX)
  have HJ2 := Lib.hid (hj2.below hX)
  have HW1 := Lib.hid hw1
  have HW2 := Lib.hid hw2
  have HG1 := Lib.hid hb1
  have HG2 := Lib.hid hb2
  have HG3 := Lib.hid hb3
  have HG4 := Lib.hid hb4
  have HAS := Lib.hid has
  have h0w : 2 < w.heap.size := has.1
  have HMD := Lib.hid (fun (W : World) (hb : Below w.heap.size w W) => show W.cell? ⟨0, op, none⟩ = some (.int .i64 m) from (hb.cell (p := ⟨0, op, none⟩) (by show 0 < w.heap.size; omega)).trans hmd)
  have HIX := Lib.hid (ix58 op hop)
  have HUG := Lib.hid (upd_wg m t2 hw2 l t1 hL hw hw1)
  have HUP := Lib.hid (fun (W : World) (v21 v24 : Value) (M : Nat) (m1 : ((((w.alloc (.cells #[.int .i64 t1.k, .int .u64 (nb t1.k t1.n), .string t1.s, .slice A1 t1.ns.length c1, .slice B1 t1.is.length d1] 34)).alloc (.cells #[.int .i64 t2.k, .int .u64 (nb t2.k t2.n), .string t2.s, .slice A2 t2.ns.length c2, .slice B2 t2.is.length d2] 34)).alloc (.cells #[.int .i64 0, .int .u64 0, .string ⟨#[]⟩, .slice none 0 0, .slice none 0 0] 34)).alloc (.cells #[.bool false] 4)).heap.size ≤ M) (m2 : M ≤ W.heap.size) (hx : ((((w.alloc (.cells #[.int .i64 t1.k, .int .u64 (nb t1.k t1.n), .string t1.s, .slice A1 t1.ns.length c1, .slice B1 t1.is.length d1] 34)).alloc (.cells #[.int .i64 t2.k, .int .u64 (nb t2.k t2.n), .string t2.s, .slice A2 t2.ns.length c2, .slice B2 t2.is.length d2] 34)).alloc (.cells #[.int .i64 0, .int .u64 0, .string ⟨#[]⟩, .slice none 0 0, .slice none 0 0] 34)).alloc (.cells #[.bool false] 4)).heap.size ≤ W.heap.size) (has : As W)
    (n21 : IO (fun x => ((((w.alloc (.cells #[.int .i64 t1.k, .int .u64 (nb t1.k t1.n), .string t1.s, .slice A1 t1.ns.length c1, .slice B1 t1.is.length d1] 34)).alloc (.cells #[.int .i64 t2.k, .int .u64 (nb t2.k t2.n), .string t2.s, .slice A2 t2.ns.length c2, .slice B2 t2.is.length d2] 34)).alloc (.cells #[.int .i64 0, .int .u64 0, .string ⟨#[]⟩, .slice none 0 0, .slice none 0 0] 34)).alloc (.cells #[.bool false] 4)).heap.size ≤ x ∧ x < M) W t1 v21) (n24 : IO (fun x => M ≤ x) W t2 v24) =>
    update_any m hm l hl (fun s hs => (hL s hs).ltr) t1 t2 _ _ v21 v24 W ((((w.alloc (.cells #[.int .i64 t1.k, .int .u64 (nb t1.k t1.n), .string t1.s, .slice A1 t1.ns.length c1, .slice B1 t1.is.length d1] 34)).alloc (.cells #[.int .i64 t2.k, .int .u64 (nb t2.k t2.n), .string t2.s, .slice A2 t2.ns.length c2, .slice B2 t2.is.length d2] 34)).alloc (.cells #[.int .i64 0, .int .u64 0, .string ⟨#[]⟩, .slice none 0 0, .slice none 0 0] 34)).alloc (.cells #[.bool false] 4)).heap.size hw hw1 n21 n24 (fun x h1 h2 => by have := h1.2; omega) (fun x h => h.1) hx (Nat.lt_of_lt_of_le h0w hX.size) has)
  have ho1 : decide ((op : Int) < 1) = false := decide_eq_false (by omega)
  have ho6 : decide (6 < (op : Int)) = false := decide_eq_false (by omega)
  clear hj1 hj2 hw1 hw2 hb1 hb2 hb3 hb4 hX has hmd hw hL hm
  generalize bs (36 :: segs l) = T at *
  go_enter_defers Tryz.func8, Tryz.ntmps8
  go_upto_region 4 with fail
  generalize ((((w.alloc (.cells #[.int .i64 t1.k, .int .u64 (nb t1.k t1.n), .string t1.s, .slice A1 t1.ns.length c1, .slice B1 t1.is.length d1] 34)).alloc (.cells #[.int .i64 t2.k, .int .u64 (nb t2.k t2.n), .string t2.s, .slice A2 t2.ns.length c2, .slice B2 t2.is.length d2] 34)).alloc (.cells #[.int .i64 0, .int .u64 0, .string ⟨#[]⟩, .slice none 0 0, .slice none 0 0] 34)).alloc (.cells #[.bool false] 4)) = X at *
  have hg1 := Rv.lt_of_blk HG1.out
  have hg2 := Rv.lt_of_blk HG2.out
  have hg3 := Rv.lt_of_blk HG3.out
  have hg4 := Rv.lt_of_blk HG4.out
  clear ho1 ho6 hop
  refine wp_region_noPanic ?_
  refine Rv.region_fin2 (n := 38) (by kernel_rfl) #[20, 21, 22, 23, 24, 25, 26, 27, 28, 19, 29, 30, 31, 11, 9, 1015] #[] (fun i f W => if i = 15 then (fun f W => W.heap[w.heap.size + 1 + 1 + 1]? = some (.cells #[.bool true] 4 (0, 0))) f W else if i = 14 then (fun f W => ∃ ch : Bool, f 14 = .bool ch) f W else if i = 13 then (fun f W => f 13 = f 10) f W else if i = 11 then (fun f W => ∃ (u : Value) (ch : Bool), f 9 = .tuple #[u, .bool ch, .bool true] ∧ f 11 = .bool ch) f W else if i = 10 then (fun f W => ∃ (u : Value) (ch : Bool), f 9 = .tuple #[u, .bool ch, .bool true] ∧ f 10 = u) f W else if i = 9 then (fun f W => ∃ (u : Value) (ch : Bool), f 8 = .tuple #[u, .bool ch, .bool true] ∧ f 9 = f 8) f W else if i = 8 then (fun f W => ∃ (u : Value) (ch : Bool), f 8 = .tuple #[u, .bool ch, .bool true]) f W else if i = 4 then (fun f W => ∃ M, X.heap.size ≤ M ∧ M ≤ W.heap.size ∧ IO (fun x => X.heap.size ≤ x ∧ x < M) W t1 (f 1) ∧ IO (fun x => M ≤ x) W t2 (f 4)) f W else if i = 1 then (fun f W => IO (fun x => X.heap.size ≤ x) W t1 (f 1)) f W else f i = (#[.agg #[.int .i64 t1.k, .int .u64 (nb t1.k t1.n), .string t1.s, .slice A1 t1.ns.length c1, .slice B1 t1.is.length d1], undef, .string T, .agg #[.int .i64 t2.k, .int .u64 (nb t2.k t2.n), .string t2.s, .slice A2 t2.ns.length c2, .slice B2 t2.is.length d2], undef, .int .i64 (op : Int), .pointer (some ⟨0, op, none⟩), .int .i64 m, undef, undef, undef, undef, .bool true, undef, undef, undef] : Array Value).getD i undef) (fun i j => (i == 8 && (j == 1 || j == 4)) || (i == 15 && (j == 1 || j == 4))) (fun i => i == 8 || i == 15) (fun i => i == 15) (fun i f W W' => True) (fun W => Below w.heap.size w W ∧ (∃ b : Bool, W.heap[w.heap.size + 1 + 1 + 1]? = some (.cells #[.bool b] 4 (0, 0))) ∧ W.heap[w.heap.size + 1 + 1]? = some (.cells #[.int .i64 0, .int .u64 0, .string ⟨#[]⟩, .slice none 0 0, .slice none 0 0] 34 (0, 0))) (fun W => Below X.heap.size X W) (Jd X.heap.size (upd m t2 l t1)) (Jd.loc (by show 8 < 16; omega)) (fun i f f' w hi h hd hg => ?_) (fun i j f w w' hi hj hij hK hdp h hr => ?_) (fun i h g b hg => ?_) rfl (by kernel_rfl) (fun i h g b hg => ?_) (⟨HX.out.drew, ⟨false, HG4.out⟩, HG3.out⟩) ((Below.refl _ _).drew) (fun f h => (by cases h)) (fun i h hr f w hf => ?_) (fun i h hr => absurd hr (Rv.allrun (by kernel_rfl) i h)) ?_ ?_
  · by_cases hi1015 : i = 15
    · subst hi1015
      rw [if_pos rfl] at hg ⊢
      exact hg
    rw [if_neg hi1015] at hg ⊢
    by_cases hi9 : i = 14
    · subst hi9
      rw [if_pos rfl] at hg ⊢
      obtain ⟨ch, q⟩ := hg
      exact ⟨ch, h.symm.trans q⟩
    rw [if_neg hi9] at hg ⊢
    by_cases hi11 : i = 13
    · subst hi11
      rw [if_pos rfl] at hg ⊢
      exact h.symm.trans (hg.trans (hd 10 rfl))
    rw [if_neg hi11] at hg ⊢
    by_cases hi30 : i = 11
    · subst hi30
      rw [if_pos rfl] at hg ⊢
      obtain ⟨u, ch, q1, q2⟩ := hg
      exact ⟨u, ch, (hd 9 rfl).symm.trans q1, h.symm.trans q2⟩
    rw [if_neg hi30] at hg ⊢
    by_cases hi29 : i = 10
    · subst hi29
      rw [if_pos rfl] at hg ⊢
      obtain ⟨u, ch, q1, q2⟩ := hg
      exact ⟨u, ch, (hd 9 rfl).symm.trans q1, h.symm.trans q2⟩
    rw [if_neg hi29] at hg ⊢
    by_cases hi19 : i = 9
    · subst hi19
      rw [if_pos rfl] at hg ⊢
      obtain ⟨u, ch, q1, q2⟩ := hg
      exact ⟨u, ch, (hd 8 rfl).symm.trans q1, h.symm.trans (q2.trans (hd 8 rfl))⟩
    rw [if_neg hi19] at hg ⊢
    by_cases hi28 : i = 8
    · subst hi28
      rw [if_pos rfl] at hg ⊢
      obtain ⟨u, ch, q⟩ := hg
      exact ⟨u, ch, h.symm.trans q⟩
    rw [if_neg hi28] at hg ⊢
    by_cases hi24 : i = 4
    · subst hi24
      rw [if_pos rfl] at hg ⊢
      obtain ⟨M, q1, q2, q3, q4⟩ := hg
      rw [h] at q4
      rw [hd 1 rfl] at q3
      exact ⟨M, q1, q2, q3, q4⟩
    rw [if_neg hi24] at hg ⊢
    by_cases hi21 : i = 1
    · subst hi21
      rw [if_pos rfl] at hg ⊢
      have hz := hg
      rw [h] at hz
      exact hz
    rw [if_neg hi21] at hg ⊢
    rw [← h]; exact hg
  · by_cases hj1015 : j = 15
    · subst hj1015
      rw [if_pos rfl] at h ⊢
      rcases hr with ⟨hK1, hr⟩ | hr
      · have hi2 : i = 8 ∨ i = 15 := by simpa [or_assoc] using hK1
        rcases hi2 with e | e
        · subst e; exfalso; revert hdp; decide
        · exact absurd e hij
      · exact (hr.block _ (Rv.lt_of_blk h)).trans h
    rw [if_neg hj1015] at h ⊢
    by_cases hj9 : j = 14
    · subst hj9
      rw [if_pos rfl] at h ⊢
      exact h
    rw [if_neg hj9] at h ⊢
    by_cases hj11 : j = 13
    · subst hj11
      rw [if_pos rfl] at h ⊢
      exact h
    rw [if_neg hj11] at h ⊢
    by_cases hj30 : j = 11
    · subst hj30
      rw [if_pos rfl] at h ⊢
      exact h
    rw [if_neg hj30] at h ⊢
    by_cases hj29 : j = 10
    · subst hj29
      rw [if_pos rfl] at h ⊢
      exact h
    rw [if_neg hj29] at h ⊢
    by_cases hj19 : j = 9
    · subst hj19
      rw [if_pos rfl] at h ⊢
      exact h
    rw [if_neg hj19] at h ⊢
    by_cases hj28 : j = 8
    · subst hj28
      rw [if_pos rfl] at h ⊢
      exact h
    rw [if_neg hj28] at h ⊢
    by_cases hj24 : j = 4
    · subst hj24
      rw [if_pos rfl] at h ⊢
      rcases hr with ⟨hK1, hr⟩ | hr
      · have hi2 : i = 8 ∨ i = 15 := by simpa [or_assoc] using hK1
        rcases hi2 with e | e
        · subst e; exfalso; revert hK; decide
        · subst e; exfalso; revert hK; decide
      · obtain ⟨M, h1, h2, h3, h4⟩ := h
        exact ⟨M, h1, Nat.le_trans h2 hr.size, h3.below hr, h4.below hr⟩
    rw [if_neg hj24] at h ⊢
    by_cases hj21 : j = 1
    · subst hj21
      rw [if_pos rfl] at h ⊢
      rcases hr with ⟨hK1, hr⟩ | hr
      · have hi2 : i = 8 ∨ i = 15 := by simpa [or_assoc] using hK1
        rcases hi2 with e | e
        · subst e; exfalso; revert hK; decide
        · subst e; exfalso; revert hK; decide
      · exact h.below hr
    rw [if_neg hj21] at h ⊢
    exact h
  · match i, h, hg with
    | 0, _, hg => cases hg
    | 1, _, hg => cases hg
    | 2, _, hg => cases hg
    | 3, _, hg => cases hg
    | 4, _, hg => cases hg
    | 5, _, hg => cases hg
    | 6, _, hg => cases hg
    | 7, _, hg => cases hg
    | 8, _, hg => cases hg
    | 9, _, hg => cases hg
    | 10, _, hg => cases hg
    | 11, _, hg => cases hg
    | 12, _, hg => cases hg
    | 13, _, hg => cases hg
    | 14, _, hg => cases hg
    | 15, _, hg => cases hg
    | m + 16, h, _ => exact absurd h (by show ¬ m + 16 < 16; omega)
  · match i, h, hg with
    | 0, _, hg => cases hg
    | 1, _, hg => cases hg
    | 2, _, hg => cases hg
    | 3, _, hg => cases hg
    | 4, _, hg => cases hg
    | 5, _, hg => cases hg
    | 6, _, hg => cases hg
    | 7, _, hg => cases hg
    | 8, _, hg => cases hg
    | 9, _, hg => cases hg
    | 10, _, hg => cases hg
    | 11, _, hg => cases hg
    | 12, _, hg => cases hg
    | 13, _, hg => cases hg
    | 14, _, hg => cases hg
    | 15, _, hg => cases hg
    | m + 16, h, _ => exact absurd h (by show ¬ m + 16 < 16; omega)
  · match i, h, hr, hf with
    | 0, _, hr, _ => exact Bool.noConfusion (show true = false from hr)
    | 1, _, hr, _ => exact Bool.noConfusion (show true = false from hr)
    | 2, _, hr, _ => exact Bool.noConfusion (show true = false from hr)
    | 3, _, hr, _ => exact Bool.noConfusion (show true = false from hr)
    | 4, _, hr, _ => exact Bool.noConfusion (show true = false from hr)
    | 5, _, hr, _ => exact Bool.noConfusion (show true = false from hr)
    | 6, _, hr, _ => exact Bool.noConfusion (show true = false from hr)
    | 7, _, hr, _ => exact Bool.noConfusion (show true = false from hr)
    | 8, _, hr, _ => exact Bool.noConfusion (show true = false from hr)
    | 9, _, hr, _ => exact Bool.noConfusion (show true = false from hr)
    | 10, _, hr, _ => exact Bool.noConfusion (show true = false from hr)
    | 11, _, hr, _ => exact Bool.noConfusion (show true = false from hr)
    | 12, _, hr, _ => exact Bool.noConfusion (show true = false from hr)
    | 13, _, hr, _ => exact Bool.noConfusion (show true = false from hr)
    | 14, _, hr, _ => exact Bool.noConfusion (show true = false from hr)
    | 15, _, hr, _ => exact Bool.noConfusion (show true = false from hr)
    | m + 16, h, _, _ => exact absurd h (by show ¬ m + 16 < 16; omega)
  · intro i h a W hrun hbase hpre hdep htr hta hJ
    match i, h with
    | 0, _ =>
      obtain ⟨e5, x5⟩ := Rv.ev (show a.tmps.getD 5 undef = .pointer (some ⟨w.heap.size, 0, none⟩) from hbase 5 rfl)
      obtain ⟨y0, y1, y2, y3, y4⟩ := Rv.cells5 (((hta (by decide)).block _ hg1).trans HG1.out)
      exact Rv.step_op (op := Go.Op.load 34 (Go.Operand.tmp 5)) (v := .agg #[.int .i64 t1.k, .int .u64 (nb t1.k t1.n), .string t1.s, .slice A1 t1.ns.length c1, .slice B1 t1.is.length d1]) (w1 := W) rfl rfl (fun d pos aft g => by unfold execOp; go_simp) ⟨_, rfl, rfl, .inr (Below.refl _ _), htr, fun _ ht => ht, fun L _ hJ => Jd.keep (by decide) _ (Below.refl _ _) hJ⟩
    | 1, _ =>
      obtain ⟨e20, x20⟩ := Rv.ev (show a.tmps.getD 20 undef = .agg #[.int .i64 t1.k, .int .u64 (nb t1.k t1.n), .string t1.s, .slice A1 t1.ns.length c1, .slice B1 t1.is.length d1] from hdep 0 rfl rfl)
      have cf : ∀ x0 W, (callFunc 20 #[x0]).run Tryz.prog W = .ok (.enter 20 #[x0]) W := fun _ _ => by kernel_rfl
      have hx := (hta (by decide)).size
      refine Rv.step_fn (op := Go.Op.call { callee := Go.Callee.value (Go.Operand.func 20), args := #[Go.Operand.tmp 20], argTypes := #[34] }) (ty := 20) (f := 20) (args := #[.agg #[.int .i64 t1.k, .int .u64 (nb t1.k t1.n), .string t1.s, .slice A1 t1.ns.length c1, .slice B1 t1.is.length d1]]) (R := fun v W' => IO (fun x => W.heap.size ≤ x) W' t1 v ∧ Below W.heap.size W W') rfl rfl (fun d pos aft g => by unfold execOp; go_simp) ((vio_any t1 _ _ W HW1.out.wg (HJ1.out.below (hta (by decide)))).mono ?_) ?_
      · (rintro e W' ⟨u, rfl, hu, hc, hb⟩; exact ⟨_, rfl, hu, hb⟩)
      · (rintro v W' ⟨hv, hb⟩; exact ⟨_, rfl, hv.mono (fun x hx' => Nat.le_trans hx hx'), .inr hb, ⟨htr.1.trans (hb.mono htr.1.size), htr.2.1.imp fun b hq => (hb.block _ (Rv.lt_of_blk hq)).trans hq, (hb.block _ (Rv.lt_of_blk htr.2.2)).trans htr.2.2⟩, (fun _ ht => ht.trans (hb.mono ht.size)), fun L _ hJ => Jd.keep (by decide) _ hb hJ⟩)
    | 2, _ =>
      obtain ⟨e2, x2⟩ := Rv.ev (show a.tmps.getD 2 undef = .string T from hbase 2 rfl)
      exact Rv.step_op (op := Go.Op.move (Go.Operand.tmp 2)) (v := .string T) (w1 := W) rfl rfl (fun d pos aft g => by unfold execOp; go_simp) ⟨_, rfl, rfl, .inr (Below.refl _ _), htr, fun _ ht => ht, fun L _ hJ => Jd.keep (by decide) _ (Below.refl _ _) hJ⟩
    | 3, _ =>
      obtain ⟨e7, x7⟩ := Rv.ev (show a.tmps.getD 7 undef = .pointer (some ⟨w.heap.size + 1, 0, none⟩) from hbase 7 rfl)
      obtain ⟨y0, y1, y2, y3, y4⟩ := Rv.cells5 (((hta (by decide)).block _ hg2).trans HG2.out)
      exact Rv.step_op (op := Go.Op.load 34 (Go.Operand.tmp 7)) (v := .agg #[.int .i64 t2.k, .int .u64 (nb t2.k t2.n), .string t2.s, .slice A2 t2.ns.length c2, .slice B2 t2.is.length d2]) (w1 := W) rfl rfl (fun d pos aft g => by unfold execOp; go_simp) ⟨_, rfl, rfl, .inr (Below.refl _ _), htr, fun _ ht => ht, fun L _ hJ => Jd.keep (by decide) _ (Below.refl _ _) hJ⟩
    | 4, _ =>
      obtain ⟨e23, x23⟩ := Rv.ev (show a.tmps.getD 23 undef = .agg #[.int .i64 t2.k, .int .u64 (nb t2.k t2.n), .string t2.s, .slice A2 t2.ns.length c2, .slice B2 t2.is.length d2] from hdep 3 rfl rfl)
      have cf : ∀ x0 W, (callFunc 20 #[x0]).run Tryz.prog W = .ok (.enter 20 #[x0]) W := fun _ _ => by kernel_rfl
      have hx := (hta (by decide)).size
      have n21 : IO (fun x => X.heap.size ≤ x) W t1 (a.tmps.getD 21 undef) := hdep 1 rfl rfl
      refine Rv.step_fn (op := Go.Op.call { callee := Go.Callee.value (Go.Operand.func 20), args := #[Go.Operand.tmp 23], argTypes := #[34] }) (ty := 20) (f := 20) (args := #[.agg #[.int .i64 t2.k, .int .u64 (nb t2.k t2.n), .string t2.s, .slice A2 t2.ns.length c2, .slice B2 t2.is.length d2]]) (R := fun v W' => IO (fun x => W.heap.size ≤ x) W' t2 v ∧ Below W.heap.size W W') rfl rfl (fun d pos aft g => by unfold execOp; go_simp) ((vio_any t2 _ _ W HW2.out.wg (HJ2.out.below (hta (by decide)))).mono ?_) ?_
      · (rintro e W' ⟨u, rfl, hu, hc, hb⟩; exact ⟨_, rfl, hu, hb⟩)
      · (rintro v W' ⟨hv, hb⟩; exact ⟨_, rfl, ⟨W.heap.size, hx, hb.size, n21.bound.below hb, hv⟩, .inr hb, ⟨htr.1.trans (hb.mono htr.1.size), htr.2.1.imp fun b hq => (hb.block _ (Rv.lt_of_blk hq)).trans hq, (hb.block _ (Rv.lt_of_blk htr.2.2)).trans htr.2.2⟩, (fun _ ht => ht.trans (hb.mono ht.size)), fun L _ hJ => Jd.keep (by decide) _ hb hJ⟩)
    | 5, _ =>
      obtain ⟨e0, x0⟩ := Rv.ev (show a.tmps.getD 0 undef = .int .i64 (op : Int) from hbase 0 rfl)
      exact Rv.step_op (op := Go.Op.move (Go.Operand.tmp 0)) (v := .int .i64 (op : Int)) (w1 := W) rfl rfl (fun d pos aft g => by unfold execOp; go_simp) ⟨_, rfl, rfl, .inr (Below.refl _ _), htr, fun _ ht => ht, fun L _ hJ => Jd.keep (by decide) _ (Below.refl _ _) hJ⟩
    | 6, _ =>
      obtain ⟨e25, x25⟩ := Rv.ev (show a.tmps.getD 25 undef = .int .i64 (op : Int) from hdep 5 rfl rfl)
      have hix := HIX.out W
      exact Rv.step_op (op := Go.Op.indexAddr 58 (Go.Operand.global 0) (Go.Operand.tmp 25)) (v := .pointer (some ⟨0, op, none⟩)) (w1 := W) rfl rfl (fun d pos aft g => by unfold execOp; go_simp) ⟨_, rfl, rfl, .inr (Below.refl _ _), htr, fun _ ht => ht, fun L _ hJ => Jd.keep (by decide) _ (Below.refl _ _) hJ⟩
    | 7, _ =>
      obtain ⟨e26, x26⟩ := Rv.ev (show a.tmps.getD 26 undef = .pointer (some ⟨0, op, none⟩) from hdep 6 rfl rfl)
      have hmd := HMD.out W htr.1
      exact Rv.step_op (op := Go.Op.load 3 (Go.Operand.tmp 26)) (v := .int .i64 m) (w1 := W) rfl rfl (fun d pos aft g => by unfold execOp; go_simp) ⟨_, rfl, rfl, .inr (Below.refl _ _), htr, fun _ ht => ht, fun L _ hJ => Jd.keep (by decide) _ (Below.refl _ _) hJ⟩
    | 8, _ =>
      obtain ⟨e22, x22⟩ := Rv.ev (show a.tmps.getD 22 undef = .string T from hdep 2 rfl rfl)
      obtain ⟨M, m1, m2, n21, n24⟩ : ∃ M, X.heap.size ≤ M ∧ M ≤ W.heap.size ∧ IO (fun x => X.heap.size ≤ x ∧ x < M) W t1 (a.tmps.getD 21 undef) ∧ IO (fun x => M ≤ x) W t2 (a.tmps.getD 24 undef) := hdep 4 rfl rfl
      obtain ⟨v21, q21⟩ : ∃ v, a.tmps.getD 21 undef = v := ⟨_, rfl⟩
      obtain ⟨v24, q24⟩ : ∃ v, a.tmps.getD 24 undef = v := ⟨_, rfl⟩
      rw [q21] at n21
      rw [q24] at n24
      obtain ⟨e21, x21⟩ := Rv.ev q21
      obtain ⟨e24, x24⟩ := Rv.ev q24
      obtain ⟨e27, x27⟩ := Rv.ev (show a.tmps.getD 27 undef = .int .i64 m from hdep 7 rfl rfl)
      have cf : ∀ x0 x1 x2 x3 W, (callFunc 19 #[x0, x1, x2, x3]).run Tryz.prog W = .ok (.enter 19 #[x0, x1, x2, x3]) W := fun _ _ _ _ _ => by kernel_rfl
      have hx := (hta (by decide)).size
      have hxw := HX.out.size
      refine Rv.step_fn (op := Go.Op.call { callee := Go.Callee.value (Go.Operand.func 19), args := #[Go.Operand.tmp 21, Go.Operand.tmp 22, Go.Operand.tmp 24, Go.Operand.tmp 27], argTypes := #[20, 9, 20, 3] }) (ty := 55) (f := 19) (args := #[v21, .string T, v24, .int .i64 m]) (R := fun v W' => (∃ (u : Value) (ch : Bool), v = .tuple #[u, .bool ch, .bool true] ∧ IO (fun x => X.heap.size ≤ x) W' (upd m t2 l t1) u) ∧ Below X.heap.size W W') rfl rfl (fun d pos aft g => by unfold execOp; go_simp) ((HUP.out W v21 v24 M m1 m2 hx (HAS.out.below htr.1 HAS.out.1) n21 n24).mono ?_) ?_
      · (rintro e W' ⟨u, ch, rfl, hio, hb⟩; exact ⟨_, rfl, ⟨u, ch, rfl, hio.mono (fun x h => by rcases h with h | h | h; exact h.1; exact Nat.le_trans m1 h; exact Nat.le_trans hx h)⟩, hb⟩)
      · (rintro v W' ⟨⟨u, ch, rfl, hio⟩, hb⟩; exact ⟨_, rfl, ⟨u, ch, rfl⟩, .inl ⟨rfl, trivial⟩, ⟨htr.1.trans (hb.mono hxw), htr.2.1.imp fun b hq => (hb.block _ hg4).trans hq, (hb.block _ hg3).trans htr.2.2⟩, (fun _ ht => ht.trans hb), fun L _ hJ => Jd.call hio⟩)
    | 9, _ =>
      obtain ⟨u28, c28, q28⟩ : ∃ (u : Value) (ch : Bool), a.tmps.getD 28 undef = .tuple #[u, .bool ch, .bool true] := hdep 8 rfl rfl
      obtain ⟨e28, x28⟩ := Rv.ev q28
      exact Rv.step_op (op := Go.Op.move (Go.Operand.tmp 28)) (ty := 55) (v := .tuple #[u28, .bool c28, .bool true]) (w1 := W) rfl rfl (fun d pos aft g => by unfold execOp; go_simp) ⟨_, rfl, ⟨u28, c28, q28, q28.symm⟩, .inr (Below.refl _ _), htr, (fun _ ht => ht), fun L _ hJ => Jd.keep (by decide) _ (Below.refl _ _) hJ⟩
    | 10, _ =>
      obtain ⟨u19, c19, q19a, q19⟩ : ∃ (u : Value) (ch : Bool), a.tmps.getD 28 undef = .tuple #[u, .bool ch, .bool true] ∧ a.tmps.getD 19 undef = a.tmps.getD 28 undef := hdep 9 rfl rfl
      obtain ⟨e19, x19⟩ := Rv.ev (q19.trans q19a)
      exact Rv.step_op (op := Go.Op.extract (Go.Operand.tmp 19) 0) (ty := 20) (v := u19) (w1 := W) rfl rfl (fun d pos aft g => by unfold execOp; go_simp) ⟨_, rfl, ⟨u19, c19, q19.trans q19a, rfl⟩, .inr (Below.refl _ _), htr, (fun _ ht => ht), fun L _ hJ => Jd.keep (by decide) _ (Below.refl _ _) hJ⟩
    | 11, _ =>
      obtain ⟨u19, c19, q19a, q19⟩ : ∃ (u : Value) (ch : Bool), a.tmps.getD 28 undef = .tuple #[u, .bool ch, .bool true] ∧ a.tmps.getD 19 undef = a.tmps.getD 28 undef := hdep 9 rfl rfl
      obtain ⟨e19, x19⟩ := Rv.ev (q19.trans q19a)
      exact Rv.step_op (op := Go.Op.extract (Go.Operand.tmp 19) 1) (ty := 4) (v := .bool c19) (w1 := W) rfl rfl (fun d pos aft g => by unfold execOp; go_simp) ⟨_, rfl, ⟨u19, c19, q19.trans q19a, rfl⟩, .inr (Below.refl _ _), htr, (fun _ ht => ht), fun L _ hJ => Jd.keep (by decide) _ (Below.refl _ _) hJ⟩
    | 12, _ =>
      obtain ⟨u19, c19, q19a, q19⟩ : ∃ (u : Value) (ch : Bool), a.tmps.getD 28 undef = .tuple #[u, .bool ch, .bool true] ∧ a.tmps.getD 19 undef = a.tmps.getD 28 undef := hdep 9 rfl rfl
      obtain ⟨e19, x19⟩ := Rv.ev (q19.trans q19a)
      exact Rv.step_op (op := Go.Op.extract (Go.Operand.tmp 19) 2) (ty := 4) (v := .bool true) (w1 := W) rfl rfl (fun d pos aft g => by unfold execOp; go_simp) ⟨_, rfl, rfl, .inr (Below.refl _ _), htr, (fun _ ht => ht), fun L _ hJ => Jd.keep (by decide) _ (Below.refl _ _) hJ⟩
    | 13, _ =>
      obtain ⟨v29, q29⟩ : ∃ v, a.tmps.getD 29 undef = v := ⟨_, rfl⟩
      obtain ⟨e29, x29⟩ := Rv.ev q29
      exact Rv.step_op (op := Go.Op.assign (Go.Operand.tmp 29)) (ty := 20) (v := v29) (w1 := W) rfl rfl (fun d pos aft g => by unfold execOp; go_simp) ⟨_, rfl, q29.symm, .inr (Below.refl _ _), htr, (fun _ ht => ht), fun L _ hJ => Jd.keep (by decide) _ (Below.refl _ _) hJ⟩
    | 14, _ =>
      obtain ⟨u30, c30, q30a, q30⟩ : ∃ (u : Value) (ch : Bool), a.tmps.getD 19 undef = .tuple #[u, .bool ch, .bool true] ∧ a.tmps.getD 30 undef = .bool ch := hdep 11 rfl rfl
      obtain ⟨e30, x30⟩ := Rv.ev q30
      exact Rv.step_op (op := Go.Op.assign (Go.Operand.tmp 30)) (ty := 4) (v := .bool c30) (w1 := W) rfl rfl (fun d pos aft g => by unfold execOp; go_simp) ⟨_, rfl, ⟨c30, rfl⟩, .inr (Below.refl _ _), htr, (fun _ ht => ht), fun L _ hJ => Jd.keep (by decide) _ (Below.refl _ _) hJ⟩
    | 15, _ =>
      obtain ⟨e10, x10⟩ := Rv.ev (show a.tmps.getD 10 undef = .pointer (some ⟨w.heap.size + 1 + 1 + 1, 0, none⟩) from hbase 10 rfl)
      obtain ⟨e31, x31⟩ := Rv.ev (show a.tmps.getD 31 undef = .bool true from hdep 12 rfl rfl)
      obtain ⟨b0, hq⟩ := htr.2.1
      have s0 := Rv.cells1 hq
      have t0 := Rv.frozen1 hq
      have gs := grown_set (Below.refl _ W) (w.heap.size + 1 + 1 + 1) 0 (.bool true)
      exact Rv.step_skip (op := Go.Op.store 4 (Go.Operand.tmp 10) (Go.Operand.tmp 31)) (ty := 0) (w1 := W.setCell ⟨w.heap.size + 1 + 1 + 1, 0, none⟩ (.bool true)) rfl rfl (fun d pos aft g => by unfold execOp; go_simp) ⟨undef, rfl, Rv.sets1 hq _, .inl ⟨rfl, trivial⟩, ⟨htr.1.grown gs htr.1.size (fun k hk => by injection hk with hk; omega), ⟨true, Rv.sets1 hq _⟩, blk_grown htr.2.2 gs (fun e => by injection e with e; omega)⟩, (fun h _ => by cases h), fun L _ hJ => Jd.store (by decide) _ gs hg4 hJ⟩
    | m + 16, h => exact absurd h (by show ¬ m + 16 < 16; omega)
  intro W f hf htr hJ
  have f0 : f 0 = .agg #[.int .i64 t1.k, .int .u64 (nb t1.k t1.n), .string t1.s, .slice A1 t1.ns.length c1, .slice B1 t1.is.length d1] := hf 0 (by show 0 < 16; omega) rfl
  have f2 : f 2 = .string T := hf 2 (by show 2 < 16; omega) rfl
  have f3 : f 3 = .agg #[.int .i64 t2.k, .int .u64 (nb t2.k t2.n), .string t2.s, .slice A2 t2.ns.length c2, .slice B2 t2.is.length d2] := hf 3 (by show 3 < 16; omega) rfl
  have f5 : f 5 = .int .i64 (op : Int) := hf 5 (by show 5 < 16; omega) rfl
  have f6 : f 6 = .pointer (some ⟨0, op, none⟩) := hf 6 (by show 6 < 16; omega) rfl
  have f7 : f 7 = .int .i64 m := hf 7 (by show 7 < 16; omega) rfl
  have HS8 := Lib.hid (show (fun f W => ∃ (u : Value) (ch : Bool), f 8 = .tuple #[u, .bool ch, .bool true]) f W from hf 8 (by show 8 < 16; omega) rfl)
  have HS9 := Lib.hid (show (fun f W => ∃ (u : Value) (ch : Bool), f 8 = .tuple #[u, .bool ch, .bool true] ∧ f 9 = f 8) f W from hf 9 (by show 9 < 16; omega) rfl)
  have HS10 := Lib.hid (show (fun f W => ∃ (u : Value) (ch : Bool), f 9 = .tuple #[u, .bool ch, .bool true] ∧ f 10 = u) f W from hf 10 (by show 10 < 16; omega) rfl)
  have HS11 := Lib.hid (show (fun f W => ∃ (u : Value) (ch : Bool), f 9 = .tuple #[u, .bool ch, .bool true] ∧ f 11 = .bool ch) f W from hf 11 (by show 11 < 16; omega) rfl)
  have f12 : f 12 = .bool true := hf 12 (by show 12 < 16; omega) rfl
  have HS13 := Lib.hid (show (fun f W => f 13 = f 10) f W from hf 13 (by show 13 < 16; omega) rfl)
  have HS14 := Lib.hid (show (fun f W => ∃ ch : Bool, f 14 = .bool ch) f W from hf 14 (by show 14 < 16; omega) rfl)
  have HS15 := Lib.hid (show (fun f W => W.heap[w.heap.size + 1 + 1 + 1]? = some (.cells #[.bool true] 4 (0, 0))) f W from hf 15 (by show 15 < 16; omega) rfl)
  clear hf
  refine (show ∀ (a : Act) (w : World), Code.wp _ _ _ a w → _ from by assumption) _ _ ?_
  refine Rv.fin_swap (L' := [(20, f 0), (21, f 1), (22, f 2), (23, f 3), (24, f 4), (25, f 5), (26, f 6), (27, f 7), (28, f 8), (19, f 9), (29, f 10), (30, f 11), (31, f 12), (11, f 13), (9, f 14), (1015, f 15)]) rfl ?_
  rw [f0, f2, f3, f5, f6, f7, f12]
  clear f0 f2 f3 f5 f6 f7 f12
  simp only [Rv.fin, List.foldl_cons, List.foldl_nil, Act.put, List.setIfInBounds_toArray, List.set_cons_succ, List.set_cons_zero, List.set_nil]
  obtain ⟨u, ch, q8, hio⟩ := hJ rfl
  obtain ⟨u', ch', q9a, q9⟩ := HS9.out
  obtain ⟨u2, ch2, q10a, q10⟩ := HS10.out
  obtain ⟨c9, q14⟩ := HS14.out
  have e13 : f 13 = u := by
    rw [HS13.out, q10]
    rw [q9, q8] at q10a
    injection q10a with h
    injection h with h
    simp only [List.cons.injEq] at h
    exact h.1.symm
  rw [e13, q14]
  have NO := Lib.hid (node_any (upd m t2 l t1) _ u W HUG.out hio.iv)
  have HB := Lib.hid htr.1
  have HQ5 := Lib.hid HS15.out
  have HQ4 := Lib.hid htr.2.2
  have s5 := Rv.cells1 HS15.out
  clear hJ q8 hio q9a q9 q10a q10 q14 e13 htr HUP HMD HIX HS8 HS9 HS10 HS11 HS13 HS14 HS15
  generalize f 1 = f1
  generalize f 4 = f4
  generalize f 8 = f8
  generalize f 9 = f9
  generalize f 10 = f10
  generalize f 11 = f11
  go_wp2_with (go_at_call 21; (with_reducible refine NO.out.mono ?_); rintro e w5 ⟨v, d, rfl, hn, he, hg, hb⟩; obtain ⟨A5, c5, A6, c6, ez, _⟩ := hn.five; subst ez; have HNN := Lib.hid hn; have HEE := Lib.hid he; have HGG := Lib.hid hg; have HBB := Lib.hid hb; have HR4 := Lib.hid ((hb.block _ (Rv.lt_of_blk HQ4.out)).trans HQ4.out); have HR5 := Lib.hid ((hb.block _ (Rv.lt_of_blk HQ5.out)).trans HQ5.out); obtain ⟨x0, x1, x2, x3, x4⟩ := Rv.cells5 HR4.out; obtain ⟨z0, z1, z2, z3, z4⟩ := Rv.frozen5 HR4.out; have x9 := Rv.cells1 HR5.out; have z9 := Rv.frozen1 HR5.out; clear hn he hg hb)
  have gs := fun (V : World) j u => grown_set (Below.refl _ V) (w.heap.size + 1 + 1) j u
  have g4 : w5.grownBy (((((w5.setCell ⟨w.heap.size + 1 + 1, 0, none⟩ (.int .i64 d.k)).setCell ⟨w.heap.size + 1 + 1, 1, none⟩ (.int .u64 (nb d.k d.n))).setCell ⟨w.heap.size + 1 + 1, 2, none⟩ (.string d.s)).setCell ⟨w.heap.size + 1 + 1, 3, none⟩ (.slice A5 d.ns.length c5)).setCell ⟨w.heap.size + 1 + 1, 4, none⟩ (.slice A6 d.is.length c6)) (some (w.heap.size + 1 + 1)) := (grown_then (grown_then (grown_then (grown_then (gs w5 0 (.int .i64 d.k)) (gs _ 1 (.int .u64 (nb d.k d.n)))) (gs _ 2 (.string d.s))) (gs _ 3 (.slice A5 d.ns.length c5))) (gs _ 4 (.slice A6 d.is.length c6)))
  have g5 := grown_set (Below.refl _ (((((w5.setCell ⟨w.heap.size + 1 + 1, 0, none⟩ (.int .i64 d.k)).setCell ⟨w.heap.size + 1 + 1, 1, none⟩ (.int .u64 (nb d.k d.n))).setCell ⟨w.heap.size + 1 + 1, 2, none⟩ (.string d.s)).setCell ⟨w.heap.size + 1 + 1, 3, none⟩ (.slice A5 d.ns.length c5)).setCell ⟨w.heap.size + 1 + 1, 4, none⟩ (.slice A6 d.is.length c6))) (w.heap.size + 1 + 1 + 1) 0 (.bool true)
  have l4 := Rv.lt_of_blk HQ4.out
  have l5 := Rv.lt_of_blk HQ5.out
  have hn6 := ((HNN.out.grown g4 (fun x hx e => by injection e with e; omega)).grown g5 (fun x hx e => by injection e with e; omega)).weak (q := fun x => w.heap.size ≤ x) (fun x _ hx => Nat.le_trans HB.out.size hx)
  have hb5 := HB.out.trans (HBB.out.mono HB.out.size)
  have hb6 := (hb5.grown g4 hb5.size (fun k hk => by injection hk with hk; omega)).grown g5 (Nat.le_trans hb5.size g4.size) (fun k hk => by injection hk with hk; omega)
  obtain ⟨q0, q1, q2, q3, q4⟩ := Rv.cells5 (blk_grown (Rv.sets5 HR4.out (.int .i64 d.k) (.int .u64 (nb d.k d.n)) (.string d.s) (.slice A5 d.ns.length c5) (.slice A6 d.is.length c6)) g5 (fun e => by injection e with e; omega))
  have q9 := Rv.cells1 (Rv.sets1 (blk_grown HR5.out g4 (fun e => by injection e with e; omega)) (.bool true))
  have HR := Lib.hid (HRR.out _ _ d c9 HEE.out HGG.out hn6 hb6)
  clear gs g4 g5 l4 l5 hn6 hb5 hb6 x0 x1 x2 x3 x4 z0 z1 z2 z3 z4 x9 z9
  generalize ((((((w5.setCell ⟨w.heap.size + 1 + 1, 0, none⟩ (.int .i64 d.k)).setCell ⟨w.heap.size + 1 + 1, 1, none⟩ (.int .u64 (nb d.k d.n))).setCell ⟨w.heap.size + 1 + 1, 2, none⟩ (.string d.s)).setCell ⟨w.heap.size + 1 + 1, 3, none⟩ (.slice A5 d.ns.length c5)).setCell ⟨w.heap.size + 1 + 1, 4, none⟩ (.slice A6 d.is.length c6)).setCell ⟨w.heap.size + 1 + 1 + 1, 0, none⟩ (.bool true)) = W6 at *
  refine leaves_cons (f := 18) (args := #[.pointer (some ⟨w.heap.size + 1 + 1 + 1, 0, none⟩)]) (by simp) (by simp [go_sem]) ?_
  refine (caught_idleM ⟨w.heap.size + 1 + 1 + 1, 0, none⟩ _).mono ?_
  rintro e u' w'' ⟨rfl, rfl, rfl⟩
  simp [Leaves, settle, results, go_sem, q0, q1, q2, q3, q4, q9]
  exact HR.out
end Go.Proofs.YtmelgankbegjaaaGreatDoor.Js

set_option linter.unusedVariables false
set_option linter.unusedSimpArgs false
set_option maxRecDepth 100000
set_option maxHeartbeats 8000000
namespace Go.Proofs.YtmelgankbegjaaaGreatDoor.Js
open Go.RowKit Go.Proofs.YtmelgankbegjaaaGreatDoor.B

theorem list_own (E : Nat → Prop) (t : J) (v : Value) (w : World) (hwf : Wf t) (hE : ∀ x, E x → x < w.heap.size) (hj : JN E w t v) : Calls Tryz.prog 27 #[v] w fun e w' => ∃ A9 c9 hs, e = .returned (.slice A9 (lsJ t).length c9) ∧ w'.ownsRow w.heap.size 26 5 (.slice A9 (lsJ t).length c9) (lsJ t).length (flat hs) ∧ JNs E w' (lsJ t) hs ∧ Below w.heap.size w w' := by
  obtain ⟨A, c, A2, c2, e1, hn, hs, hi, hh⟩ := hj.five
  obtain ⟨hl4, _⟩ := hwf.short
  subst e1
  have hx0 := heap_alloc_new w (.cells #[.int .i64 t.k, .int .i64 t.n, .string t.s, .slice A t.ns.length c, .slice A2 t.is.length c2] 26)
  obtain ⟨y0, y1, y2, y3, y4⟩ := Rv.cells5 hx0
  have hal := (Below.refl w.heap.size w).alloc (Nat.le_refl _) (.cells #[.int .i64 t.k, .int .i64 t.n, .string t.s, .slice A t.ns.length c, .slice A2 t.is.length c2] 26)
  have hsz : (w.alloc (.cells #[.int .i64 t.k, .int .i64 t.n, .string t.s, .slice A t.ns.length c, .slice A2 t.is.length c2] 26)).heap.size = w.heap.size + 1 := by simp
  by_cases hk : t.k = 4
  · have hkb : (t.k == 4) = true := by simp [hk]
    have hal2 : Below w.heap.size w ((w.alloc (.cells #[.int .i64 t.k, .int .i64 t.n, .string t.s, .slice A t.ns.length c, .slice A2 t.is.length c2] 26)).alloc (.cells #[] 26)) := hal.alloc (by omega) _
    have HO := Lib.hid (World.ownsRow_lit (base := w.heap.size) (e := 26) (size := 5) (w.alloc (.cells #[.int .i64 t.k, .int .i64 t.n, .string t.s, .slice A t.ns.length c, .slice A2 t.is.length c2] 26)) #[] 0 (by omega) (by simp [maxLen]) rfl)
    rw [hsz] at HO
    have HR := Lib.hid (hi.1.below hal2)
    have HH := Lib.hid (hh.below hal2)
    have HF := Lib.hid (flat_cells hh)
    have HA2 := Lib.hid hal2
    have hs2 : ((w.alloc (.cells #[.int .i64 t.k, .int .i64 t.n, .string t.s, .slice A t.ns.length c, .slice A2 t.is.length c2] 26)).alloc (.cells #[] 26)).heap.size = w.heap.size + 2 := by simp
    have HK := Lib.hid hk
    clear hal hal2 hx0 hsz hn hi hh hj hk
    go_enter Tryz.func27, Tryz.ntmps27
    go_upto_region 2 with fail
    go_wp2_with (at_builtin; (refine appRs (w0 := (w.alloc (.cells #[.int .i64 t.k, .int .i64 t.n, .string t.s, .slice A t.ns.length c, .slice A2 t.is.length c2] 26)).alloc (.cells #[] 26)) rfl (.tmp 6) (.tmp 8) 24 rfl w.heap.size 26 (.agg #[.int .i64 0, .int .i64 0, .string ⟨#[]⟩, .slice none 0 0, .slice none 0 0]) 5 80 Tryz.underlying24 info26 rfl (by omega) (by omega) _ 0 [] rfl HO.out ((Below.refl _ _)) _ _ _ rfl HR.out HF.out (by omega) (by omega) ?_; intro A9 c9 w9 hown9 hb9 hg9; rw [Nat.zero_add, List.nil_append] at hown9; rw [Nat.zero_add]; have hg9 : ((w.alloc (.cells #[.int .i64 t.k, .int .i64 t.n, .string t.s, .slice A t.ns.length c, .slice A2 t.is.length c2] 26)).alloc (.cells #[] 26)).grownBy w9 (some (w.heap.size + 1)) := hg9; have HO9 := Lib.hid hown9; have HJ9 := Lib.hid ((HH.out.grown hg9 (fun x hx e => by have := hE x hx; injection e with e; omega))); have HB := Lib.hid (HA2.out.grown hg9 HA2.out.size (fun k hk => by injection hk with hk; omega)); clear hown9 hb9 hg9))
    go_ret
    have e1 : lsJ t = t.is := by unfold lsJ; rw [if_pos HK.out]
    rw [e1]
    exact ⟨A9, c9, rfl, hs, HO9.out, HJ9.out, HB.out⟩
  · have hkb : (t.k == 4) = false := by simp [hk]
    have HK := Lib.hid hk
    have hal3 : Below w.heap.size w ((w.alloc (.cells #[.int .i64 t.k, .int .i64 t.n, .string t.s, .slice A t.ns.length c, .slice A2 t.is.length c2] 26)).alloc (.cells #[.int .i64 t.k, .int .i64 t.n, .string t.s, .slice A t.ns.length c, .slice A2 t.is.length c2] 26)) := hal.alloc (by omega) _
    have HB := Lib.hid hal3
    have HO := Lib.hid ((World.ownsRow_lit (base := w.heap.size) (e := 26) (size := 5) (w.alloc (.cells #[.int .i64 t.k, .int .i64 t.n, .string t.s, .slice A t.ns.length c, .slice A2 t.is.length c2] 26)) #[.int .i64 t.k, .int .i64 t.n, .string t.s, .slice A t.ns.length c, .slice A2 t.is.length c2] 1 (by omega) (by simp [maxLen]) rfl))
    rw [hsz] at HO
    have HJ := Lib.hid ((hj.below hal3))
    clear hal hal3 hx0 hsz hn hi hh hj hk
    go_enter Tryz.func27, Tryz.ntmps27
    go_wp2
    go_ret
    have e1 : lsJ t = [t] := by unfold lsJ; rw [if_neg HK.out]
    rw [e1]
    exact ⟨_, _, rfl, [_], by simp only [flat, List.flatMap_cons, List.flatMap_nil, List.append_nil]; exact HO.out, ⟨_, [], rfl, HJ.out, rfl⟩, HB.out⟩

theorem set5 (l1 l2 : List Value) (o0 o1 o2 o3 o4 a0 a1 a2 a3 a4 : Value) : (((((l1 ++ (o0 :: o1 :: o2 :: o3 :: o4 :: l2)).set l1.length a0).set (l1.length + 1) a1).set (l1.length + 2) a2).set (l1.length + 3) a3).set (l1.length + 4) a4 = l1 ++ (a0 :: a1 :: a2 :: a3 :: a4 :: l2) := by
  simp [List.set_append]
/-- The five cells of an item are written: the row reads with that item in its place. -/
theorem own_set5 {W : World} {B g n c : Nat} {l1 l2 : List Value} {o0 o1 o2 o3 o4 : Value} (ho : W.ownsRow B 26 5 (.slice (some ⟨g, 0, none⟩) n c) n (l1 ++ (o0 :: o1 :: o2 :: o3 :: o4 :: l2))) (a0 a1 a2 a3 a4 : Value) (m : Nat) (hm : m = l1.length) :
    (((((W.setCell ⟨g, m, none⟩ a0).setCell ⟨g, m + 1, none⟩ a1).setCell ⟨g, m + 2, none⟩ a2).setCell ⟨g, m + 3, none⟩ a3).setCell ⟨g, m + 4, none⟩ a4).ownsRow B 26 5 (.slice (some ⟨g, 0, none⟩) n c) n (l1 ++ (a0 :: a1 :: a2 :: a3 :: a4 :: l2)) ∧
    (W.frozen? ⟨g, m, none⟩ = false ∧ W.frozen? ⟨g, m + 1, none⟩ = false ∧ W.frozen? ⟨g, m + 2, none⟩ = false ∧ W.frozen? ⟨g, m + 3, none⟩ = false ∧ W.frozen? ⟨g, m + 4, none⟩ = false) ∧
    W.cell? ⟨g, m, none⟩ = some o0 ∧ W.cell? ⟨g, m + 1, none⟩ = some o1 ∧ W.cell? ⟨g, m + 2, none⟩ = some o2 ∧ W.cell? ⟨g, m + 3, none⟩ = some o3 ∧ W.cell? ⟨g, m + 4, none⟩ = some o4 := by
  subst hm
  have hlen := ho.1
  simp only [List.length_append, List.length_cons] at hlen
  have h1 := (((((ho.stored l1.length a0).1.stored (l1.length + 1) a1).1.stored (l1.length + 2) a2).1.stored (l1.length + 3) a3).1.stored (l1.length + 4) a4).1
  rw [set5] at h1
  refine ⟨h1, ⟨ho.frozenAt _, ho.frozenAt _, ho.frozenAt _, ho.frozenAt _, ho.frozenAt _⟩, ?_, ?_, ?_, ?_, ?_⟩
  all_goals
    rw [ho.cellAt _ (by omega), List.getElem?_append_right (by omega)]
    simp
theorem JNs.set {p : Nat → Prop} {W : World} {t : J} {v : Value} : ∀ {ts : List J} {hs : List Value} (i : Nat), JNs p W ts hs → JN p W t v → JNs p W (ts.set i t) (hs.set i v)
  | [], hs, i, h, hx => by
    rw [show hs = [] from h]
    rfl
  | t' :: r, hs, 0, h, hx => by
    obtain ⟨x, hs', rfl, _, h2⟩ := h
    exact ⟨v, hs', rfl, hx, h2⟩
  | t' :: r, hs, i + 1, h, hx => by
    obtain ⟨x, hs', rfl, h1, h2⟩ := h
    exact ⟨x, hs'.set i v, rfl, h1, JNs.set i h2 hx⟩
theorem flat_len5 : ∀ {hs : List Value}, (∀ x ∈ hs, x.cells.size = 5) → (flat hs).length = hs.length * 5
  | [], _ => rfl
  | x :: r, h => by
    show (x.cells.toList ++ flat r).length = _
    rw [List.length_append, Array.length_toList, h x (.head _), flat_len5 (fun y hy => h y (.tail _ hy)), List.length_cons]
    omega
theorem flat_split (hs : List Value) (i : Nat) (hi : i < hs.length) : flat hs = flat (hs.take i) ++ ((hs[i]).cells.toList ++ flat (hs.drop (i + 1))) := by
  have e : hs = hs.take i ++ hs[i] :: hs.drop (i + 1) := by simp
  exact (congrArg flat e).trans (by simp only [flat, List.flatMap_append, List.flatMap_cons])
theorem flat_set (hs : List Value) (i : Nat) (hi : i < hs.length) (v : Value) : flat (hs.set i v) = flat (hs.take i) ++ (v.cells.toList ++ flat (hs.drop (i + 1))) := by
  rw [List.set_eq_take_append_cons_drop, if_pos hi]
  simp [flat]
/-- jsWith: an item in the place of another one. -/
theorem with_any (E : Nat → Prop) (t tx : J) (v vx : Value) (i : Nat) (w : World) (hE : ∀ x, E x → x < w.heap.size) (hj : JN E w t v) (hx : JN E w tx vx) (hi : i < t.is.length) (h8 : t.is.length ≤ 8) :
    Calls Tryz.prog 25 #[v, .int .i64 (i : Int), vx] w fun e w' => ∃ u, e = .returned u ∧ JN (fun x => E x ∨ w.heap.size ≤ x) w' (.mk t.k t.n t.s t.ns (t.is.set i tx)) u ∧ Below w.heap.size w w' := by
  obtain ⟨A, c, A2, c2, rfl, hn, hs, hI, hH⟩ := hj.five
  obtain ⟨C, d, C2, d2, rfl, _⟩ := hx.five
  have hsl := hH.len
  have hX : Below w.heap.size w ((((w.alloc (.cells #[.int .i64 t.k, .int .i64 t.n, .string t.s, .slice A t.ns.length c, .slice A2 t.is.length c2] 26)).alloc (.cells #[.int .i64 tx.k, .int .i64 tx.n, .string tx.s, .slice C tx.ns.length d, .slice C2 tx.is.length d2] 26)).alloc (.cells #[.int .i64 0, .int .i64 0, .string ⟨#[]⟩, .slice none 0 0, .slice none 0 0] 26)).alloc (.cells #[] 26)) := ((((Below.refl _ _).alloc (Nat.le_refl _) _).alloc (by simp) _).alloc (by simp; omega) _).alloc (by simp; omega) _
  have e1 : (w.alloc (.cells #[.int .i64 t.k, .int .i64 t.n, .string t.s, .slice A t.ns.length c, .slice A2 t.is.length c2] 26)).heap.size = w.heap.size + 1 := by simp
  have e2 : ((w.alloc (.cells #[.int .i64 t.k, .int .i64 t.n, .string t.s, .slice A t.ns.length c, .slice A2 t.is.length c2] 26)).alloc (.cells #[.int .i64 tx.k, .int .i64 tx.n, .string tx.s, .slice C tx.ns.length d, .slice C2 tx.is.length d2] 26)).heap.size = w.heap.size + 1 + 1 := by simp
  have e3 : (((w.alloc (.cells #[.int .i64 t.k, .int .i64 t.n, .string t.s, .slice A t.ns.length c, .slice A2 t.is.length c2] 26)).alloc (.cells #[.int .i64 tx.k, .int .i64 tx.n, .string tx.s, .slice C tx.ns.length d, .slice C2 tx.is.length d2] 26)).alloc (.cells #[.int .i64 0, .int .i64 0, .string ⟨#[]⟩, .slice none 0 0, .slice none 0 0] 26)).heap.size = w.heap.size + 1 + 1 + 1 := by simp
  have old : ∀ {W : World} {o x : Obj} {k : Nat}, W.heap[k]? = some x → (W.alloc o).heap[k]? = some x := fun {W o x k} h => (((Below.refl _ _).alloc (Nat.le_refl _) o : Below W.heap.size W (W.alloc o)).block k (Rv.lt_of_blk h)).trans h
  have HA := Lib.hid (old (o := .cells #[] 26) (old (o := .cells #[.int .i64 0, .int .i64 0, .string ⟨#[]⟩, .slice none 0 0, .slice none 0 0] 26) (old (o := (.cells #[.int .i64 tx.k, .int .i64 tx.n, .string tx.s, .slice C tx.ns.length d, .slice C2 tx.is.length d2] 26)) (heap_alloc_new w (.cells #[.int .i64 t.k, .int .i64 t.n, .string t.s, .slice A t.ns.length c, .slice A2 t.is.length c2] 26)))))
  have HB := Lib.hid (old (o := .cells #[] 26) (old (o := .cells #[.int .i64 0, .int .i64 0, .string ⟨#[]⟩, .slice none 0 0, .slice none 0 0] 26) (by have := heap_alloc_new (w.alloc (.cells #[.int .i64 t.k, .int .i64 t.n, .string t.s, .slice A t.ns.length c, .slice A2 t.is.length c2] 26)) (.cells #[.int .i64 tx.k, .int .i64 tx.n, .string tx.s, .slice C tx.ns.length d, .slice C2 tx.is.length d2] 26); rw [e1] at this; exact this)))
  have HC := Lib.hid (old (o := .cells #[] 26) (by have := heap_alloc_new ((w.alloc (.cells #[.int .i64 t.k, .int .i64 t.n, .string t.s, .slice A t.ns.length c, .slice A2 t.is.length c2] 26)).alloc (.cells #[.int .i64 tx.k, .int .i64 tx.n, .string tx.s, .slice C tx.ns.length d, .slice C2 tx.is.length d2] 26)) (.cells #[.int .i64 0, .int .i64 0, .string ⟨#[]⟩, .slice none 0 0, .slice none 0 0] 26); rw [e2] at this; exact this))
  have HO := Lib.hid (World.ownsRow_lit (base := w.heap.size + 3) (e := 26) (size := 5) (((w.alloc (.cells #[.int .i64 t.k, .int .i64 t.n, .string t.s, .slice A t.ns.length c, .slice A2 t.is.length c2] 26)).alloc (.cells #[.int .i64 tx.k, .int .i64 tx.n, .string tx.s, .slice C tx.ns.length d, .slice C2 tx.is.length d2] 26)).alloc (.cells #[.int .i64 0, .int .i64 0, .string ⟨#[]⟩, .slice none 0 0, .slice none 0 0] 26)) #[] 0 (by rw [e3]; omega) (by simp [maxLen]) rfl)
  rw [e3] at HO
  have HX := Lib.hid hX
  have HJ := Lib.hid hj
  have HJX := Lib.hid hx
  have HN := Lib.hid hn
  have HR := Lib.hid (hI.1.below hX)
  have HH := Lib.hid (hH.below hX)
  have HF := Lib.hid (flat_cells hH)
  have HHC := Lib.hid hH.cells
  have HHJ := Lib.hid hH
  have HSL := Lib.hid hsl
  have hsX : w.heap.size + 4 ≤ ((((w.alloc (.cells #[.int .i64 t.k, .int .i64 t.n, .string t.s, .slice A t.ns.length c, .slice A2 t.is.length c2] 26)).alloc (.cells #[.int .i64 tx.k, .int .i64 tx.n, .string tx.s, .slice C tx.ns.length d, .slice C2 tx.is.length d2] 26)).alloc (.cells #[.int .i64 0, .int .i64 0, .string ⟨#[]⟩, .slice none 0 0, .slice none 0 0] 26)).alloc (.cells #[] 26)).heap.size := by simp
  clear hX old e1 e2 e3 hj hx hn hI hH hsl
  go_enter Tryz.func25, Tryz.ntmps25
  obtain ⟨y0, y1, y2, y3, y4⟩ := Rv.cells5 HA.out
  go_upto_region 2 with (at_builtin; go_loud (refine appRs (w0 := ((((w.alloc (.cells #[.int .i64 t.k, .int .i64 t.n, .string t.s, .slice A t.ns.length c, .slice A2 t.is.length c2] 26)).alloc (.cells #[.int .i64 tx.k, .int .i64 tx.n, .string tx.s, .slice C tx.ns.length d, .slice C2 tx.is.length d2] 26)).alloc (.cells #[.int .i64 0, .int .i64 0, .string ⟨#[]⟩, .slice none 0 0, .slice none 0 0] 26)).alloc (.cells #[] 26))) rfl (.tmp 7) (.tmp 9) 24 rfl (w.heap.size + 3) 26 (.agg #[.int .i64 0, .int .i64 0, .string ⟨#[]⟩, .slice none 0 0, .slice none 0 0]) 5 80 Tryz.underlying24 info26 rfl (by omega) (by omega) _ 0 [] rfl HO.out (Below.refl _ _) _ _ _ rfl HR.out HF.out (by omega) (by omega) ?_; intro A9 c9 w9 hown9 hb9 hg9; rw [Nat.zero_add, List.nil_append] at hown9; rw [Nat.zero_add]; have hg9 : ((((w.alloc (.cells #[.int .i64 t.k, .int .i64 t.n, .string t.s, .slice A t.ns.length c, .slice A2 t.is.length c2] 26)).alloc (.cells #[.int .i64 tx.k, .int .i64 tx.n, .string tx.s, .slice C tx.ns.length d, .slice C2 tx.is.length d2] 26)).alloc (.cells #[.int .i64 0, .int .i64 0, .string ⟨#[]⟩, .slice none 0 0, .slice none 0 0] 26)).alloc (.cells #[] 26)).grownBy w9 (some (w.heap.size + 1 + 1 + 1)) := hg9; have HO9 := Lib.hid hown9; have HG9 := Lib.hid hg9; have HA9 := Lib.hid (blk_grown HA.out hg9 (fun e => by injection e with e; omega)); have HB9 := Lib.hid (blk_grown HB.out hg9 (fun e => by injection e with e; omega)); have HC9 := Lib.hid (blk_grown HC.out hg9 (fun e => by injection e with e; omega)); obtain ⟨s0, s1, s2, s3, s4⟩ := Rv.cells5 HA9.out; obtain ⟨z0, z1, z2, z3, z4⟩ := Rv.frozen5 HA9.out; have hs9 := hg9.size; clear hown9 hb9 hg9 y0 y1 y2 y3 y4))
  rcases HO9.out.2 with ⟨hv0, hn0⟩ | ⟨g, cap, cur, hv0, hgB, _⟩
  · omega
  injection hv0 with ha _ hc0
  subst ha
  have HB3 := Lib.hid hgB
  clear hc0 hgB HA HB HC HO HR
  have gs := grown_set (Below.refl _ w9) w.heap.size 4 (.slice (some ⟨g, 0, none⟩) t.is.length c9)
  have HA10 : Hid ((w9.setCell ⟨w.heap.size, 4, none⟩ (.slice (some ⟨g, 0, none⟩) t.is.length c9)).heap[w.heap.size]? = some (.cells #[.int .i64 t.k, .int .i64 t.n, .string t.s, .slice A t.ns.length c, .slice (some ⟨g, 0, none⟩) t.is.length c9] 26 (0, 0))) := Lib.hid (Rv.set_cell1 4 (.slice (some ⟨g, 0, none⟩) t.is.length c9) HA9.out)
  have HB10 := Lib.hid (blk_grown HB9.out gs (fun e => by injection e with e; omega))
  have HC10 := Lib.hid (blk_grown HC9.out gs (fun e => by injection e with e; omega))
  have HO10 := Lib.hid (own_kept HO9.out gs (fun k hk e => by have := (HO9.out.lt k hk).1; injection e with e; omega))
  have HB10W := Lib.hid ((HX.out.grown HG9.out HX.out.size (fun k hk => by injection hk with hk; omega)).grown gs (by have := HX.out.size; omega) (fun k hk => by injection hk with hk; omega))
  have hs10 := gs.size
  clear gs HG9 HX HH HF HA9 HB9 HC9 HO9 s0 s1 s2 s3 s4 z0 z1 z2 z3 z4
  generalize w9.setCell ⟨w.heap.size, 4, none⟩ (.slice (some ⟨g, 0, none⟩) t.is.length c9) = w10 at *
  have hv2 : i < hs.length := by have := HSL.out; omega
  have HJ5 := HJ.out.five
  obtain ⟨o0, o1, o2, o3, o4, eo⟩ : ∃ o0 o1 o2 o3 o4, hs[i] = .agg #[o0, o1, o2, o3, o4] := by
    have h5 := HHC.out hs[i] (List.getElem_mem hv2)
    obtain ⟨A', c', A2', c2', e, _⟩ := (HHJ.out.get i hi hv2).five
    exact ⟨_, _, _, _, _, e⟩
  have ho := HO10.out
  rw [flat_split hs i hv2, eo] at ho
  have hm : i * 5 = (flat (hs.take i)).length := by
    rw [flat_len5 (fun x hx => HHC.out x (List.mem_of_mem_take hx)), List.length_take]
    omega
  obtain ⟨r1, ⟨f0, f1, f2, f3, f4⟩, p0, p1, p2, p3, p4⟩ := own_set5 (l1 := flat (hs.take i)) (l2 := flat (hs.drop (i + 1))) ho (.int .i64 tx.k) (.int .i64 tx.n) (.string tx.s) (.slice C tx.ns.length d) (.slice C2 tx.is.length d2) (i * 5) hm
  have HO15 := Lib.hid r1
  obtain ⟨y0, y1, y2, y3, y4⟩ := Rv.cells5 HA10.out
  obtain ⟨x0, x1, x2, x3, x4⟩ := Rv.cells5 HB10.out
  clear r1 hm ho
  go_upto_region 3 with fail
  have gs := fun (W : World) j u => grown_set (Below.refl _ W) g j u
  have hgg := (grown_then (grown_then (grown_then (grown_then (gs w10 (i * 5) (.int .i64 tx.k)) (gs _ (i * 5 + 1) (.int .i64 tx.n))) (gs _ (i * 5 + 2) (.string tx.s))) (gs _ (i * 5 + 3) (.slice C tx.ns.length d))) (gs _ (i * 5 + 4) (.slice C2 tx.is.length d2)))
  have hgB := HB3.out
  have HA15 := Lib.hid (blk_grown HA10.out hgg (fun e => by injection e with e; omega))
  have HC15 := Lib.hid (blk_grown HC10.out hgg (fun e => by injection e with e; omega))
  have HB15 := Lib.hid (HB10W.out.grown hgg HB10W.out.size (fun k hk => by injection hk with hk; omega))
  clear gs hgg y0 y1 y2 y3 y4 x0 x1 x2 x3 x4 p0 p1 p2 p3 p4 f0 f1 f2 f3 f4 HA10 HB10 HC10 HB10W HO10
  generalize (((((w10.setCell ⟨g, i * 5, none⟩ (.int .i64 tx.k)).setCell ⟨g, i * 5 + 1, none⟩ (.int .i64 tx.n)).setCell ⟨g, i * 5 + 2, none⟩ (.string tx.s)).setCell ⟨g, i * 5 + 3, none⟩ (.slice C tx.ns.length d)).setCell ⟨g, i * 5 + 4, none⟩ (.slice C2 tx.is.length d2)) = w15 at *
  obtain ⟨y0, y1, y2, y3, y4⟩ := Rv.cells5 HA15.out
  obtain ⟨s0, s1, s2, s3, s4⟩ := Rv.cells5 HC15.out
  obtain ⟨z0, z1, z2, z3, z4⟩ := Rv.frozen5 HC15.out
  go_wp2
  have gs := fun (W : World) j u => grown_set (Below.refl _ W) (w.heap.size + 1 + 1) j u
  have hgg := (grown_then (grown_then (grown_then (grown_then (gs w15 0 (.int .i64 t.k)) (gs _ 1 (.int .i64 t.n))) (gs _ 2 (.string t.s))) (gs _ 3 (.slice A t.ns.length c))) (gs _ 4 (.slice (some ⟨g, 0, none⟩) t.is.length c9)))
  have sb : ∀ (V : World) (j : Nat) (u : Value), Below w.heap.size w V → Below w.heap.size w (V.setCell ⟨w.heap.size + 1 + 1, j, none⟩ u) := fun V j u h => h.setCell (by show w.heap.size ≤ w.heap.size + 1 + 1; omega) u
  have hbf := (sb _ 4 (.slice (some ⟨g, 0, none⟩) t.is.length c9) (sb _ 3 (.slice A t.ns.length c) (sb _ 2 (.string t.s) (sb _ 1 (.int .i64 t.n) (sb _ 0 (.int .i64 t.k) HB15.out)))))
  have HOF := own_kept HO15.out hgg (fun k hk e => by have := (HO15.out.lt k hk).1; injection e with e; omega)
  have HJF := Lib.hid (show JN (fun x => E x ∨ w.heap.size ≤ x) _ (.mk t.k t.n t.s t.ns (t.is.set i tx)) (.agg #[.int .i64 t.k, .int .i64 t.n, .string t.s, .slice A t.ns.length c, .slice (some ⟨g, 0, none⟩) t.is.length c9]) from
    ⟨A, c, some ⟨g, 0, none⟩, c9, hs.set i (.agg #[.int .i64 tx.k, .int .i64 tx.n, .string tx.s, .slice C tx.ns.length d, .slice C2 tx.is.length d2]), by rw [List.length_set], (HN.out.below hbf).weak (fun x _ hx => .inl hx), by
      rw [List.length_set, flat_set hs i hv2]
      exact (Rp.own HOF).weak (fun x _ hx => .inr (by have := hx.1; omega)), ((HHJ.out.set i HJX.out).below hbf).weak (fun x _ hx => .inl hx)⟩)
  have HBF := Lib.hid hbf
  obtain ⟨q0, q1, q2, q3, q4⟩ := Rv.cells5 (Rv.sets5 HC15.out (.int .i64 t.k) (.int .i64 t.n) (.string t.s) (.slice A t.ns.length c) (.slice (some ⟨g, 0, none⟩) t.is.length c9))
  clear y0 y1 y2 y3 y4 s0 s1 s2 s3 s4 z0 z1 z2 z3 z4 gs hgg sb hbf HOF
  refine bodyPost_ret (v := .agg #[.int .i64 t.k, .int .i64 t.n, .string t.s, .slice A t.ns.length c, .slice (some ⟨g, 0, none⟩) t.is.length c9]) ?_ rfl ⟨_, rfl, HJF.out, HBF.out⟩
  simp only [results, show Tryz.f25.results = #[.cell 6 26] by kernel_rfl]
  go_simp
end Go.Proofs.YtmelgankbegjaaaGreatDoor.Js

set_option linter.unusedVariables false
set_option linter.unusedSimpArgs false
set_option maxRecDepth 100000
set_option maxHeartbeats 8000000
namespace Go.Proofs.YtmelgankbegjaaaGreatDoor.Js
open Go.RowKit Go.Proofs.YtmelgankbegjaaaGreatDoor.B

theorem old_blk {w : World} {o : Obj} {k : Nat} {x : Obj} (h : w.heap[k]? = some x) : (w.alloc o).heap[k]? = some x := (((Below.refl _ _).alloc (Nat.le_refl _) o : Below w.heap.size w (w.alloc o)).block k (Rv.lt_of_blk h)).trans h
end Go.Proofs.YtmelgankbegjaaaGreatDoor.Js

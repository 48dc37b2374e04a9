/- The law FnJSMerge. Conditions: those written at each lemma. -/
import Derived.Test.YtmelgankbegjaaaJi
import Derived.Test.YtmelgankbegjaaaLl
import Derived.Test.YtmelgankbegjaaaMj
import Derived.Test.YtmelgankbegjaaaMr
set_option linter.unusedVariables false
set_option linter.unusedSimpArgs false
set_option maxRecDepth 100000
set_option maxHeartbeats 8000000
namespace Go.Proofs.Ytmelgankbegjaaa.Js
open Go.RowKit Go.Proofs.Ytmelgankbegjaaa.B

/-- What the call answers and the variable's place: what the answer holds lies elsewhere. -/
def Mj (t1 t2 : J) (L : Nat → Bool) (f : Nat → Value) (W : World) : Prop :=
  (L 8 = true → ∃ g : Nat, f 8 = .pointer (some ⟨g, 0, none⟩) ∧ g < W.heap.size) ∧
  (L 4 = true → ∃ (v : Value) (c d : J), f 4 = .tuple #[v, .bool true] ∧ Mg t1 t2 c ∧ eqJ d c = true ∧ Wg d ∧ NN (fun _ => True) W d v ∧ (L 8 = true → NN (fun x => f 8 ≠ .pointer (some ⟨x, 0, none⟩)) W d v))
section
variable {t1 t2 : J} {L : Nat → Bool} {f : Nat → Value} {W W' : World}
theorem Mj.loc {n : Nat} (hn : 8 < n) (L L' : Nat → Bool) (f f' : Nat → Value) (w : World) (h1 : ∀ k, k < n → L k = L' k) (h2 : ∀ k, k < n → f k = f' k) (h : Mj t1 t2 L f w) : Mj t1 t2 L' f' w := by
  unfold Mj at *
  rw [← h1 8 hn, ← h1 4 (by omega), ← h2 8 hn, ← h2 4 (by omega)]
  exact h
theorem Mj.keep {i : Nat} (h4 : i ≠ 4) (h8 : i ≠ 8) (v : Value) (hb : Below W.heap.size W W') (h : Mj t1 t2 L f W) : Mj t1 t2 (Rv.put L i) (Rv.upd f i v) W' := by
  unfold Mj Rv.put Rv.upd at *
  rw [if_neg (Ne.symm h4), if_neg (Ne.symm h8), if_neg (Ne.symm h4), if_neg (Ne.symm h8)]
  refine ⟨fun hl => ?_, fun hl => ?_⟩
  · obtain ⟨g, a, b⟩ := h.1 hl
    exact ⟨g, a, Nat.lt_of_lt_of_le b hb.size⟩
  · obtain ⟨v, c, d, q1, q2, q3, q4, q5, q6⟩ := h.2 hl
    exact ⟨v, c, d, q1, q2, q3, q4, q5.below hb, fun h => (q6 h).below hb⟩
theorem Mj.call {u : Value} {c d : J} (hb : Below W.heap.size W W') (h1 : Mg t1 t2 c) (h2 : eqJ d c = true) (h3 : Wg d) (h4 : NN (fun x => W.heap.size ≤ x) W' d u) (h : Mj t1 t2 L f W) : Mj t1 t2 (Rv.put L 4) (Rv.upd f 4 (.tuple #[u, .bool true])) W' := by
  unfold Mj Rv.put Rv.upd at *
  rw [if_neg (by decide : ¬ (8 = 4)), if_neg (by decide : ¬ (8 = 4)), if_pos rfl, if_pos rfl]
  refine ⟨fun hl => ?_, fun _ => ⟨u, c, d, rfl, h1, h2, h3, h4.weak (fun _ _ _ => trivial), fun hl => ?_⟩⟩
  · obtain ⟨g, a, b⟩ := h.1 hl
    exact ⟨g, a, Nat.lt_of_lt_of_le b hb.size⟩
  · obtain ⟨g, a, b⟩ := h.1 hl
    refine h4.weak (fun x _ hx e => ?_)
    rw [a] at e
    injection e with e
    injection e with e
    injection e with e
    omega
theorem Mj.new (hb : Below W.heap.size W W') (hs : W.heap.size < W'.heap.size) (h : Mj t1 t2 L f W) : Mj t1 t2 (Rv.put L 8) (Rv.upd f 8 (.pointer (some ⟨W.heap.size, 0, none⟩))) W' := by
  unfold Mj Rv.put Rv.upd at *
  rw [if_neg (by decide : ¬ (4 = 8)), if_neg (by decide : ¬ (4 = 8)), if_pos rfl, if_pos rfl]
  refine ⟨fun _ => ⟨_, rfl, hs⟩, fun hl => ?_⟩
  obtain ⟨v, c, d, q1, q2, q3, q4, q5, q6⟩ := h.2 hl
  refine ⟨v, c, d, q1, q2, q3, q4, q5.below hb, fun _ => (q5.weak (q := fun x => Value.pointer (some ⟨W.heap.size, 0, none⟩) ≠ .pointer (some ⟨x, 0, none⟩)) (fun x hx _ e => ?_)).below hb⟩
  injection e with e
  injection e with e
  injection e with e
  omega
theorem Mj.store {i : Nat} {c d : J} {u : Value} (h4 : i ≠ 4) (h8 : i ≠ 8) (v : Value) (hs : W.heap.size ≤ W'.heap.size) (he : f 4 = .tuple #[u, .bool true]) (h1 : Mg t1 t2 c) (h2 : eqJ d c = true) (h3 : Wg d) (hn : NN (fun x => f 8 ≠ .pointer (some ⟨x, 0, none⟩)) W' d u) (h : Mj t1 t2 L f W) : Mj t1 t2 (Rv.put L i) (Rv.upd f i v) W' := by
  unfold Mj Rv.put Rv.upd at *
  rw [if_neg (Ne.symm h4), if_neg (Ne.symm h8), if_neg (Ne.symm h4), if_neg (Ne.symm h8)]
  refine ⟨fun hl => ?_, fun hl => ⟨u, c, d, he, h1, h2, h3, hn.weak (fun _ _ _ => trivial), fun _ => hn⟩⟩
  obtain ⟨g, a, b⟩ := h.1 hl
  exact ⟨g, a, Nat.lt_of_lt_of_le b hs⟩
end
theorem law5_any (A : Option Addr) (la ca : Nat) (za : List Int) (B : Option Addr) (lb cb : Nat) (zb : List Int) (w : World) (ha : IsRow .u8 w A la ca za) (hb : IsRow .u8 w B lb cb zb) :
    Calls Try.prog 5 #[.slice A la ca, .slice B lb cb] w fun e w' => e = .returned (.bool true) ∧ Below w.heap.size w w' := by
  have ba := ha.rd.1.le
  have bb := hb.rd.1.le
  by_cases sa : la ≤ 2147483647
  case neg =>
    go_enter Try.func5, Try.ntmps5
    go_wp2
    go_ret
    exact ⟨rfl, Below.refl _ _⟩
  by_cases sb : lb ≤ 2147483647
  case neg =>
    go_enter Try.func5, Try.ntmps5
    go_wp2
    go_ret
    exact ⟨rfl, Below.refl _ _⟩
  have ra := ha.rd
  have rb := hb.rd
  have u8 : ∀ z : Int, (Lit.int .u8 z).wf = true → 0 ≤ z ∧ z ≤ 255 := fun z h => bounds_u8 h
  have OA := Lib.hid (of_any w A la ca (za.take la) ra.1 (fun z hz => u8 z (ra.2 z (List.mem_of_mem_take hz))))
  have OB := Lib.hid (fun (W : World) (h : Below w.heap.size w W) => of_any W B lb cb (zb.take lb) (rb.1.below h) (fun z hz => u8 z (rb.2 z (List.mem_of_mem_take hz))))
  clear ra rb u8 ha hb
  go_enter Try.func5, Try.ntmps5
  go_upto_region 4 with (first
    | (go_at_call 6; (with_reducible refine OA.out.mono ?_); rintro e w1 ⟨v1, t1, rfl, hw, hj, hb⟩; obtain ⟨A1, c1, B1, d1, rfl, _⟩ := hj.five; have HJ1 := Lib.hid hj; have HW1 := Lib.hid hw; have HB1 := Lib.hid hb; clear hw hj hb)
    | (go_at_call 6; (with_reducible refine (OB.out w1 HB1.out).mono ?_); rintro e w2 ⟨v2, t2, rfl, hw, hj, hb⟩; obtain ⟨A2, c2, B2, d2, rfl, _⟩ := hj.five; have HJ2 := Lib.hid hj; have HW2 := Lib.hid hw; have HB2 := Lib.hid (HB1.out.trans (hb.mono HB1.out.size)); have HJ12 := Lib.hid (HJ1.out.below hb); clear hw hj hb))
  have hba := (Below.refl w2.heap.size w2).alloc (Nat.le_refl _) (.cells #[.int .i64 t1.k, .int .i64 t1.n, .string t1.s, .slice A1 t1.ns.length c1, .slice B1 t1.is.length d1] 26)
  have hbb := (Below.refl (w2.alloc (.cells #[.int .i64 t1.k, .int .i64 t1.n, .string t1.s, .slice A1 t1.ns.length c1, .slice B1 t1.is.length d1] 26)).heap.size (w2.alloc (.cells #[.int .i64 t1.k, .int .i64 t1.n, .string t1.s, .slice A1 t1.ns.length c1, .slice B1 t1.is.length d1] 26))).alloc (Nat.le_refl _) (.cells #[.int .i64 t2.k, .int .i64 t2.n, .string t2.s, .slice A2 t2.ns.length c2, .slice B2 t2.is.length d2] 26)
  have hn1 := heap_alloc_new w2 (.cells #[.int .i64 t1.k, .int .i64 t1.n, .string t1.s, .slice A1 t1.ns.length c1, .slice B1 t1.is.length d1] 26)
  have hsz1 : (w2.alloc (.cells #[.int .i64 t1.k, .int .i64 t1.n, .string t1.s, .slice A1 t1.ns.length c1, .slice B1 t1.is.length d1] 26)).heap.size = w2.heap.size + 1 := by simp
  have hn2 := heap_alloc_new (w2.alloc (.cells #[.int .i64 t1.k, .int .i64 t1.n, .string t1.s, .slice A1 t1.ns.length c1, .slice B1 t1.is.length d1] 26)) (.cells #[.int .i64 t2.k, .int .i64 t2.n, .string t2.s, .slice A2 t2.ns.length c2, .slice B2 t2.is.length d2] 26)
  have hXB := hba.trans (hbb.mono hba.size)
  have HG1 := Lib.hid ((hbb.block _ (Rv.lt_of_blk hn1)).trans hn1)
  rw [hsz1] at hn2
  have HG2 := Lib.hid hn2
  have HJ1 := Lib.hid (HJ12.out.below hXB)
  have HJ2 := Lib.hid (HJ2.out.below hXB)
  have HXW := Lib.hid (HB2.out.trans (hXB.mono HB2.out.size))
  clear hba hbb hn1 hsz1 hn2 hXB HJ12 HB1 HB2 OA OB
  generalize (w2.alloc (.cells #[.int .i64 t1.k, .int .i64 t1.n, .string t1.s, .slice A1 t1.ns.length c1, .slice B1 t1.is.length d1] 26)).alloc (.cells #[.int .i64 t2.k, .int .i64 t2.n, .string t2.s, .slice A2 t2.ns.length c2, .slice B2 t2.is.length d2] 26) = X at *
  have hg1 := Rv.lt_of_blk HG1.out
  have hg2 := Rv.lt_of_blk HG2.out
  generalize w2.heap.size + 1 = g2 at *
  generalize w2.heap.size = g1 at *
  refine Rv.region_fin (n := 37) (by kernel_rfl) #[22, 23, 24, 25, 26, 21, 27, 28, 7, 1009, 8] #[] (fun i f W => if i = 9 then (fun f W => ∃ (g : Nat) (c d : J) (Y1 : Option Addr) (e1 : Nat) (Y2 : Option Addr) (e2 : Nat), f 8 = .pointer (some ⟨g, 0, none⟩) ∧ X.heap.size ≤ g ∧ Mg t1 t2 c ∧ eqJ d c = true ∧ Wg d ∧ NN (fun _ => True) W d (.agg #[.int .i64 d.k, .int .u64 (nb d.k d.n), .string d.s, .slice Y1 d.ns.length e1, .slice Y2 d.is.length e2]) ∧ W.heap[g]? = some (.cells #[.int .i64 d.k, .int .u64 (nb d.k d.n), .string d.s, .slice Y1 d.ns.length e1, .slice Y2 d.is.length e2] 32 (0, 0))) f W else if i = 8 then (fun f W => ∃ g : Nat, f 8 = .pointer (some ⟨g, 0, none⟩) ∧ W.heap[g]? = some nz ∧ X.heap.size ≤ g) f W else if i = 6 then (fun f W => f 5 = .tuple #[f 6, .bool true]) f W else if i = 5 then (fun f W => ∃ v : Value, f 5 = .tuple #[v, .bool true] ∧ f 4 = .tuple #[v, .bool true]) f W else if i = 4 then (fun f W => ∃ v : Value, f 4 = .tuple #[v, .bool true]) f W else if i = 3 then (fun f W => NN (fun _ => True) W t2 (f 3)) f W else if i = 1 then (fun f W => NN (fun _ => True) W t1 (f 1)) f W else f i = (#[.agg #[.int .i64 t1.k, .int .i64 t1.n, .string t1.s, .slice A1 t1.ns.length c1, .slice B1 t1.is.length d1], undef, .agg #[.int .i64 t2.k, .int .i64 t2.n, .string t2.s, .slice A2 t2.ns.length c2, .slice B2 t2.is.length d2], undef, undef, undef, undef, .bool true, undef, undef, .bool true] : Array Value).getD i undef) (fun i j => (i == 9 && (j == 1 || j == 3 || j == 8))) (fun i => i == 9) (fun i f W W' => True) (fun W => Below X.heap.size X W) (fun _ => True) (Mj t1 t2) (Mj.loc (by show 8 < 11; omega)) (fun i f f' w hi h hd hg => ?_) (fun i j f w w' hi hj hij hK hdp h hr => ?_) (fun i h g b hg => ?_) rfl (by kernel_rfl) (fun i h g b hg => ?_) ((Below.refl _ _).drew) (trivial) (fun f => ⟨fun h => (by cases h), fun h => (by cases h)⟩) (fun i h hr f w hf => ?_) (fun i h hr => absurd hr (Rv.allrun (by kernel_rfl) i h)) ?_ ?_
  · by_cases hi1009 : i = 9
    · subst hi1009
      rw [if_pos rfl] at hg ⊢
      obtain ⟨g, c, d, Y1, e1, Y2, e2, q1, q2⟩ := hg
      exact ⟨g, c, d, Y1, e1, Y2, e2, (hd 8 rfl).symm.trans q1, q2⟩
    rw [if_neg hi1009] at hg ⊢
    by_cases hi7 : i = 8
    · subst hi7
      rw [if_pos rfl] at hg ⊢
      obtain ⟨g, q1, q2⟩ := hg
      exact ⟨g, h.symm.trans q1, q2⟩
    rw [if_neg hi7] at hg ⊢
    by_cases hi27 : i = 6
    · subst hi27
      rw [if_pos rfl] at hg ⊢
      have hz : f 5 = .tuple #[f 6, .bool true] := hg
      rw [hd 5 rfl, h] at hz
      exact hz
    rw [if_neg hi27] at hg ⊢
    by_cases hi21 : i = 5
    · subst hi21
      rw [if_pos rfl] at hg ⊢
      obtain ⟨v, q, q2⟩ := hg
      exact ⟨v, h.symm.trans q, (hd 4 rfl).symm.trans q2⟩
    rw [if_neg hi21] at hg ⊢
    by_cases hi26 : i = 4
    · subst hi26
      rw [if_pos rfl] at hg ⊢
      obtain ⟨v, q⟩ := hg
      exact ⟨v, h.symm.trans q⟩
    rw [if_neg hi26] at hg ⊢
    by_cases hi25 : i = 3
    · subst hi25
      rw [if_pos rfl] at hg ⊢
      have hz := hg
      rw [h] at hz
      exact hz
    rw [if_neg hi25] at hg ⊢
    by_cases hi23 : i = 1
    · subst hi23
      rw [if_pos rfl] at hg ⊢
      have hz := hg
      rw [h] at hz
      exact hz
    rw [if_neg hi23] at hg ⊢
    rw [← h]; exact hg
  · by_cases hj1009 : j = 9
    · subst hj1009
      rw [if_pos rfl] at h ⊢
      rcases hr with ⟨hK1, hr⟩ | hr
      · have e : i = 9 := by simpa using hK1
        exact absurd e hij
      · obtain ⟨g, c, d, Y1, e1, Y2, e2, q1, q2, q3, q4, q5, q6, q7⟩ := h
        exact ⟨g, c, d, Y1, e1, Y2, e2, q1, q2, q3, q4, q5, q6.below hr, (hr.block _ (Rv.lt_of_blk q7)).trans q7⟩
    rw [if_neg hj1009] at h ⊢
    by_cases hj7 : j = 8
    · subst hj7
      rw [if_pos rfl] at h ⊢
      rcases hr with ⟨hK1, hr⟩ | hr
      · have e : i = 9 := by simpa using hK1
        subst e; exfalso; revert hK; decide
      · obtain ⟨g, e, h1, h2⟩ := h
        exact ⟨g, e, (hr.block _ (Rv.lt_of_blk h1)).trans h1, h2⟩
    rw [if_neg hj7] at h ⊢
    by_cases hj27 : j = 6
    · subst hj27
      rw [if_pos rfl] at h ⊢
      exact h
    rw [if_neg hj27] at h ⊢
    by_cases hj21 : j = 5
    · subst hj21
      rw [if_pos rfl] at h ⊢
      exact h
    rw [if_neg hj21] at h ⊢
    by_cases hj26 : j = 4
    · subst hj26
      rw [if_pos rfl] at h ⊢
      exact h
    rw [if_neg hj26] at h ⊢
    by_cases hj25 : j = 3
    · subst hj25
      rw [if_pos rfl] at h ⊢
      rcases hr with ⟨hK1, hr⟩ | hr
      · have e : i = 9 := by simpa using hK1
        subst e; exfalso; revert hK; decide
      · exact h.below hr
    rw [if_neg hj25] at h ⊢
    by_cases hj23 : j = 1
    · subst hj23
      rw [if_pos rfl] at h ⊢
      rcases hr with ⟨hK1, hr⟩ | hr
      · have e : i = 9 := by simpa using hK1
        subst e; exfalso; revert hK; decide
      · exact h.below hr
    rw [if_neg hj23] at h ⊢
    exact h
  · match i, h, hg with
    | 0, _, hg => cases hg
    | 1, _, hg => cases hg
    | 2, _, hg => cases hg
    | 3, _, hg => cases hg
    | 4, _, hg => cases hg
    | 5, _, hg => cases hg
    | 6, _, hg => cases hg
    | 7, _, hg => cases hg
    | 8, _, hg => cases hg
    | 9, _, hg => cases hg
    | 10, _, hg => cases hg
    | m + 11, h, _ => exact absurd h (by show ¬ m + 11 < 11; omega)
  · match i, h, hg with
    | 0, _, hg => cases hg
    | 1, _, hg => cases hg
    | 2, _, hg => cases hg
    | 3, _, hg => cases hg
    | 4, _, hg => cases hg
    | 5, _, hg => cases hg
    | 6, _, hg => cases hg
    | 7, _, hg => cases hg
    | 8, _, hg => cases hg
    | 9, _, hg => cases hg
    | 10, _, hg => cases hg
    | m + 11, h, _ => exact absurd h (by show ¬ m + 11 < 11; omega)
  · match i, h, hr, hf with
    | 0, _, hr, _ => exact Bool.noConfusion (show true = false from hr)
    | 1, _, hr, _ => exact Bool.noConfusion (show true = false from hr)
    | 2, _, hr, _ => exact Bool.noConfusion (show true = false from hr)
    | 3, _, hr, _ => exact Bool.noConfusion (show true = false from hr)
    | 4, _, hr, _ => exact Bool.noConfusion (show true = false from hr)
    | 5, _, hr, _ => exact Bool.noConfusion (show true = false from hr)
    | 6, _, hr, _ => exact Bool.noConfusion (show true = false from hr)
    | 7, _, hr, _ => exact Bool.noConfusion (show true = false from hr)
    | 8, _, hr, _ => exact Bool.noConfusion (show true = false from hr)
    | 9, _, hr, _ => exact Bool.noConfusion (show true = false from hr)
    | 10, _, hr, _ => exact Bool.noConfusion (show true = false from hr)
    | m + 11, h, _, _ => exact absurd h (by show ¬ m + 11 < 11; omega)
  · intro i h a W hrun hbase hpre hdep htr hta hJ
    match i, h with
    | 0, _ =>
      obtain ⟨e5, x5⟩ := Rv.ev (show a.tmps.getD 5 undef = .pointer (some ⟨g1, 0, none⟩) from hbase 5 rfl)
      obtain ⟨y0, y1, y2, y3, y4⟩ := Rv.cells5 ((htr.block _ hg1).trans HG1.out)
      exact Rv.step_op (op := Go.Op.load 26 (Go.Operand.tmp 5)) (v := .agg #[.int .i64 t1.k, .int .i64 t1.n, .string t1.s, .slice A1 t1.ns.length c1, .slice B1 t1.is.length d1]) (w1 := W) rfl rfl (fun d pos aft g => by unfold execOp; go_simp) ⟨_, rfl, rfl, .inr (Below.refl _ _), htr, fun _ ht => ht, fun L _ hJ => Mj.keep (by decide) (by decide) _ (Below.refl _ _) hJ⟩
    | 1, _ =>
      obtain ⟨e22, x22⟩ := Rv.ev (show a.tmps.getD 22 undef = .agg #[.int .i64 t1.k, .int .i64 t1.n, .string t1.s, .slice A1 t1.ns.length c1, .slice B1 t1.is.length d1] from hdep 0 rfl rfl)
      have cf : ∀ x0 W, (callFunc 8 #[x0]).run Try.prog W = .ok (.enter 8 #[x0]) W := fun _ _ => by kernel_rfl
      refine Rv.step_fn (op := Go.Op.call { callee := Go.Callee.value (Go.Operand.func 8), args := #[Go.Operand.tmp 22], argTypes := #[26] }) (ty := 32) (f := 8) (args := #[.agg #[.int .i64 t1.k, .int .i64 t1.n, .string t1.s, .slice A1 t1.ns.length c1, .slice B1 t1.is.length d1]]) (R := fun v W' => (NN (fun _ => True) W' t1 v) ∧ Below W.heap.size W W') rfl rfl (fun d pos aft g => by unfold execOp; go_simp) ((in_any t1 _ _ W HW1.out (HJ1.out.below htr)).mono ?_) ?_
      · (rintro e W' ⟨u, rfl, hu, hb⟩; exact ⟨_, rfl, hu.weak (fun _ _ _ => trivial), hb⟩)
      · (rintro v W' ⟨hv, hb⟩; exact ⟨_, rfl, hv, .inr hb, htr.trans (hb.mono htr.size), fun _ ht => trivial, fun L _ hJ => Mj.keep (by decide) (by decide) _ hb hJ⟩)
    | 2, _ =>
      obtain ⟨e6, x6⟩ := Rv.ev (show a.tmps.getD 6 undef = .pointer (some ⟨g2, 0, none⟩) from hbase 6 rfl)
      obtain ⟨x0, x1, x2, x3, x4⟩ := Rv.cells5 ((htr.block _ hg2).trans HG2.out)
      exact Rv.step_op (op := Go.Op.load 26 (Go.Operand.tmp 6)) (v := .agg #[.int .i64 t2.k, .int .i64 t2.n, .string t2.s, .slice A2 t2.ns.length c2, .slice B2 t2.is.length d2]) (w1 := W) rfl rfl (fun d pos aft g => by unfold execOp; go_simp) ⟨_, rfl, rfl, .inr (Below.refl _ _), htr, fun _ ht => ht, fun L _ hJ => Mj.keep (by decide) (by decide) _ (Below.refl _ _) hJ⟩
    | 3, _ =>
      obtain ⟨e24, x24⟩ := Rv.ev (show a.tmps.getD 24 undef = .agg #[.int .i64 t2.k, .int .i64 t2.n, .string t2.s, .slice A2 t2.ns.length c2, .slice B2 t2.is.length d2] from hdep 2 rfl rfl)
      have cf : ∀ x0 W, (callFunc 8 #[x0]).run Try.prog W = .ok (.enter 8 #[x0]) W := fun _ _ => by kernel_rfl
      refine Rv.step_fn (op := Go.Op.call { callee := Go.Callee.value (Go.Operand.func 8), args := #[Go.Operand.tmp 24], argTypes := #[26] }) (ty := 32) (f := 8) (args := #[.agg #[.int .i64 t2.k, .int .i64 t2.n, .string t2.s, .slice A2 t2.ns.length c2, .slice B2 t2.is.length d2]]) (R := fun v W' => (NN (fun _ => True) W' t2 v) ∧ Below W.heap.size W W') rfl rfl (fun d pos aft g => by unfold execOp; go_simp) ((in_any t2 _ _ W HW2.out (HJ2.out.below htr)).mono ?_) ?_
      · (rintro e W' ⟨u, rfl, hu, hb⟩; exact ⟨_, rfl, hu.weak (fun _ _ _ => trivial), hb⟩)
      · (rintro v W' ⟨hv, hb⟩; exact ⟨_, rfl, hv, .inr hb, htr.trans (hb.mono htr.size), fun _ ht => trivial, fun L _ hJ => Mj.keep (by decide) (by decide) _ hb hJ⟩)
    | 4, _ =>
      have n23 : NN (fun _ => True) W t1 (a.tmps.getD 23 undef) := hdep 1 rfl rfl
      obtain ⟨v23, q23⟩ : ∃ v, a.tmps.getD 23 undef = v := ⟨_, rfl⟩
      rw [q23] at n23
      obtain ⟨e23, x23⟩ := Rv.ev q23
      have n25 : NN (fun _ => True) W t2 (a.tmps.getD 25 undef) := hdep 3 rfl rfl
      obtain ⟨v25, q25⟩ : ∃ v, a.tmps.getD 25 undef = v := ⟨_, rfl⟩
      rw [q25] at n25
      obtain ⟨e25, x25⟩ := Rv.ev q25
      have cf : ∀ x0 x1 x2 W, (callFunc 11 #[x0, x1, x2]).run Try.prog W = .ok (.enter 11 #[x0, x1, x2]) W := fun _ _ _ _ => by kernel_rfl
      refine Rv.step_fn (op := Go.Op.call { callee := Go.Callee.value (Go.Operand.func 11), args := #[Go.Operand.const (Go.Value.bool false), Go.Operand.tmp 23, Go.Operand.tmp 25], argTypes := #[4, 32, 32] }) (ty := 38) (f := 11) (args := #[.bool false, v23, v25]) (R := fun v W' => (∃ u c d, v = .tuple #[u, .bool true] ∧ Mg t1 t2 c ∧ eqJ d c = true ∧ Wg d ∧ NN (fun x => W.heap.size ≤ x) W' d u) ∧ Below W.heap.size W W') rfl rfl (fun d pos aft g => by unfold execOp; go_simp) ((jsmg_any t1 t2 _ _ v23 v25 W HW1.out HW2.out n23 n25).mono ?_) ?_
      · (rintro e W' ⟨u, c, d, rfl, h1, h2, h3, h4, hb⟩; exact ⟨_, rfl, ⟨u, c, d, rfl, h1, h2, h3, h4⟩, hb⟩)
      · (rintro v W' ⟨⟨u, c, d, rfl, h1, h2, h3, h4⟩, hb⟩; exact ⟨_, rfl, ⟨u, rfl⟩, .inr hb, htr.trans (hb.mono htr.size), fun _ ht => trivial, fun L _ hJ => Mj.call hb h1 h2 h3 h4 hJ⟩)
    | 5, _ =>
      obtain ⟨u26, q26⟩ : ∃ v : Value, a.tmps.getD 26 undef = .tuple #[v, .bool true] := hdep 4 rfl rfl
      obtain ⟨e26, x26⟩ := Rv.ev q26
      exact Rv.step_op (op := Go.Op.move (Go.Operand.tmp 26)) (ty := 38) (v := .tuple #[u26, .bool true]) (w1 := W) rfl rfl (fun d pos aft g => by unfold execOp; go_simp) ⟨_, rfl, ⟨u26, rfl, q26⟩, .inr (Below.refl _ _), htr, (fun _ ht => ht), fun L _ hJ => Mj.keep (by decide) (by decide) _ (Below.refl _ _) hJ⟩
    | 6, _ =>
      obtain ⟨u21, q21, q21'⟩ : ∃ v : Value, a.tmps.getD 21 undef = .tuple #[v, .bool true] ∧ a.tmps.getD 26 undef = .tuple #[v, .bool true] := hdep 5 rfl rfl
      obtain ⟨e21, x21⟩ := Rv.ev q21
      exact Rv.step_op (op := Go.Op.extract (Go.Operand.tmp 21) 0) (ty := 32) (v := u21) (w1 := W) rfl rfl (fun d pos aft g => by unfold execOp; go_simp) ⟨_, rfl, q21, .inr (Below.refl _ _), htr, (fun _ ht => ht), fun L _ hJ => Mj.keep (by decide) (by decide) _ (Below.refl _ _) hJ⟩
    | 7, _ =>
      obtain ⟨u21, q21, q21'⟩ : ∃ v : Value, a.tmps.getD 21 undef = .tuple #[v, .bool true] ∧ a.tmps.getD 26 undef = .tuple #[v, .bool true] := hdep 5 rfl rfl
      obtain ⟨e21, x21⟩ := Rv.ev q21
      exact Rv.step_op (op := Go.Op.extract (Go.Operand.tmp 21) 1) (v := .bool true) (w1 := W) rfl rfl (fun d pos aft g => by unfold execOp; go_simp) ⟨_, rfl, rfl, .inr (Below.refl _ _), htr, fun _ ht => ht, fun L _ hJ => Mj.keep (by decide) (by decide) _ (Below.refl _ _) hJ⟩
    | 8, _ =>
      have hal : Below W.heap.size W (W.alloc nz) := (Below.refl _ _).alloc (Nat.le_refl _) _
      exact Rv.step_op (op := Go.Op.alloc 32) (ty := 0) (v := .pointer (some ⟨W.heap.size, 0, none⟩)) (w1 := W.alloc nz) rfl rfl (fun d pos aft g => by unfold execOp; go_simp) ⟨_, rfl, ⟨W.heap.size, rfl, heap_alloc_new W _, htr.size⟩, .inr hal, htr.trans (hal.mono htr.size), (fun _ ht => ht), fun L _ hJ => Mj.new hal (by simp) hJ⟩
    | 9, _ =>
      obtain ⟨g, q7, k7, h7⟩ : ∃ g : Nat, a.tmps.getD 7 undef = .pointer (some ⟨g, 0, none⟩) ∧ W.heap[g]? = some nz ∧ X.heap.size ≤ g := hdep 8 rfl rfl
      obtain ⟨e7, x7⟩ := Rv.ev q7
      have n27 : a.tmps.getD 21 undef = .tuple #[a.tmps.getD 27 undef, .bool true] := hdep 6 rfl rfl
      obtain ⟨u21, q21, q21'⟩ : ∃ v : Value, a.tmps.getD 21 undef = .tuple #[v, .bool true] ∧ a.tmps.getD 26 undef = .tuple #[v, .bool true] := hdep 5 rfl rfl
      obtain ⟨L, hL, hLd, hj0⟩ := hJ
      obtain ⟨g', qg, hgl⟩ := hj0.1 (hLd 8 rfl)
      obtain ⟨v4, c, d, q4, m1, m2, m3, m4, m5⟩ := hj0.2 (hLd 4 rfl)
      have m6 := m5 (hLd 8 rfl)
      have q4 : a.tmps.getD 26 undef = .tuple #[v4, .bool true] := q4
      have q8 : a.tmps.getD 7 undef = .pointer (some ⟨g, 0, none⟩) := q7
      have ev : v4 = a.tmps.getD 27 undef := by rw [n27] at q21; rw [q21'] at q4; injection q4 with q4; injection q4 with q4; injection q21 with q21; injection q21 with q21; simp only [List.cons.injEq, and_true] at q4 q21; exact q4.symm.trans q21.symm
      have hex := m6.five
      obtain ⟨Y1, e1, Y2, e2, ez, _⟩ := hex
      subst ez
      obtain ⟨e27, x27⟩ := Rv.ev ev.symm
      obtain ⟨s0, s1, s2, s3, s4⟩ := Rv.cells5 k7
      obtain ⟨z0, z1, z2, z3, z4⟩ := Rv.frozen5 k7
      have gs' := fun (V : World) j u => grown_set (Below.refl _ V) g j u
      have hgg := (grown_then (grown_then (grown_then (grown_then (gs' W 0 (.int .i64 d.k)) (gs' _ 1 (.int .u64 (nb d.k d.n)))) (gs' _ 2 (.string d.s))) (gs' _ 3 (.slice Y1 d.ns.length e1))) (gs' _ 4 (.slice Y2 d.is.length e2)))
      have hne : ∀ x, (Rv.vals (#[22, 23, 24, 25, 26, 21, 27, 28, 7, 1009, 8] : Array Nat) a) 8 ≠ .pointer (some ⟨x, 0, none⟩) → some x ≠ some g := fun x hx e => by injection e with e; subst e; exact hx q8
      have hnn := m6.grown hgg (fun x hx => hne x hx)
      have hjk := fun L' (hJ' : Mj t1 t2 L' (Rv.vals (#[22, 23, 24, 25, 26, 21, 27, 28, 7, 1009, 8] : Array Nat) a) W) => Mj.store (d := d) (c := c) (i := 9) (by decide) (by decide) undef hgg.size q4 m1 m2 m3 hnn hJ'
      clear q21 q21' n27 ev q4 hj0 m5 hL hLd qg
      exact Rv.step_skip (op := Go.Op.store 32 (Go.Operand.tmp 7) (Go.Operand.tmp 27)) (ty := 0) (w1 := (((((W.setCell ⟨g, 0, none⟩ (.int .i64 d.k)).setCell ⟨g, 1, none⟩ (.int .u64 (nb d.k d.n))).setCell ⟨g, 2, none⟩ (.string d.s)).setCell ⟨g, 3, none⟩ (.slice Y1 d.ns.length e1)).setCell ⟨g, 4, none⟩ (.slice Y2 d.is.length e2))) rfl rfl (fun d pos aft g => by unfold execOp; go_simp) ⟨undef, rfl, ⟨g, c, d, Y1, e1, Y2, e2, q8, h7, m1, m2, m3, hnn.weak (fun _ _ _ => trivial), Rv.sets5 k7 _ _ _ _ _⟩, .inl ⟨rfl, trivial⟩, htr.grown hgg htr.size (fun k hk => by injection hk with hk; omega), (fun _ _ => trivial), fun L' _ hJ' => hjk L' hJ'⟩
    | 10, _ =>
      obtain ⟨e28, x28⟩ := Rv.ev (show a.tmps.getD 28 undef = .bool true from hdep 7 rfl rfl)
      exact Rv.step_op (op := Go.Op.assign (Go.Operand.tmp 28)) (v := .bool true) (w1 := W) rfl rfl (fun d pos aft g => by unfold execOp; go_simp) ⟨_, rfl, rfl, .inr (Below.refl _ _), htr, fun _ ht => ht, fun L _ hJ => Mj.keep (by decide) (by decide) _ (Below.refl _ _) hJ⟩
    | m + 11, h => exact absurd h (by show ¬ m + 11 < 11; omega)
  intro W f hf htr hJ
  have f0 : f 0 = .agg #[.int .i64 t1.k, .int .i64 t1.n, .string t1.s, .slice A1 t1.ns.length c1, .slice B1 t1.is.length d1] := hf 0 (by show 0 < 11; omega) rfl
  have f2 : f 2 = .agg #[.int .i64 t2.k, .int .i64 t2.n, .string t2.s, .slice A2 t2.ns.length c2, .slice B2 t2.is.length d2] := hf 2 (by show 2 < 11; omega) rfl
  have HS4 := Lib.hid (show (fun f W => ∃ v : Value, f 4 = .tuple #[v, .bool true]) f W from hf 4 (by show 4 < 11; omega) rfl)
  have HS5 := Lib.hid (show (fun f W => ∃ v : Value, f 5 = .tuple #[v, .bool true] ∧ f 4 = .tuple #[v, .bool true]) f W from hf 5 (by show 5 < 11; omega) rfl)
  have HS6 := Lib.hid (show (fun f W => f 5 = .tuple #[f 6, .bool true]) f W from hf 6 (by show 6 < 11; omega) rfl)
  have f7 : f 7 = .bool true := hf 7 (by show 7 < 11; omega) rfl
  have HS9 := Lib.hid (show (fun f W => ∃ (g : Nat) (c d : J) (Y1 : Option Addr) (e1 : Nat) (Y2 : Option Addr) (e2 : Nat), f 8 = .pointer (some ⟨g, 0, none⟩) ∧ X.heap.size ≤ g ∧ Mg t1 t2 c ∧ eqJ d c = true ∧ Wg d ∧ NN (fun _ => True) W d (.agg #[.int .i64 d.k, .int .u64 (nb d.k d.n), .string d.s, .slice Y1 d.ns.length e1, .slice Y2 d.is.length e2]) ∧ W.heap[g]? = some (.cells #[.int .i64 d.k, .int .u64 (nb d.k d.n), .string d.s, .slice Y1 d.ns.length e1, .slice Y2 d.is.length e2] 32 (0, 0))) f W from hf 9 (by show 9 < 11; omega) rfl)
  have f10 : f 10 = .bool true := hf 10 (by show 10 < 11; omega) rfl
  clear hf
  refine (show ∀ (a : Act) (w : World), Code.wp _ _ _ a w → _ from by assumption) _ _ ?_
  refine Rv.fin_swap (L' := [(22, f 0), (23, f 1), (24, f 2), (25, f 3), (26, f 4), (21, f 5), (27, f 6), (28, f 7), (7, f 8), (1009, f 9), (8, f 10)]) rfl ?_
  rw [f0, f2, f7, f10]
  clear f0 f2 f7 f10
  simp only [Rv.fin, List.foldl_cons, List.foldl_nil, Act.put, List.setIfInBounds_toArray, List.set_cons_succ, List.set_cons_zero, List.set_nil]
  obtain ⟨g, c, d, Y1, e1, Y2, e2, f8, hgX, hm, he, hwd, hnn, hgb⟩ := HS9.out
  rw [f8]
  clear HS9
  have HXW := Lib.hid (HXW.out.trans (htr.mono HXW.out.size))
  have HG1 := Lib.hid ((htr.block _ hg1).trans HG1.out)
  have HG2 := Lib.hid ((htr.block _ hg2).trans HG2.out)
  have HJ1 := Lib.hid (HJ1.out.below htr)
  have HJ2 := Lib.hid (HJ2.out.below htr)
  have HG := Lib.hid hgb
  have HM := Lib.hid hm
  have HE := Lib.hid he
  have HWD := Lib.hid hwd
  have HND := Lib.hid hnn
  have hg1 := Rv.lt_of_blk HG1.out
  have hg2 := Rv.lt_of_blk HG2.out
  have hg := Rv.lt_of_blk HG.out
  clear htr f8 hgX hm he hwd hnn hgb
  generalize f 1 = u1
  generalize f 3 = u3
  generalize f 4 = u4
  generalize f 5 = u5
  generalize f 6 = u6
  generalize f 9 = u9
  go_upto_region 5 with fail
  rename World => X1
  generalize X1 = X at *
  refine Rv.region_goods (n := 37) (by kernel_rfl) #[29, 30, 31, 32, 33, 34, 35, 36, 4] #[none, some true] (fun i v W => if i = 5 then (fun v W => ∃ c : J, Mg t1 t2 c ∧ JN (fun _ => True) W c v) v W else v = (#[.bool true, .bool true, .agg #[.int .i64 d.k, .int .u64 (nb d.k d.n), .string d.s, .slice Y1 d.ns.length e1, .slice Y2 d.is.length e2], .agg #[.int .i64 t1.k, .int .i64 t1.n, .string t1.s, .slice A1 t1.ns.length c1, .slice B1 t1.is.length d1], .agg #[.int .i64 t2.k, .int .i64 t2.n, .string t2.s, .slice A2 t2.ns.length c2, .slice B2 t2.is.length d2], undef, .bool true, .bool true, .bool true] : Array Value).getD i undef) (fun i v w w' h hb => ?_) (fun i h g b hg => ?_) rfl (by kernel_rfl) (by kernel_rfl) (fun i h hr w => ?_) ?_ ?_
  · by_cases hi34 : i = 5
    · subst hi34
      rw [if_pos rfl] at h ⊢
      exact (fun v w w' h hb => h.imp fun c h => ⟨h.1, h.2.below hb⟩) v w w' h hb
    rw [if_neg hi34] at h ⊢
    exact h
  · match i, h, hg with
    | 0, _, hg => cases hg
    | 1, _, hg => cases hg
    | 2, _, hg => (cases hg; exact fun v w e => e)
    | 3, _, hg => (cases hg; exact fun v w e => e)
    | 4, _, hg => (cases hg; exact fun v w e => e)
    | 5, _, hg => (cases hg; exact fun v w e => e)
    | 6, _, hg => (cases hg; exact fun v w e => e)
    | 7, _, hg => cases hg
    | 8, _, hg => cases hg
    | m + 9, h, _ => exact absurd h (by show ¬ m + 9 < 9; omega)
  · match i, h, hr with
    | 0, _, hr => exact Bool.noConfusion (show true = false from hr)
    | 1, _, hr => exact Bool.noConfusion (show true = false from hr)
    | 2, _, hr => exact Bool.noConfusion (show true = false from hr)
    | 3, _, hr => exact Bool.noConfusion (show true = false from hr)
    | 4, _, hr => exact Bool.noConfusion (show true = false from hr)
    | 5, _, hr => exact Bool.noConfusion (show true = false from hr)
    | 6, _, hr => exact Bool.noConfusion (show true = false from hr)
    | 7, _, hr => exact Bool.noConfusion (show true = false from hr)
    | 8, _, hr => exact Bool.noConfusion (show true = false from hr)
    | m + 9, h, _ => exact absurd h (by show ¬ m + 9 < 9; omega)
  · intro i h a W hrun hbase hpre hdep htr
    obtain ⟨y0, y1, y2, y3, y4⟩ := Rv.cells5 ((htr.block _ hg1).trans HG1.out)
    obtain ⟨x0, x1, x2, x3, x4⟩ := Rv.cells5 ((htr.block _ hg2).trans HG2.out)
    obtain ⟨u0, u1, u2, u3, u4⟩ := Rv.cells5 ((htr.block _ hg).trans HG.out)
    match i, h with
    | 0, _ =>
      obtain ⟨e8, x8⟩ := Rv.ev (show a.tmps.getD 8 undef = .bool true from hbase 8 rfl)
      exact Rv.step_op (op := Go.Op.move (Go.Operand.tmp 8)) (v := .bool true) (w1 := W) rfl rfl (fun d pos aft g => by unfold execOp; go_simp) ⟨_, rfl, rfl, Below.refl _ _⟩
    | 1, _ =>
      obtain ⟨e29, x29⟩ := Rv.ev (show a.tmps.getD 29 undef = .bool true from hdep 0 rfl)
      exact Rv.step_op (op := Go.Op.move (Go.Operand.tmp 29)) (v := .bool true) (w1 := W) rfl rfl (fun d pos aft g => by unfold execOp; go_simp) ⟨_, rfl, rfl, Below.refl _ _⟩
    | 2, _ =>
      obtain ⟨e7, x7⟩ := Rv.ev (show a.tmps.getD 7 undef = .pointer (some ⟨g, 0, none⟩) from hbase 7 rfl)
      exact Rv.step_op (op := Go.Op.load 32 (Go.Operand.tmp 7)) (v := .agg #[.int .i64 d.k, .int .u64 (nb d.k d.n), .string d.s, .slice Y1 d.ns.length e1, .slice Y2 d.is.length e2]) (w1 := W) rfl rfl (fun d pos aft g => by unfold execOp; go_simp) ⟨_, rfl, rfl, Below.refl _ _⟩
    | 3, _ =>
      obtain ⟨e5, x5⟩ := Rv.ev (show a.tmps.getD 5 undef = .pointer (some ⟨g1, 0, none⟩) from hbase 5 rfl)
      exact Rv.step_op (op := Go.Op.load 26 (Go.Operand.tmp 5)) (v := .agg #[.int .i64 t1.k, .int .i64 t1.n, .string t1.s, .slice A1 t1.ns.length c1, .slice B1 t1.is.length d1]) (w1 := W) rfl rfl (fun d pos aft g => by unfold execOp; go_simp) ⟨_, rfl, rfl, Below.refl _ _⟩
    | 4, _ =>
      obtain ⟨e6, x6⟩ := Rv.ev (show a.tmps.getD 6 undef = .pointer (some ⟨g2, 0, none⟩) from hbase 6 rfl)
      exact Rv.step_op (op := Go.Op.load 26 (Go.Operand.tmp 6)) (v := .agg #[.int .i64 t2.k, .int .i64 t2.n, .string t2.s, .slice A2 t2.ns.length c2, .slice B2 t2.is.length d2]) (w1 := W) rfl rfl (fun d pos aft g => by unfold execOp; go_simp) ⟨_, rfl, rfl, Below.refl _ _⟩
    | 5, _ =>
      obtain ⟨e32, x32⟩ := Rv.ev (show a.tmps.getD 32 undef = .agg #[.int .i64 t1.k, .int .i64 t1.n, .string t1.s, .slice A1 t1.ns.length c1, .slice B1 t1.is.length d1] from hdep 3 rfl)
      obtain ⟨e33, x33⟩ := Rv.ev (show a.tmps.getD 33 undef = .agg #[.int .i64 t2.k, .int .i64 t2.n, .string t2.s, .slice A2 t2.ns.length c2, .slice B2 t2.is.length d2] from hdep 4 rfl)
      have cf : ∀ x0 x1 W, (callFunc 13 #[x0, x1]).run Try.prog W = .ok (.enter 13 #[x0, x1]) W := fun _ _ _ => by kernel_rfl
      refine Rv.step_fn (op := Go.Op.call { callee := Go.Callee.value (Go.Operand.func 13), args := #[Go.Operand.tmp 32, Go.Operand.tmp 33], argTypes := #[26, 26] }) (ty := 26) (f := 13) (args := #[.agg #[.int .i64 t1.k, .int .i64 t1.n, .string t1.s, .slice A1 t1.ns.length c1, .slice B1 t1.is.length d1], .agg #[.int .i64 t2.k, .int .i64 t2.n, .string t2.s, .slice A2 t2.ns.length c2, .slice B2 t2.is.length d2]]) (R := fun v W' => (∃ c : J, Mg t1 t2 c ∧ JN (fun _ => True) W' c v) ∧ Below W.heap.size W W') rfl rfl (fun d pos aft g => by unfold execOp; go_simp) ((merged_any _ t1 (Nat.le_refl _) (fun x => x < W.heap.size) t2 _ _ W (fun _ h => h) HW1.out HW2.out ((HJ1.out.below htr).weak (fun _ h _ => h)) ((HJ2.out.below htr).weak (fun _ h _ => h))).mono ?_) ?_
      · (rintro e W' ⟨u, c, rfl, h1, h2, hb⟩; exact ⟨_, rfl, ⟨c, h1, h2.weak (fun _ _ _ => trivial)⟩, hb⟩)
      · (rintro v W' ⟨hv, hb⟩; exact ⟨_, rfl, hv, hb⟩)
    | 6, _ =>
      obtain ⟨e31, x31⟩ := Rv.ev (show a.tmps.getD 31 undef = .agg #[.int .i64 d.k, .int .u64 (nb d.k d.n), .string d.s, .slice Y1 d.ns.length e1, .slice Y2 d.is.length e2] from hdep 2 rfl)
      obtain ⟨c2, m34, n34⟩ : ∃ c : J, Mg t1 t2 c ∧ JN (fun _ => True) W c (a.tmps.getD 34 undef) := hdep 5 rfl
      obtain ⟨v34, q34⟩ : ∃ v, a.tmps.getD 34 undef = v := ⟨_, rfl⟩
      rw [q34] at n34
      obtain ⟨e34, x34⟩ := Rv.ev q34
      have cf : ∀ x0 x1 W, (callFunc 12 #[x0, x1]).run Try.prog W = .ok (.enter 12 #[x0, x1]) W := fun _ _ _ => by kernel_rfl
      have heq := eqJ_trans _ d c c2 (Nat.le_refl _) HWD.out (HM.out.wg HW1.out HW2.out) (m34.wg HW1.out HW2.out) HE.out (HM.out.uniq c2 m34 HW1.out HW2.out)
      refine Rv.step_fn (op := Go.Op.call { callee := Go.Callee.value (Go.Operand.func 12), args := #[Go.Operand.tmp 31, Go.Operand.tmp 34], argTypes := #[32, 26] }) (ty := 4) (f := 12) (args := #[.agg #[.int .i64 d.k, .int .u64 (nb d.k d.n), .string d.s, .slice Y1 d.ns.length e1, .slice Y2 d.is.length e2], v34]) (R := fun v W' => v = .bool true ∧ Below W.heap.size W W') rfl rfl (fun d pos aft g => by unfold execOp; go_simp) ((same_any _ d (Nat.le_refl _) c2 _ _ _ _ W HWD.out (m34.wg HW1.out HW2.out) heq (HND.out.below htr) n34).mono ?_) ?_
      · (rintro e W' ⟨rfl, hb⟩; exact ⟨_, rfl, rfl, hb⟩)
      · (rintro v W' ⟨hv, hb⟩; exact ⟨_, rfl, hv, hb⟩)
    | 7, _ =>
      obtain ⟨e30, x30⟩ := Rv.ev (show a.tmps.getD 30 undef = .bool true from hdep 1 rfl)
      obtain ⟨e35, x35⟩ := Rv.ev (show a.tmps.getD 35 undef = .bool true from hdep 6 rfl)
      exact Rv.step_op (op := Go.Op.pick (Go.Operand.tmp 30) (Go.Operand.tmp 35) (Go.Operand.const (Go.Value.bool false))) (v := .bool true) (w1 := W) rfl rfl (fun d pos aft g => by unfold execOp; go_simp) ⟨_, rfl, rfl, Below.refl _ _⟩
    | 8, _ =>
      obtain ⟨e36, x36⟩ := Rv.ev (show a.tmps.getD 36 undef = .bool true from hdep 7 rfl)
      exact Rv.step_op (op := Go.Op.assign (Go.Operand.tmp 36)) (v := .bool true) (w1 := W) rfl rfl (fun d pos aft g => by unfold execOp; go_simp) ⟨_, rfl, rfl, Below.refl _ _⟩
    | m + 9, h => exact absurd h (by show ¬ m + 9 < 9; omega)
  intro W f hf htr
  have f0 : f 0 = .bool true := hf 0 (by show 0 < 9; omega)
  have f1 : f 1 = .bool true := hf 1 (by show 1 < 9; omega)
  have f2 : f 2 = .agg #[.int .i64 d.k, .int .u64 (nb d.k d.n), .string d.s, .slice Y1 d.ns.length e1, .slice Y2 d.is.length e2] := hf 2 (by show 2 < 9; omega)
  have f3 : f 3 = .agg #[.int .i64 t1.k, .int .i64 t1.n, .string t1.s, .slice A1 t1.ns.length c1, .slice B1 t1.is.length d1] := hf 3 (by show 3 < 9; omega)
  have f4 : f 4 = .agg #[.int .i64 t2.k, .int .i64 t2.n, .string t2.s, .slice A2 t2.ns.length c2, .slice B2 t2.is.length d2] := hf 4 (by show 4 < 9; omega)
  have f5 := hf 5 (by show 5 < 9; omega)
  have f6 : f 6 = .bool true := hf 6 (by show 6 < 9; omega)
  have f7 : f 7 = .bool true := hf 7 (by show 7 < 9; omega)
  have f8 : f 8 = .bool true := hf 8 (by show 8 < 9; omega)
  refine (show ∀ (a : Act) (w : World), Code.wp _ _ _ a w → _ from by assumption) _ _ ?_
  refine Rv.fin_swap (L' := [(29, f 0), (30, f 1), (31, f 2), (32, f 3), (33, f 4), (34, f 5), (35, f 6), (36, f 7), (4, f 8)]) rfl ?_
  rw [f0, f1, f2, f3, f4, f6, f7, f8]
  clear f0 f1 f2 f3 f4 f6 f7 f8
  simp only [Rv.fin, List.foldl_cons, List.foldl_nil, Act.put, List.setIfInBounds_toArray, List.set_cons_succ, List.set_cons_zero]
  have HBF := Lib.hid (HXW.out.trans (htr.mono HXW.out.size))
  clear hf htr
  go_wp2
  go_ret
  exact ⟨rfl, HBF.out⟩
end Go.Proofs.Ytmelgankbegjaaa.Js

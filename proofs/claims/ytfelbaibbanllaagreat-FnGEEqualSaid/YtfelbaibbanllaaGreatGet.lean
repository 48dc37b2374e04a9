/- The law FnGEEqual for whatever point. Conditions: those written at each lemma. -/
import Derived.Test.YtfelbaibbanllaaGreatGes
set_option linter.unusedVariables false
set_option linter.unusedSimpArgs false
set_option maxRecDepth 100000
set_option maxHeartbeats 8000000
namespace Go.Proofs.YtfelbaibbanllaaGreat.Ge
open Go.RowKit Go.Proofs.YtfelbaibbanllaaGreat.B
attribute [local go_sem] run_store_float

abbrev zer : Array Value := #[.int .i64 0, .int .u32 0, .slice none 0 0, .slice none 0 0, .slice none 0 0, .slice none 0 0]
/-- All but the block g is as it was. -/
def But (g : Nat) (W W' : World) : Prop := W.heap.size ≤ W'.heap.size ∧ ∀ k, k ≠ g → k < W.heap.size → W'.heap[k]? = W.heap[k]?
theorem But.blk {g b : Nat} {W W' : World} {cs ds : Array Value} {t u : TypeId} (h : But g W W') (hg : W.heap[g]? = some (.cells cs t (0, 0))) (hb : W.heap[b]? = some (.cells ds u (0, 0))) (htu : t ≠ u) : W'.heap[b]? = some (.cells ds u (0, 0)) := by
  rw [h.2 b (fun e => ?_) (lt_of_block hb)]
  · exact hb
  · subst e
    rw [hg] at hb
    injection hb with hb
    injection hb with _ hb
    exact htu hb
theorem But.own {g B n : Nat} {W W' : World} {cs : Array Value} {t e : TypeId} {s : Nat} {v : Value} {xs : List Value} (h : But g W W') (hg : W.heap[g]? = some (.cells cs t (0, 0))) (ho : W.ownsRow B e s v n xs) (hte : t ≠ e) : W'.ownsRow B e s v n xs := by
  refine ⟨ho.1, ?_⟩
  rcases ho.2 with h2 | ⟨g', cap, cur, h1, h2, h3, h4⟩
  · exact .inl h2
  · exact .inr ⟨g', cap, cur, h1, h2, h.blk hg h3 hte, h4⟩
theorem set_six {w : World} {b : Nat} {cs : Array Value} {t : TypeId} (hs : cs.size = 6) (h : w.heap[b]? = some (.cells cs t (0, 0))) (u0 u1 u2 u3 u4 u5 : Value) :
    ((((((w.setCell ⟨b, 0, none⟩ u0).setCell ⟨b, 1, none⟩ u1).setCell ⟨b, 2, none⟩ u2).setCell ⟨b, 3, none⟩ u3).setCell ⟨b, 4, none⟩ u4).setCell ⟨b, 5, none⟩ u5).heap[b]? = some (.cells #[u0, u1, u2, u3, u4, u5] t (0, 0)) := by
  have one : ∀ (w : World) (cs : Array Value) (j : Nat) (u : Value), w.heap[b]? = some (.cells cs t (0, 0)) → (w.setCell ⟨b, j, none⟩ u).heap[b]? = some (.cells (cs.setIfInBounds j u) t (0, 0)) := fun w cs j u h => by
    have hlt := lt_of_block h
    have h' : w.heap[b] = .cells cs t (0, 0) := by simpa [Array.getElem?_eq_getElem hlt] using h
    show (w.heap.modify b _)[b]? = _
    rw [Array.getElem?_eq_getElem (by simpa using hlt), Array.getElem_modify_self, h']
    rfl
  rw [one _ _ 5 u5 (one _ _ 4 u4 (one _ _ 3 u3 (one _ _ 2 u2 (one _ _ 1 u1 (one _ _ 0 u0 h)))))]
  congr 2
  match cs, hs with
  | ⟨[a, b, c, d, e, f]⟩, _ => rfl
theorem but_six (g : Nat) (w : World) (u0 u1 u2 u3 u4 u5 : Value) : But g w ((((((w.setCell ⟨g, 0, none⟩ u0).setCell ⟨g, 1, none⟩ u1).setCell ⟨g, 2, none⟩ u2).setCell ⟨g, 3, none⟩ u3).setCell ⟨g, 4, none⟩ u4).setCell ⟨g, 5, none⟩ u5) := by
  have one : ∀ (w : World) (j : Nat) (u : Value), But g w (w.setCell ⟨g, j, none⟩ u) := fun w j u => ⟨((Below.refl 0 w).setCell (Nat.zero_le (⟨g, j, none⟩ : Addr).block) u).size, fun k hk _ => by rw [Below.heap_setCell _ _ _ _ (fun e => hk e)]⟩
  have tr : ∀ {a b c : World}, But g a b → But g b c → But g a c := fun h1 h2 => ⟨Nat.le_trans h1.1 h2.1, fun k hk hl => (h2.2 k hk (Nat.lt_of_lt_of_le hl h1.1)).trans (h1.2 k hk hl)⟩
  exact tr (tr (tr (tr (tr (one _ 0 u0) (one _ 1 u1)) (one _ 2 u2)) (one _ 3 u3)) (one _ 4 u4)) (one _ 5 u5)
theorem below_six {B g : Nat} {X w : World} (h : Below B X w) (hg : B ≤ g) (u0 u1 u2 u3 u4 u5 : Value) : Below B X ((((((w.setCell ⟨g, 0, none⟩ u0).setCell ⟨g, 1, none⟩ u1).setCell ⟨g, 2, none⟩ u2).setCell ⟨g, 3, none⟩ u3).setCell ⟨g, 4, none⟩ u4).setCell ⟨g, 5, none⟩ u5) :=
  (((((h.setCell hg u0).setCell hg u1).setCell hg u2).setCell hg u3).setCell hg u4).setCell hg u5
/-- Both variables, once they are made, have places of their own. -/
def Two (B : Nat) (L : Nat → Bool) (f : Nat → Value) (W : World) : Prop :=
  (L 9 = true → ∃ g, f 9 = .pointer (some ⟨g, 0, none⟩) ∧ B ≤ g ∧ g < W.heap.size) ∧ (L 10 = true → ∃ g, f 10 = .pointer (some ⟨g, 0, none⟩) ∧ B ≤ g ∧ g < W.heap.size) ∧ (L 9 = true → L 10 = true → f 9 ≠ f 10)
theorem Two.loc {B n : Nat} (hn : 10 < n) (L L' : Nat → Bool) (f f' : Nat → Value) (w : World) (h1 : ∀ k, k < n → L k = L' k) (h2 : ∀ k, k < n → f k = f' k) (h : Two B L f w) : Two B L' f' w := by
  unfold Two at *
  rw [← h1 9 (by omega), ← h1 10 hn, ← h2 9 (by omega), ← h2 10 hn]
  exact h
theorem Two.keep {B i : Nat} (h9 : i ≠ 9) (h10 : i ≠ 10) {L : Nat → Bool} {f : Nat → Value} {W W' : World} (v : Value) (hs : W.heap.size ≤ W'.heap.size) (h : Two B L f W) : Two B (Rv.put L i) (Rv.upd f i v) W' := by
  unfold Two Rv.put Rv.upd at *
  rw [if_neg (Ne.symm h9), if_neg (Ne.symm h10), if_neg (Ne.symm h9), if_neg (Ne.symm h10)]
  refine ⟨fun hl => ?_, fun hl => ?_, h.2.2⟩
  · obtain ⟨g, a, b, c⟩ := h.1 hl
    exact ⟨g, a, b, Nat.lt_of_lt_of_le c hs⟩
  · obtain ⟨g, a, b, c⟩ := h.2.1 hl
    exact ⟨g, a, b, Nat.lt_of_lt_of_le c hs⟩
theorem Two.nine {B : Nat} {L : Nat → Bool} {f : Nat → Value} {W W' : World} (hB : B ≤ W.heap.size) (hs : W'.heap.size = W.heap.size + 1) (h : Two B L f W) : Two B (Rv.put L 9) (Rv.upd f 9 (.pointer (some ⟨W.heap.size, 0, none⟩))) W' := by
  unfold Two Rv.put Rv.upd at *
  simp only [if_true, show (10 : Nat) ≠ 9 by decide, if_false]
  refine ⟨fun _ => ⟨_, rfl, hB, by omega⟩, fun hl => ?_, fun _ hl e => ?_⟩
  · obtain ⟨g, a, b, c⟩ := h.2.1 hl
    exact ⟨g, a, b, by omega⟩
  · obtain ⟨g, a, b, c⟩ := h.2.1 hl
    rw [a] at e
    injection e with e
    injection e with e
    injection e with e
    omega
theorem Two.ten {B : Nat} {L : Nat → Bool} {f : Nat → Value} {W W' : World} (hB : B ≤ W.heap.size) (hs : W'.heap.size = W.heap.size + 1) (h : Two B L f W) : Two B (Rv.put L 10) (Rv.upd f 10 (.pointer (some ⟨W.heap.size, 0, none⟩))) W' := by
  unfold Two Rv.put Rv.upd at *
  simp only [if_true, show (9 : Nat) ≠ 10 by decide, if_false]
  refine ⟨fun hl => ?_, fun _ => ⟨_, rfl, hB, by omega⟩, fun hl _ e => ?_⟩
  · obtain ⟨g, a, b, c⟩ := h.1 hl
    exact ⟨g, a, b, by omega⟩
  · obtain ⟨g, a, b, c⟩ := h.1 hl
    rw [a] at e
    injection e with e
    injection e with e
    injection e with e
    omega
theorem peq_moved {p q : Nat × Nat} {z : Int × Int} {a b : Int} (hp : F.FI p.1 z.1 ∧ F.FI p.2 z.2) (hq : F.FI q.1 (z.1 + a) ∧ F.FI q.2 (z.2 + b)) : peq p q = (decide (a = 0) && decide (b = 0)) := by
  unfold peq
  have h1 : feq p.1 q.1 = decide (a = 0) := (hp.1.eq hq.1).trans (by congr 1; apply propext; omega)
  have h2 : feq p.2 q.2 = decide (b = 0) := (hp.2.eq hq.2).trans (by congr 1; apply propext; omega)
  rw [h1, h2]
theorem peq_self {p : Nat × Nat} {z : Int × Int} (hp : F.FI p.1 z.1 ∧ F.FI p.2 z.2) : peq p p = true := by
  unfold peq
  have h1 : feq p.1 p.1 = true := (hp.1.eq hp.1).trans (by simp)
  have h2 : feq p.2 p.2 = true := (hp.2.eq hp.2).trans (by simp)
  rw [h1, h2]
  rfl
theorem rd_blk {W : World} {g : Nat} {x y : Nat} (h : W.heap[g]? = some (.cells #[.float .f64 x, .float .f64 y] 24 (0, 0))) : Rd W 2 (.slice (some ⟨g, 0, none⟩) 1 1) 1 (pc [(x, y)]) := by
  refine ⟨rfl, some ⟨g, 0, none⟩, 1, rfl, Nat.le_refl _, by omega, fun _ => ⟨g, 0, rfl, lt_of_block h, fun j u hu => ?_⟩⟩
  obtain ⟨c0, c1, _, _⟩ := cells_two h
  match j, hu with
  | 0, hu => (injection hu with hu; rw [← hu]; exact c0)
  | 1, hu => (injection hu with hu; rw [← hu]; exact c1)
  | n + 2, hu => simp [pc] at hu
/-- The point that is moved. -/
def Mvd (B : Nat) (z : Int × Int) (a b : Int) (W : World) (A : Option Addr) (c : Nat) : Prop := ∃ q, W.ownsRow B 24 2 (.slice A 1 c) 1 (pc [q]) ∧ Fp [q] [mv a b z]

theorem allrun {ops : Array Oper} {G : Array (Option Bool)} (h0 : (ops.all fun o => o.guard.isNone) = true) (i : Nat) (h : i < ops.size) : ¬ Rv.runs G ops[i] = false := by
  have h1 := Array.all_eq_true.1 h0 i h
  unfold Rv.runs
  rw [Option.isNone_iff_eq_none.1 h1]
  exact fun e => Bool.noConfusion e
theorem one_of {α : Type} {l : List α} (h : l.length = 1) : ∃ q, l = [q] := by
  match l, h with
  | [q], _ => exact ⟨q, rfl⟩
theorem sixf {w : World} {b : Nat} {v0 v1 v2 v3 v4 v5 : Value} {t : TypeId} (h : w.heap[b]? = some (.cells #[v0, v1, v2, v3, v4, v5] t (0, 0))) : w.frozen? ⟨b, 0, none⟩ = false ∧ w.frozen? ⟨b, 1, none⟩ = false ∧ w.frozen? ⟨b, 2, none⟩ = false ∧ w.frozen? ⟨b, 3, none⟩ = false ∧ w.frozen? ⟨b, 4, none⟩ = false ∧ w.frozen? ⟨b, 5, none⟩ = false := by
  refine ⟨?_, ?_, ?_, ?_, ?_, ?_⟩ <;> simp [World.frozen?, h]
theorem law3_any (p : Nat × Nat) (za zb : Int) (w : World) (h64 : W64 [p]) (ha : -128 ≤ za ∧ za ≤ 127) (hb : -128 ≤ zb ∧ zb ≤ 127) :
    Calls Tryz.prog 3 #[ptV p, .int .i8 za, .int .i8 zb] w fun e w' => e = .returned (.bool true) ∧ Below w.heap.size w w' := by
  obtain ⟨x, y⟩ := p
  have HX := Lib.hid (((Below.refl w.heap.size w).alloc (Nat.le_refl _) (.cells #[.float .f64 x, .float .f64 y] 24)).alloc (by simp) (.cells #[.float .f64 x, .float .f64 y] 24))
  have hnb := heap_alloc_new w (.cells #[.float .f64 x, .float .f64 y] 24)
  have hn2 := heap_alloc_new (w.alloc (.cells #[.float .f64 x, .float .f64 y] 24)) (.cells #[.float .f64 x, .float .f64 y] 24)
  have hs1 : (w.alloc (.cells #[.float .f64 x, .float .f64 y] 24)).heap.size = w.heap.size + 1 := by simp
  rw [hs1] at hn2
  have HN2 := Lib.hid (((((Below.refl (w.alloc (.cells #[.float .f64 x, .float .f64 y] 24)).heap.size (w.alloc (.cells #[.float .f64 x, .float .f64 y] 24))).alloc (Nat.le_refl _) (.cells #[.float .f64 x, .float .f64 y] 24)).block w.heap.size (by omega)).trans hnb))
  have SM := Lib.hid (small_any (some ⟨w.heap.size + 1, 0, none⟩) 1 [(x, y)] 1 ((w.alloc (.cells #[.float .f64 x, .float .f64 y] 24)).alloc (.cells #[.float .f64 x, .float .f64 y] 24)) (rd_blk hn2) h64 (by omega))
  rw [show [(x, y)].length = 1 from rfl] at SM
  have hlt0 : w.heap.size < ((w.alloc (.cells #[.float .f64 x, .float .f64 y] 24)).alloc (.cells #[.float .f64 x, .float .f64 y] 24)).heap.size := by simp; omega
  clear hnb hn2 hs1 h64
  go_enter Tryz.func3, Tryz.ntmps3
  go_wp2_with fail
  refine SM.out.mono ?_
  rintro e w1 ⟨ok, rfl, hok, hb1⟩
  have HB1 := Lib.hid (HX.out.trans (hb1.mono HX.out.size))
  have HNB := Lib.hid ((hb1.block _ hlt0).trans HN2.out)
  have hw1 : w.heap.size < w1.heap.size := Nat.lt_of_lt_of_le hlt0 hb1.size
  clear hb1 SM HN2 hlt0 HX
  rcases ok with _ | _
  · clear hok
    go_wp2
    go_ret
    exact ⟨rfl, HB1.out⟩
  · obtain ⟨z1, z2, hz1, hz2, b1, b2, b3, b4⟩ := (hok rfl).2.2 (x, y) (by simp)
    obtain ⟨z, hz⟩ : ∃ z : Int × Int, z = (z1, z2) := ⟨_, rfl⟩
    have HZ : Hid (F.FI x z.1 ∧ F.FI y z.2) := Lib.hid (by rw [hz]; exact ⟨hz1, hz2⟩)
    have HBD : Hid (Bd 1000 [z]) := Lib.hid (fun q hq => by rw [List.mem_singleton.1 hq, hz]; exact ⟨b1, b2, b3, b4⟩)
    have HFP : Hid (Fp [(x, y)] [z]) := Lib.hid ⟨rfl, fun i h1 h2 => by
      match i, h1 with
      | 0, _ => exact HZ.out
      | n + 1, h => exact absurd h (by simp)⟩
    clear hok hz1 hz2 b1 b2 b3 b4 hz
    have MV := Lib.hid (fun W A c (h : Rd W 2 (.slice A 1 c) 1 (pc [(x, y)])) => moved_any A c [(x, y)] [z] za zb W h HFP.out HBD.out (by simp) ha hb)
    have GO := Lib.hid (fun W A c => geOf_any A c W)
    go_upto_region 3 with fail
    generalize hX1 : w1 = X at *
    clear hX1
    have hr_of : ∀ {i : Nat} {f : Nat → Value} {W W' : World}, (i == 11 || i == 12) = true → (if i = 12 then (f 9 ≠ f 10 ∧ ∃ g cs, W.heap[g]? = some (.cells cs 33 (0, 0)) ∧ But g W W' ∧ f 10 = .pointer (some ⟨g, 0, none⟩)) else if i = 11 then (f 9 ≠ f 10 ∧ ∃ g cs, W.heap[g]? = some (.cells cs 33 (0, 0)) ∧ But g W W' ∧ f 9 = .pointer (some ⟨g, 0, none⟩)) else True) → f 9 ≠ f 10 ∧ ∃ g cs, W.heap[g]? = some (.cells cs 33 (0, 0)) ∧ But g W W' := fun {i f W W'} hi h => by
      by_cases h12 : i = 12
      · rw [if_pos h12] at h
        obtain ⟨h1, g, cs, h2, h3, _⟩ := h
        exact ⟨h1, g, cs, h2, h3⟩
      · have h11 : i = 11 := by simpa [h12] using hi
        rw [if_neg h12, if_pos h11] at h
        obtain ⟨h1, g, cs, h2, h3, _⟩ := h
        exact ⟨h1, g, cs, h2, h3⟩
    refine Rv.region_fin (n := 49) (by kernel_rfl) #[13, 14, 15, 16, 17, 18, 19, 20, 21, 7, 8, 1011, 1012] #[] (fun i f W => if i = 12 then (fun f W => ∃ g gs, f 10 = .pointer (some ⟨g, 0, none⟩) ∧ f 8 = .agg gs ∧ W.heap[g]? = some (.cells gs 33 (0, 0))) f W else if i = 11 then (fun f W => ∃ g gs, f 9 = .pointer (some ⟨g, 0, none⟩) ∧ f 2 = .agg gs ∧ W.heap[g]? = some (.cells gs 33 (0, 0))) f W else if i = 10 then (fun f W => ∃ g, f 10 = .pointer (some ⟨g, 0, none⟩) ∧ W.heap[g]? = some (.cells zer 33 (0, 0))) f W else if i = 9 then (fun f W => ∃ g, f 9 = .pointer (some ⟨g, 0, none⟩) ∧ W.heap[g]? = some (.cells zer 33 (0, 0))) f W else if i = 8 then (fun f W => ∃ A c, f 8 = gv A c ∧ Mvd w.heap.size z za zb W A c) f W else if i = 7 then (fun f W => ∃ A c, f 7 = .slice A 1 c ∧ Mvd w.heap.size z za zb W A c) f W else if i = 2 then (fun f W => ∃ g, f 2 = gv (some ⟨g, 0, none⟩) 1 ∧ W.heap[g]? = some (.cells #[.float .f64 x, .float .f64 y] 24 (0, 0))) f W else if i = 4 then (fun f W => ∃ g, f 4 = .slice (some ⟨g, 0, none⟩) 1 1 ∧ W.heap[g]? = some (.cells #[.float .f64 x, .float .f64 y] 24 (0, 0))) f W else if i = 1 then (fun f W => ∃ g, f 1 = .slice (some ⟨g, 0, none⟩) 1 1 ∧ W.heap[g]? = some (.cells #[.float .f64 x, .float .f64 y] 24 (0, 0))) f W else f i = (#[ptV (x, y), undef, undef, ptV (x, y), undef, .int .i8 za, .int .i8 zb, undef, undef, undef, undef, undef, undef] : Array Value).getD i undef) (fun i j => (i == 11 && (j == 9)) || (i == 12 && (j == 9 || j == 10))) (fun i => i == 11 || i == 12) (fun i f W W' => if i = 12 then (fun f W W' => f 9 ≠ f 10 ∧ ∃ g cs, W.heap[g]? = some (.cells cs 33 (0, 0)) ∧ But g W W' ∧ f 10 = .pointer (some ⟨g, 0, none⟩)) f W W' else if i = 11 then (fun f W W' => f 9 ≠ f 10 ∧ ∃ g cs, W.heap[g]? = some (.cells cs 33 (0, 0)) ∧ But g W W' ∧ f 9 = .pointer (some ⟨g, 0, none⟩)) f W W' else True) (fun W => Below X.heap.size X W) (fun _ => True) (Two X.heap.size) (Two.loc (by show 10 < 13; omega)) (fun i f f' w hi h hd hg => ?_) (fun i j f w w' hi hj hij hK hdp h hr => ?_) (fun i h g b hg => ?_) rfl (by kernel_rfl) (fun i h g b hg => ?_) ((Below.refl _ _).drew) (trivial) (fun f => ⟨fun h => (by cases h), fun h => (by cases h), fun h => (by cases h)⟩) (fun i h hr f w hf => ?_) (fun i h hr => absurd hr (allrun (by kernel_rfl) i h)) ?_ ?_
    · by_cases hi1012 : i = 12
      · subst hi1012
        rw [if_pos rfl] at hg ⊢
        obtain ⟨g, gs, q1, q2, q3⟩ := hg
        exact ⟨g, gs, (hd 10 rfl).symm.trans q1, (hd 8 rfl).symm.trans q2, q3⟩
      rw [if_neg hi1012] at hg ⊢
      by_cases hi1011 : i = 11
      · subst hi1011
        rw [if_pos rfl] at hg ⊢
        obtain ⟨g, gs, q1, q2, q3⟩ := hg
        exact ⟨g, gs, (hd 9 rfl).symm.trans q1, (hd 2 rfl).symm.trans q2, q3⟩
      rw [if_neg hi1011] at hg ⊢
      by_cases hi8 : i = 10
      · subst hi8
        rw [if_pos rfl] at hg ⊢
        obtain ⟨g, q1, q2⟩ := hg
        exact ⟨g, h.symm.trans q1, q2⟩
      rw [if_neg hi8] at hg ⊢
      by_cases hi7 : i = 9
      · subst hi7
        rw [if_pos rfl] at hg ⊢
        obtain ⟨g, q1, q2⟩ := hg
        exact ⟨g, h.symm.trans q1, q2⟩
      rw [if_neg hi7] at hg ⊢
      by_cases hi21 : i = 8
      · subst hi21
        rw [if_pos rfl] at hg ⊢
        obtain ⟨A, c, q1, q2⟩ := hg
        exact ⟨A, c, h.symm.trans q1, q2⟩
      rw [if_neg hi21] at hg ⊢
      by_cases hi20 : i = 7
      · subst hi20
        rw [if_pos rfl] at hg ⊢
        obtain ⟨A, c, q1, q2⟩ := hg
        exact ⟨A, c, h.symm.trans q1, q2⟩
      rw [if_neg hi20] at hg ⊢
      by_cases hi15 : i = 2
      · subst hi15
        rw [if_pos rfl] at hg ⊢
        obtain ⟨g, q1, q2⟩ := hg
        exact ⟨g, h.symm.trans q1, q2⟩
      rw [if_neg hi15] at hg ⊢
      by_cases hi17 : i = 4
      · subst hi17
        rw [if_pos rfl] at hg ⊢
        obtain ⟨g, q1, q2⟩ := hg
        exact ⟨g, h.symm.trans q1, q2⟩
      rw [if_neg hi17] at hg ⊢
      by_cases hi14 : i = 1
      · subst hi14
        rw [if_pos rfl] at hg ⊢
        obtain ⟨g, q1, q2⟩ := hg
        exact ⟨g, h.symm.trans q1, q2⟩
      rw [if_neg hi14] at hg ⊢
      rw [← h]; exact hg
    · by_cases hj1012 : j = 12
      · subst hj1012
        rw [if_pos rfl] at h ⊢
        rcases hr with ⟨hK1, hr⟩ | hr
        · exfalso
          have e11 : i = 11 := by simpa [hij] using hK1
          subst e11
          revert hdp
          decide
        · obtain ⟨g, gs, e1, e2, hb⟩ := h
          exact ⟨g, gs, e1, e2, (hr.block _ (lt_of_block hb)).trans hb⟩
      rw [if_neg hj1012] at h ⊢
      by_cases hj1011 : j = 11
      · subst hj1011
        rw [if_pos rfl] at h ⊢
        rcases hr with ⟨hK1, hr⟩ | hr
        · have e12 : i = 12 := by simpa [hij] using hK1
          subst e12
          obtain ⟨hne, g', cs, hg, hbut, hp⟩ := (show f 9 ≠ f 10 ∧ ∃ g cs, w.heap[g]? = some (.cells cs 33 (0, 0)) ∧ But g w w' ∧ f 10 = .pointer (some ⟨g, 0, none⟩) from hr)
          obtain ⟨g, gs, e1, e2, hb⟩ := h
          exact ⟨g, gs, e1, e2, by rw [hbut.2 g (fun e3 => hne (by rw [e1, hp, e3])) (lt_of_block hb)]; exact hb⟩
        · obtain ⟨g, gs, e1, e2, hb⟩ := h
          exact ⟨g, gs, e1, e2, (hr.block _ (lt_of_block hb)).trans hb⟩
      rw [if_neg hj1011] at h ⊢
      by_cases hj8 : j = 10
      · subst hj8
        rw [if_pos rfl] at h ⊢
        rcases hr with ⟨hK1, hr⟩ | hr
        · have hi2 : i = 11 ∨ i = 12 := by simpa using hK1
          rcases hi2 with e | e
          · subst e
            obtain ⟨hne, g', cs, hg, hbut, hp⟩ := (show f 9 ≠ f 10 ∧ ∃ g cs, w.heap[g]? = some (.cells cs 33 (0, 0)) ∧ But g w w' ∧ f 9 = .pointer (some ⟨g, 0, none⟩) from hr)
            obtain ⟨g, e1, hb⟩ := h
            exact ⟨g, e1, by rw [hbut.2 g (fun e3 => hne (by rw [e1, hp, e3])) (lt_of_block hb)]; exact hb⟩
          · exfalso
            subst e
            revert hK
            decide
        · obtain ⟨g, e, hb⟩ := h
          exact ⟨g, e, (hr.block _ (lt_of_block hb)).trans hb⟩
      rw [if_neg hj8] at h ⊢
      by_cases hj7 : j = 9
      · subst hj7
        rw [if_pos rfl] at h ⊢
        rcases hr with ⟨hK1, hr⟩ | hr
        · exfalso
          have hi2 : i = 11 ∨ i = 12 := by simpa using hK1
          rcases hi2 with e | e <;> (subst e; revert hK; decide)
        · obtain ⟨g, e, hb⟩ := h
          exact ⟨g, e, (hr.block _ (lt_of_block hb)).trans hb⟩
      rw [if_neg hj7] at h ⊢
      by_cases hj21 : j = 8
      · subst hj21
        rw [if_pos rfl] at h ⊢
        rcases hr with ⟨hK1, hr⟩ | hr
        · obtain ⟨A, c, e, q, ho, hq⟩ := h
          obtain ⟨_, g', cs, hg, hbut⟩ := hr_of hK1 hr
          exact ⟨A, c, e, q, hbut.own hg ho (by decide), hq⟩
        · obtain ⟨A, c, e, q, ho, hq⟩ := h
          exact ⟨A, c, e, q, own_below ho hr, hq⟩
      rw [if_neg hj21] at h ⊢
      by_cases hj20 : j = 7
      · subst hj20
        rw [if_pos rfl] at h ⊢
        rcases hr with ⟨hK1, hr⟩ | hr
        · obtain ⟨A, c, e, q, ho, hq⟩ := h
          obtain ⟨_, g', cs, hg, hbut⟩ := hr_of hK1 hr
          exact ⟨A, c, e, q, hbut.own hg ho (by decide), hq⟩
        · obtain ⟨A, c, e, q, ho, hq⟩ := h
          exact ⟨A, c, e, q, own_below ho hr, hq⟩
      rw [if_neg hj20] at h ⊢
      by_cases hj15 : j = 2
      · subst hj15
        rw [if_pos rfl] at h ⊢
        rcases hr with ⟨hK1, hr⟩ | hr
        · obtain ⟨g, e, hb⟩ := h
          obtain ⟨_, g', cs, hg, hbut⟩ := hr_of hK1 hr
          exact ⟨g, e, hbut.blk hg hb (by decide)⟩
        · obtain ⟨g, e, hb⟩ := h
          exact ⟨g, e, (hr.block _ (lt_of_block hb)).trans hb⟩
      rw [if_neg hj15] at h ⊢
      by_cases hj17 : j = 4
      · subst hj17
        rw [if_pos rfl] at h ⊢
        rcases hr with ⟨hK1, hr⟩ | hr
        · obtain ⟨g, e, hb⟩ := h
          obtain ⟨_, g', cs, hg, hbut⟩ := hr_of hK1 hr
          exact ⟨g, e, hbut.blk hg hb (by decide)⟩
        · obtain ⟨g, e, hb⟩ := h
          exact ⟨g, e, (hr.block _ (lt_of_block hb)).trans hb⟩
      rw [if_neg hj17] at h ⊢
      by_cases hj14 : j = 1
      · subst hj14
        rw [if_pos rfl] at h ⊢
        rcases hr with ⟨hK1, hr⟩ | hr
        · obtain ⟨g, e, hb⟩ := h
          obtain ⟨_, g', cs, hg, hbut⟩ := hr_of hK1 hr
          exact ⟨g, e, hbut.blk hg hb (by decide)⟩
        · obtain ⟨g, e, hb⟩ := h
          exact ⟨g, e, (hr.block _ (lt_of_block hb)).trans hb⟩
      rw [if_neg hj14] at h ⊢
      exact h
    · match i, h, hg with
      | 0, _, hg => cases hg
      | 1, _, hg => cases hg
      | 2, _, hg => cases hg
      | 3, _, hg => cases hg
      | 4, _, hg => cases hg
      | 5, _, hg => cases hg
      | 6, _, hg => cases hg
      | 7, _, hg => cases hg
      | 8, _, hg => cases hg
      | 9, _, hg => cases hg
      | 10, _, hg => cases hg
      | 11, _, hg => cases hg
      | 12, _, hg => cases hg
      | m + 13, h, _ => exact absurd h (by show ¬ m + 13 < 13; omega)
    · match i, h, hg with
      | 0, _, hg => cases hg
      | 1, _, hg => cases hg
      | 2, _, hg => cases hg
      | 3, _, hg => cases hg
      | 4, _, hg => cases hg
      | 5, _, hg => cases hg
      | 6, _, hg => cases hg
      | 7, _, hg => cases hg
      | 8, _, hg => cases hg
      | 9, _, hg => cases hg
      | 10, _, hg => cases hg
      | 11, _, hg => cases hg
      | 12, _, hg => cases hg
      | m + 13, h, _ => exact absurd h (by show ¬ m + 13 < 13; omega)
    · match i, h, hr, hf with
      | 0, _, hr, _ => exact Bool.noConfusion (show true = false from hr)
      | 1, _, hr, _ => exact Bool.noConfusion (show true = false from hr)
      | 2, _, hr, _ => exact Bool.noConfusion (show true = false from hr)
      | 3, _, hr, _ => exact Bool.noConfusion (show true = false from hr)
      | 4, _, hr, _ => exact Bool.noConfusion (show true = false from hr)
      | 5, _, hr, _ => exact Bool.noConfusion (show true = false from hr)
      | 6, _, hr, _ => exact Bool.noConfusion (show true = false from hr)
      | 7, _, hr, _ => exact Bool.noConfusion (show true = false from hr)
      | 8, _, hr, _ => exact Bool.noConfusion (show true = false from hr)
      | 9, _, hr, _ => exact Bool.noConfusion (show true = false from hr)
      | 10, _, hr, _ => exact Bool.noConfusion (show true = false from hr)
      | 11, _, hr, _ => exact Bool.noConfusion (show true = false from hr)
      | 12, _, hr, _ => exact Bool.noConfusion (show true = false from hr)
      | m + 13, h, _, _ => exact absurd h (by show ¬ m + 13 < 13; omega)
    · intro i h a W hrun hbase hpre hdep htr hta hJ
      obtain ⟨n0, n1, _, _⟩ := cells_two ((htr.block _ hw1).trans HNB.out)
      match i, h with
      | 0, _ =>
        obtain ⟨e3, x3⟩ := Rv.ev (show a.tmps.getD 3 undef = .pointer (some ⟨w.heap.size, 0, none⟩) from hbase 3 rfl)
        exact Rv.step_op (op := Go.Op.load 24 (Go.Operand.tmp 3)) (v := ptV (x, y)) (w1 := W) rfl rfl (fun d pos aft g => by unfold execOp; go_simp) ⟨_, rfl, rfl, .inr (Below.refl _ _), htr, fun _ ht => ht, fun L _ hJ => Two.keep (by decide) (by decide) _ (Nat.le_refl _) hJ⟩
      | 1, _ =>
        obtain ⟨e13, x13⟩ := Rv.ev (show a.tmps.getD 13 undef = ptV (x, y) from hdep 0 rfl rfl)
        have hal : Below W.heap.size W (W.alloc (.cells #[.float .f64 x, .float .f64 y] 24)) := (Below.refl _ _).alloc (Nat.le_refl _) _
        exact Rv.step_op (op := Go.Op.buildSlice 27 1 #[(0, Go.Operand.tmp 13)]) (ty := 27) (v := .slice (some ⟨W.heap.size, 0, none⟩) 1 1) (w1 := W.alloc (.cells #[.float .f64 x, .float .f64 y] 24)) rfl rfl (fun d pos aft g => by unfold execOp; go_simp) ⟨_, rfl, ⟨W.heap.size, rfl, heap_alloc_new W _⟩, .inr hal, htr.trans (hal.mono htr.size), fun _ ht => ht, fun L _ hJ => Two.keep (by decide) (by decide) _ hal.size hJ⟩
      | 2, _ =>
        obtain ⟨g14, e14', h14⟩ : ∃ g, a.tmps.getD 14 undef = .slice (some ⟨g, 0, none⟩) 1 1 ∧ W.heap[g]? = some (.cells #[.float .f64 x, .float .f64 y] 24 (0, 0)) := hdep 1 rfl rfl
        obtain ⟨e14, x14⟩ := Rv.ev e14'
        have cf : ∀ x0 W, (callFunc 6 #[x0]).run Tryz.prog W = .ok (.enter 6 #[x0]) W := fun _ _ => by kernel_rfl
        refine Rv.step_fn (op := Go.Op.call { callee := Go.Callee.value (Go.Operand.func 6), args := #[Go.Operand.tmp 14], argTypes := #[27] }) (ty := 33) (f := 6) (args := #[.slice (some ⟨g14, 0, none⟩) 1 1]) (R := fun v W' => v = gv (some ⟨g14, 0, none⟩) 1 ∧ Below W.heap.size W W') rfl rfl (fun d pos aft g => by unfold execOp; go_simp) ((GO.out W _ _).mono ?_) ?_
        · (rintro e W' ⟨rfl, hb⟩; exact ⟨_, rfl, rfl, hb⟩)
        · (rintro v W' ⟨rfl, hb⟩; exact ⟨_, rfl, ⟨g14, rfl, (hb.block _ (lt_of_block h14)).trans h14⟩, .inr hb, htr.trans (hb.mono htr.size), fun _ ht => ht, fun L _ hJ => Two.keep (by decide) (by decide) _ hb.size hJ⟩)
      | 3, _ =>
        obtain ⟨e3, x3⟩ := Rv.ev (show a.tmps.getD 3 undef = .pointer (some ⟨w.heap.size, 0, none⟩) from hbase 3 rfl)
        exact Rv.step_op (op := Go.Op.load 24 (Go.Operand.tmp 3)) (v := ptV (x, y)) (w1 := W) rfl rfl (fun d pos aft g => by unfold execOp; go_simp) ⟨_, rfl, rfl, .inr (Below.refl _ _), htr, fun _ ht => ht, fun L _ hJ => Two.keep (by decide) (by decide) _ (Nat.le_refl _) hJ⟩
      | 4, _ =>
        obtain ⟨e16, x16⟩ := Rv.ev (show a.tmps.getD 16 undef = ptV (x, y) from hdep 3 rfl rfl)
        have hal : Below W.heap.size W (W.alloc (.cells #[.float .f64 x, .float .f64 y] 24)) := (Below.refl _ _).alloc (Nat.le_refl _) _
        exact Rv.step_op (op := Go.Op.buildSlice 27 1 #[(0, Go.Operand.tmp 16)]) (ty := 27) (v := .slice (some ⟨W.heap.size, 0, none⟩) 1 1) (w1 := W.alloc (.cells #[.float .f64 x, .float .f64 y] 24)) rfl rfl (fun d pos aft g => by unfold execOp; go_simp) ⟨_, rfl, ⟨W.heap.size, rfl, heap_alloc_new W _⟩, .inr hal, htr.trans (hal.mono htr.size), fun _ ht => ht, fun L _ hJ => Two.keep (by decide) (by decide) _ hal.size hJ⟩
      | 5, _ =>
        obtain ⟨e1, x1⟩ := Rv.ev (show a.tmps.getD 1 undef = .int .i8 za from hbase 1 rfl)
        exact Rv.step_op (op := Go.Op.move (Go.Operand.tmp 1)) (v := .int .i8 za) (w1 := W) rfl rfl (fun d pos aft g => by unfold execOp; go_simp) ⟨_, rfl, rfl, .inr (Below.refl _ _), htr, fun _ ht => ht, fun L _ hJ => Two.keep (by decide) (by decide) _ (Nat.le_refl _) hJ⟩
      | 6, _ =>
        obtain ⟨e2, x2⟩ := Rv.ev (show a.tmps.getD 2 undef = .int .i8 zb from hbase 2 rfl)
        exact Rv.step_op (op := Go.Op.move (Go.Operand.tmp 2)) (v := .int .i8 zb) (w1 := W) rfl rfl (fun d pos aft g => by unfold execOp; go_simp) ⟨_, rfl, rfl, .inr (Below.refl _ _), htr, fun _ ht => ht, fun L _ hJ => Two.keep (by decide) (by decide) _ (Nat.le_refl _) hJ⟩
      | 7, _ =>
        obtain ⟨g17, e17', h17⟩ : ∃ g, a.tmps.getD 17 undef = .slice (some ⟨g, 0, none⟩) 1 1 ∧ W.heap[g]? = some (.cells #[.float .f64 x, .float .f64 y] 24 (0, 0)) := hdep 4 rfl rfl
        obtain ⟨e17, x17⟩ := Rv.ev e17'
        obtain ⟨e18, x18⟩ := Rv.ev (show a.tmps.getD 18 undef = .int .i8 za from hdep 5 rfl rfl)
        obtain ⟨e19, x19⟩ := Rv.ev (show a.tmps.getD 19 undef = .int .i8 zb from hdep 6 rfl rfl)
        have cf : ∀ x0 x1 x2 W, (callFunc 7 #[x0, x1, x2]).run Tryz.prog W = .ok (.enter 7 #[x0, x1, x2]) W := fun _ _ _ _ => by kernel_rfl
        refine Rv.step_fn (op := Go.Op.call { callee := Go.Callee.value (Go.Operand.func 7), args := #[Go.Operand.tmp 17, Go.Operand.tmp 18, Go.Operand.tmp 19], argTypes := #[27, 25, 25] }) (ty := 27) (f := 7) (args := #[.slice (some ⟨g17, 0, none⟩) 1 1, .int .i8 za, .int .i8 zb]) (R := fun v W' => (∃ A c, v = .slice A 1 c ∧ Mvd w.heap.size z za zb W' A c) ∧ Below W.heap.size W W') rfl rfl (fun d pos aft g => by unfold execOp; go_simp) ((MV.out W _ _ (rd_blk h17)).mono ?_) ?_
        · rintro e W' ⟨A, c, l, rfl, ho, hf, hb⟩
          obtain ⟨q, rfl⟩ : ∃ q, l = [q] := one_of (by simpa using hf.1)
          exact ⟨_, rfl, ⟨A, c, rfl, q, ho.mono (Nat.le_trans (Nat.le_of_lt hw1) htr.size), hf⟩, hb⟩
        · (rintro v W' ⟨hv, hb⟩; exact ⟨_, rfl, hv, .inr hb, htr.trans (hb.mono htr.size), fun _ ht => ht, fun L _ hJ => Two.keep (by decide) (by decide) _ hb.size hJ⟩)
      | 8, _ =>
        obtain ⟨A20, c20, e20', h20⟩ : ∃ A c, a.tmps.getD 20 undef = .slice A 1 c ∧ Mvd w.heap.size z za zb W A c := hdep 7 rfl rfl
        obtain ⟨e20, x20⟩ := Rv.ev e20'
        have cf : ∀ x0 W, (callFunc 6 #[x0]).run Tryz.prog W = .ok (.enter 6 #[x0]) W := fun _ _ => by kernel_rfl
        refine Rv.step_fn (op := Go.Op.call { callee := Go.Callee.value (Go.Operand.func 6), args := #[Go.Operand.tmp 20], argTypes := #[27] }) (ty := 33) (f := 6) (args := #[.slice A20 1 c20]) (R := fun v W' => v = gv A20 c20 ∧ Below W.heap.size W W') rfl rfl (fun d pos aft g => by unfold execOp; go_simp) ((GO.out W _ _).mono ?_) ?_
        · (rintro e W' ⟨rfl, hb⟩; exact ⟨_, rfl, rfl, hb⟩)
        · (rintro v W' ⟨rfl, hb⟩; obtain ⟨q, ho, hq⟩ := h20; exact ⟨_, rfl, ⟨A20, c20, rfl, q, own_below ho hb, hq⟩, .inr hb, htr.trans (hb.mono htr.size), fun _ ht => ht, fun L _ hJ => Two.keep (by decide) (by decide) _ hb.size hJ⟩)
      | 9, _ =>
        have hal : Below W.heap.size W (W.alloc (.cells zer 33)) := (Below.refl _ _).alloc (Nat.le_refl _) _
        exact Rv.step_op (op := Go.Op.alloc 33) (ty := 0) (v := .pointer (some ⟨W.heap.size, 0, none⟩)) (w1 := W.alloc (.cells zer 33)) rfl rfl (fun d pos aft g => by unfold execOp; go_simp) ⟨_, rfl, ⟨W.heap.size, rfl, heap_alloc_new W _⟩, .inr hal, htr.trans (hal.mono htr.size), fun _ ht => ht, fun L _ hJ => Two.nine htr.size (by simp) hJ⟩
      | 10, _ =>
        have hal : Below W.heap.size W (W.alloc (.cells zer 33)) := (Below.refl _ _).alloc (Nat.le_refl _) _
        exact Rv.step_op (op := Go.Op.alloc 33) (ty := 0) (v := .pointer (some ⟨W.heap.size, 0, none⟩)) (w1 := W.alloc (.cells zer 33)) rfl rfl (fun d pos aft g => by unfold execOp; go_simp) ⟨_, rfl, ⟨W.heap.size, rfl, heap_alloc_new W _⟩, .inr hal, htr.trans (hal.mono htr.size), fun _ ht => ht, fun L _ hJ => Two.ten htr.size (by simp) hJ⟩
      | 11, _ =>
        obtain ⟨g7, e7', h7⟩ : ∃ g, a.tmps.getD 7 undef = .pointer (some ⟨g, 0, none⟩) ∧ W.heap[g]? = some (.cells zer 33 (0, 0)) := hdep 9 rfl rfl
        obtain ⟨e7, x7⟩ := Rv.ev e7'
        obtain ⟨g15, e15', h15⟩ : ∃ g, a.tmps.getD 15 undef = gv (some ⟨g, 0, none⟩) 1 ∧ W.heap[g]? = some (.cells #[.float .f64 x, .float .f64 y] 24 (0, 0)) := hdep 2 rfl rfl
        obtain ⟨e15, x15⟩ := Rv.ev e15'
        obtain ⟨L, _, hL, hJ2⟩ := hJ
        have hne := hJ2.2.2 (hL 9 rfl) (hL 10 rfl)
        have hge : X.heap.size ≤ g7 := by
          obtain ⟨g, eg, hge, _⟩ := hJ2.1 (hL 9 rfl)
          have eg2 : Value.pointer (some ⟨g, 0, none⟩) = .pointer (some ⟨g7, 0, none⟩) := eg.symm.trans e7'
          injection eg2 with eg2
          injection eg2 with eg2
          injection eg2 with eg2
          omega
        obtain ⟨k0, k1, k2, k3, k4, k5⟩ := six h7
        obtain ⟨m0, m1, m2, m3, m4, m5⟩ := sixf h7
        exact Rv.step_skip (op := Go.Op.store 33 (Go.Operand.tmp 7) (Go.Operand.tmp 15)) (ty := 0) (w1 := ((((((W.setCell ⟨g7, 0, none⟩ (.int .i64 1)).setCell ⟨g7, 1, none⟩ (.int .u32 0)).setCell ⟨g7, 2, none⟩ (.slice (some ⟨g15, 0, none⟩) 1 1)).setCell ⟨g7, 3, none⟩ (.slice none 0 0)).setCell ⟨g7, 4, none⟩ (.slice none 0 0)).setCell ⟨g7, 5, none⟩ (.slice none 0 0))) rfl rfl (fun d pos aft g => by unfold execOp; go_simp) ⟨undef, rfl, ⟨g7, _, e7', e15', set_six rfl h7 _ _ _ _ _ _⟩, .inl ⟨rfl, hne, g7, zer, h7, but_six _ _ _ _ _ _ _ _, e7'⟩, below_six htr hge _ _ _ _ _ _, (fun h _ => by cases h), fun L _ hJ => Two.keep (by decide) (by decide) _ (but_six g7 W _ _ _ _ _ _).1 hJ⟩
      | 12, _ =>
        obtain ⟨g8, e8', h8⟩ : ∃ g, a.tmps.getD 8 undef = .pointer (some ⟨g, 0, none⟩) ∧ W.heap[g]? = some (.cells zer 33 (0, 0)) := hdep 10 rfl rfl
        obtain ⟨e8, x8⟩ := Rv.ev e8'
        obtain ⟨A21, c21, e21', h21⟩ : ∃ A c, a.tmps.getD 21 undef = gv A c ∧ Mvd w.heap.size z za zb W A c := hdep 8 rfl rfl
        obtain ⟨e21, x21⟩ := Rv.ev e21'
        obtain ⟨L, _, hL, hJ2⟩ := hJ
        have hne := hJ2.2.2 (hL 9 rfl) (hL 10 rfl)
        have hge : X.heap.size ≤ g8 := by
          obtain ⟨g, eg, hge, _⟩ := hJ2.2.1 (hL 10 rfl)
          have eg2 : Value.pointer (some ⟨g, 0, none⟩) = .pointer (some ⟨g8, 0, none⟩) := eg.symm.trans e8'
          injection eg2 with eg2
          injection eg2 with eg2
          injection eg2 with eg2
          omega
        obtain ⟨k0, k1, k2, k3, k4, k5⟩ := six h8
        obtain ⟨m0, m1, m2, m3, m4, m5⟩ := sixf h8
        exact Rv.step_skip (op := Go.Op.store 33 (Go.Operand.tmp 8) (Go.Operand.tmp 21)) (ty := 0) (w1 := ((((((W.setCell ⟨g8, 0, none⟩ (.int .i64 1)).setCell ⟨g8, 1, none⟩ (.int .u32 0)).setCell ⟨g8, 2, none⟩ (.slice A21 1 c21)).setCell ⟨g8, 3, none⟩ (.slice none 0 0)).setCell ⟨g8, 4, none⟩ (.slice none 0 0)).setCell ⟨g8, 5, none⟩ (.slice none 0 0))) rfl rfl (fun d pos aft g => by unfold execOp; go_simp) ⟨undef, rfl, ⟨g8, _, e8', e21', set_six rfl h8 _ _ _ _ _ _⟩, .inl ⟨rfl, hne, g8, zer, h8, but_six _ _ _ _ _ _ _ _, e8'⟩, below_six htr hge _ _ _ _ _ _, (fun h _ => by cases h), fun L _ hJ => Two.keep (by decide) (by decide) _ (but_six g8 W _ _ _ _ _ _).1 hJ⟩
      | m + 13, h => exact absurd h (by show ¬ m + 13 < 13; omega)
    intro W f hf htr hJ
    have f0 : f 0 = ptV (x, y) := hf 0 (by show 0 < 13; omega) rfl
    have HS1 := Lib.hid (show (fun f W => ∃ g, f 1 = .slice (some ⟨g, 0, none⟩) 1 1 ∧ W.heap[g]? = some (.cells #[.float .f64 x, .float .f64 y] 24 (0, 0))) f W from hf 1 (by show 1 < 13; omega) rfl)
    have HS2 := Lib.hid (show (fun f W => ∃ g, f 2 = gv (some ⟨g, 0, none⟩) 1 ∧ W.heap[g]? = some (.cells #[.float .f64 x, .float .f64 y] 24 (0, 0))) f W from hf 2 (by show 2 < 13; omega) rfl)
    have f3 : f 3 = ptV (x, y) := hf 3 (by show 3 < 13; omega) rfl
    have HS4 := Lib.hid (show (fun f W => ∃ g, f 4 = .slice (some ⟨g, 0, none⟩) 1 1 ∧ W.heap[g]? = some (.cells #[.float .f64 x, .float .f64 y] 24 (0, 0))) f W from hf 4 (by show 4 < 13; omega) rfl)
    have f5 : f 5 = .int .i8 za := hf 5 (by show 5 < 13; omega) rfl
    have f6 : f 6 = .int .i8 zb := hf 6 (by show 6 < 13; omega) rfl
    have HS7 := Lib.hid (show (fun f W => ∃ A c, f 7 = .slice A 1 c ∧ Mvd w.heap.size z za zb W A c) f W from hf 7 (by show 7 < 13; omega) rfl)
    have HS8 := Lib.hid (show (fun f W => ∃ A c, f 8 = gv A c ∧ Mvd w.heap.size z za zb W A c) f W from hf 8 (by show 8 < 13; omega) rfl)
    have HS11 := Lib.hid (show (fun f W => ∃ g gs, f 9 = .pointer (some ⟨g, 0, none⟩) ∧ f 2 = .agg gs ∧ W.heap[g]? = some (.cells gs 33 (0, 0))) f W from hf 11 (by show 11 < 13; omega) rfl)
    have HS12 := Lib.hid (show (fun f W => ∃ g gs, f 10 = .pointer (some ⟨g, 0, none⟩) ∧ f 8 = .agg gs ∧ W.heap[g]? = some (.cells gs 33 (0, 0))) f W from hf 12 (by show 12 < 13; omega) rfl)
    clear hf
    refine (show ∀ (a : Act) (w : World), Code.wp _ _ _ a w → _ from by assumption) _ _ ?_
    refine Rv.fin_swap (L' := [(13, f 0), (14, f 1), (15, f 2), (16, f 3), (17, f 4), (18, f 5), (19, f 6), (20, f 7), (21, f 8), (7, f 9), (8, f 10), (1011, f 11), (1012, f 12)]) rfl ?_
    rw [f0, f3, f5, f6]
    clear f0 f3 f5 f6
    simp only [Rv.fin, List.foldl_cons, List.foldl_nil, Act.put, List.setIfInBounds_toArray, List.set_cons_succ, List.set_cons_zero, List.set_nil]
    obtain ⟨g1, e1, _⟩ := HS1.out
    obtain ⟨g2, e2, hb2⟩ := HS2.out
    obtain ⟨g4, e4, _⟩ := HS4.out
    obtain ⟨A7, c7, e7, _⟩ := HS7.out
    obtain ⟨A8, c8, e8, q, ho, hq⟩ := HS8.out
    obtain ⟨g9, gs9, e9, e2x, hb9⟩ := HS11.out
    obtain ⟨g10, gs10, e10, e8x, hb10⟩ := HS12.out
    rw [e2] at e2x
    rw [e8] at e8x
    injection e2x with e2x
    injection e8x with e8x
    subst e2x
    subst e8x
    rw [e1, e2, e4, e7, e8, e9, e10]
    clear e1 e2 e4 e7 e8 e9 e10 HS1 HS2 HS4 HS7 HS8 HS11 HS12 hJ MV GO hr_of
    have hq0 := hq.2 0 (by simp) (by simp)
    have P1 := peq_self (p := (x, y)) HZ.out
    have P2 : peq (x, y) q = (decide (za = 0) && decide (zb = 0)) := peq_moved HZ.out hq0
    have P3 : peq q (x, y) = (decide (za = 0) && decide (zb = 0)) := (peq_comm _ _).trans P2
    have H2 := fun W' (hb : Below W.heap.size W W') => rd_blk ((hb.block _ (lt_of_block hb2)).trans hb2)
    have H8 := fun W' (hb : Below W.heap.size W W') => Rd.of_own (own_below ho hb)
    have S9 := Lib.hid (fun W' (hb : Below W.heap.size W W') => six ((hb.block _ (lt_of_block hb9)).trans hb9))
    have S10 := Lib.hid (fun W' (hb : Below W.heap.size W W') => six ((hb.block _ (lt_of_block hb10)).trans hb10))
    have E1 := Lib.hid (fun W' hb => geEqual_any _ _ 1 1 (x, y) (x, y) W' (H2 W' hb) (H2 W' hb))
    have E2 := Lib.hid (fun W' hb => geEqual_any _ _ 1 c8 (x, y) q W' (H2 W' hb) (H8 W' hb))
    have E3 := Lib.hid (fun W' hb => geEqual_any _ _ c8 1 q (x, y) W' (H8 W' hb) (H2 W' hb))
    rw [P1] at E1
    rw [P2] at E2
    rw [P3] at E3
    have HWB := Lib.hid (HB1.out.trans (htr.mono (Nat.le_of_lt hw1)))
    have HB0 := Lib.hid (Below.refl W.heap.size W)
    obtain ⟨k0, k1, k2, k3, k4, k5⟩ := S9.out _ HB0.out
    obtain ⟨m0, m1, m2, m3, m4, m5⟩ := S10.out _ HB0.out
    clear hb2 hb9 hb10 ho hq hq0 P1 P2 P3 H2 H8 htr hw1 HB1 HZ HBD HFP HNB
    by_cases hza : za = 0
    · by_cases hzb : zb = 0
      · subst hza hzb
        rw [show (decide ((0 : Int) = 0) && decide ((0 : Int) = 0)) = true by rfl] at E2 E3
        go_wp2_with (first
          | (go_at_call 8; (with_reducible refine (E1.out _ HB0.out).mono ?_); rintro e w2 ⟨rfl, hb⟩; have HB2 := Lib.hid (HB0.out.trans (hb.mono HB0.out.size)); clear hb k0 k1 k2 k3 k4 k5 m0 m1 m2 m3 m4 m5; obtain ⟨k0, k1, k2, k3, k4, k5⟩ := S9.out _ HB2.out; obtain ⟨m0, m1, m2, m3, m4, m5⟩ := S10.out _ HB2.out)
          | (go_at_call 8; (with_reducible refine (E2.out _ HB2.out).mono ?_); rintro e w3 ⟨rfl, hb⟩; have HB3 := Lib.hid (HB2.out.trans (hb.mono HB2.out.size)); clear hb k0 k1 k2 k3 k4 k5 m0 m1 m2 m3 m4 m5; obtain ⟨k0, k1, k2, k3, k4, k5⟩ := S9.out _ HB3.out; obtain ⟨m0, m1, m2, m3, m4, m5⟩ := S10.out _ HB3.out)
          | (go_at_call 8; (with_reducible refine (E3.out _ HB3.out).mono ?_); rintro e w4 ⟨rfl, hb⟩; have HB4 := Lib.hid (HB3.out.trans (hb.mono HB3.out.size)); clear hb))
        go_ret
        exact ⟨rfl, HWB.out.trans (HB4.out.mono HWB.out.size)⟩
      · subst hza
        have hd1 : decide (zb = 0) = false := by simp [hzb]
        have hd2 : (zb == 0) = false := by simp [hzb]
        rw [show (decide ((0 : Int) = 0) && decide (zb = 0)) = false by simp [hzb]] at E2 E3
        clear hzb
        go_wp2_with (first
          | (go_at_call 8; (with_reducible refine (E1.out _ HB0.out).mono ?_); rintro e w2 ⟨rfl, hb⟩; have HB2 := Lib.hid (HB0.out.trans (hb.mono HB0.out.size)); clear hb k0 k1 k2 k3 k4 k5 m0 m1 m2 m3 m4 m5; obtain ⟨k0, k1, k2, k3, k4, k5⟩ := S9.out _ HB2.out; obtain ⟨m0, m1, m2, m3, m4, m5⟩ := S10.out _ HB2.out)
          | (go_at_call 8; (with_reducible refine (E2.out _ HB2.out).mono ?_); rintro e w3 ⟨rfl, hb⟩; have HB3 := Lib.hid (HB2.out.trans (hb.mono HB2.out.size)); clear hb k0 k1 k2 k3 k4 k5 m0 m1 m2 m3 m4 m5; obtain ⟨k0, k1, k2, k3, k4, k5⟩ := S9.out _ HB3.out; obtain ⟨m0, m1, m2, m3, m4, m5⟩ := S10.out _ HB3.out)
          | (go_at_call 8; (with_reducible refine (E3.out _ HB3.out).mono ?_); rintro e w4 ⟨rfl, hb⟩; have HB4 := Lib.hid (HB3.out.trans (hb.mono HB3.out.size)); clear hb))
        go_ret
        exact ⟨rfl, HWB.out.trans (HB4.out.mono HWB.out.size)⟩
    ·   have hd1 : decide (za = 0) = false := by simp [hza]
        have hd2 : (za == 0) = false := by simp [hza]
        rw [show (decide (za = 0) && decide (zb = 0)) = false by simp [hza]] at E2 E3
        clear hza
        go_wp2_with (first
          | (go_at_call 8; (with_reducible refine (E1.out _ HB0.out).mono ?_); rintro e w2 ⟨rfl, hb⟩; have HB2 := Lib.hid (HB0.out.trans (hb.mono HB0.out.size)); clear hb k0 k1 k2 k3 k4 k5 m0 m1 m2 m3 m4 m5; obtain ⟨k0, k1, k2, k3, k4, k5⟩ := S9.out _ HB2.out; obtain ⟨m0, m1, m2, m3, m4, m5⟩ := S10.out _ HB2.out)
          | (go_at_call 8; (with_reducible refine (E2.out _ HB2.out).mono ?_); rintro e w3 ⟨rfl, hb⟩; have HB3 := Lib.hid (HB2.out.trans (hb.mono HB2.out.size)); clear hb k0 k1 k2 k3 k4 k5 m0 m1 m2 m3 m4 m5; obtain ⟨k0, k1, k2, k3, k4, k5⟩ := S9.out _ HB3.out; obtain ⟨m0, m1, m2, m3, m4, m5⟩ := S10.out _ HB3.out)
          | (go_at_call 8; (with_reducible refine (E3.out _ HB3.out).mono ?_); rintro e w4 ⟨rfl, hb⟩; have HB4 := Lib.hid (HB3.out.trans (hb.mono HB3.out.size)); clear hb))
        go_ret
        exact ⟨rfl, HWB.out.trans (HB4.out.mono HWB.out.size)⟩

/- The specification's pieces of a merge: lists, where a name stands, an item in the place of another one. Conditions: those written at each lemma. -/
import Derived.Test.YtmelgankbegjaaaKd
import Derived.Test.YtmelgankbegjaaaMc
set_option linter.unusedVariables false
set_option linter.unusedSimpArgs false
set_option maxRecDepth 100000
set_option maxHeartbeats 8000000
namespace Go.Proofs.Ytmelgankbegjaaa.Js
open Go.RowKit Go.Proofs.Ytmelgankbegjaaa.B

theorem list_own (E : Nat → Prop) (t : J) (v : Value) (w : World) (hwf : Wf t) (hE : ∀ x, E x → x < w.heap.size) (hj : JN E w t v) : Calls Try.prog 22 #[v] w fun e w' => ∃ A9 c9 hs, e = .returned (.slice A9 (lsJ t).length c9) ∧ w'.ownsRow w.heap.size 26 5 (.slice A9 (lsJ t).length c9) (lsJ t).length (flat hs) ∧ JNs E w' (lsJ t) hs ∧ Below w.heap.size w w' := by
  obtain ⟨A, c, A2, c2, e1, hn, hs, hi, hh⟩ := hj.five
  obtain ⟨hl4, _⟩ := hwf.short
  subst e1
  have hx0 := heap_alloc_new w (.cells #[.int .i64 t.k, .int .i64 t.n, .string t.s, .slice A t.ns.length c, .slice A2 t.is.length c2] 26)
  obtain ⟨y0, y1, y2, y3, y4⟩ := Rv.cells5 hx0
  have hal := (Below.refl w.heap.size w).alloc (Nat.le_refl _) (.cells #[.int .i64 t.k, .int .i64 t.n, .string t.s, .slice A t.ns.length c, .slice A2 t.is.length c2] 26)
  have hsz : (w.alloc (.cells #[.int .i64 t.k, .int .i64 t.n, .string t.s, .slice A t.ns.length c, .slice A2 t.is.length c2] 26)).heap.size = w.heap.size + 1 := by simp
  by_cases hk : t.k = 4
  · have hkb : (t.k == 4) = true := by simp [hk]
    have hal2 : Below w.heap.size w ((w.alloc (.cells #[.int .i64 t.k, .int .i64 t.n, .string t.s, .slice A t.ns.length c, .slice A2 t.is.length c2] 26)).alloc (.cells #[] 26)) := hal.alloc (by omega) _
    have HO := Lib.hid (World.ownsRow_lit (base := w.heap.size) (e := 26) (size := 5) (w.alloc (.cells #[.int .i64 t.k, .int .i64 t.n, .string t.s, .slice A t.ns.length c, .slice A2 t.is.length c2] 26)) #[] 0 (by omega) (by simp [maxLen]) rfl)
    rw [hsz] at HO
    have HR := Lib.hid (hi.1.below hal2)
    have HH := Lib.hid (hh.below hal2)
    have HF := Lib.hid (flat_cells hh)
    have HA2 := Lib.hid hal2
    have hs2 : ((w.alloc (.cells #[.int .i64 t.k, .int .i64 t.n, .string t.s, .slice A t.ns.length c, .slice A2 t.is.length c2] 26)).alloc (.cells #[] 26)).heap.size = w.heap.size + 2 := by simp
    have HK := Lib.hid hk
    clear hal hal2 hx0 hsz hn hi hh hj hk
    go_enter Try.func22, Try.ntmps22
    go_upto_region 2 with fail
    go_wp2_with (at_builtin; (refine appRs (w0 := (w.alloc (.cells #[.int .i64 t.k, .int .i64 t.n, .string t.s, .slice A t.ns.length c, .slice A2 t.is.length c2] 26)).alloc (.cells #[] 26)) rfl (.tmp 6) (.tmp 8) 24 rfl w.heap.size 26 (.agg #[.int .i64 0, .int .i64 0, .string ⟨#[]⟩, .slice none 0 0, .slice none 0 0]) 5 80 Try.underlying24 info26 rfl (by omega) (by omega) _ 0 [] rfl HO.out ((Below.refl _ _)) _ _ _ rfl HR.out HF.out (by omega) (by omega) ?_; intro A9 c9 w9 hown9 hb9 hg9; rw [Nat.zero_add, List.nil_append] at hown9; rw [Nat.zero_add]; have hg9 : ((w.alloc (.cells #[.int .i64 t.k, .int .i64 t.n, .string t.s, .slice A t.ns.length c, .slice A2 t.is.length c2] 26)).alloc (.cells #[] 26)).grownBy w9 (some (w.heap.size + 1)) := hg9; have HO9 := Lib.hid hown9; have HJ9 := Lib.hid ((HH.out.grown hg9 (fun x hx e => by have := hE x hx; injection e with e; omega))); have HB := Lib.hid (HA2.out.grown hg9 HA2.out.size (fun k hk => by injection hk with hk; omega)); clear hown9 hb9 hg9))
    go_ret
    have e1 : lsJ t = t.is := by unfold lsJ; rw [if_pos HK.out]
    rw [e1]
    exact ⟨A9, c9, rfl, hs, HO9.out, HJ9.out, HB.out⟩
  · have hkb : (t.k == 4) = false := by simp [hk]
    have HK := Lib.hid hk
    have hal3 : Below w.heap.size w ((w.alloc (.cells #[.int .i64 t.k, .int .i64 t.n, .string t.s, .slice A t.ns.length c, .slice A2 t.is.length c2] 26)).alloc (.cells #[.int .i64 t.k, .int .i64 t.n, .string t.s, .slice A t.ns.length c, .slice A2 t.is.length c2] 26)) := hal.alloc (by omega) _
    have HB := Lib.hid hal3
    have HO := Lib.hid ((World.ownsRow_lit (base := w.heap.size) (e := 26) (size := 5) (w.alloc (.cells #[.int .i64 t.k, .int .i64 t.n, .string t.s, .slice A t.ns.length c, .slice A2 t.is.length c2] 26)) #[.int .i64 t.k, .int .i64 t.n, .string t.s, .slice A t.ns.length c, .slice A2 t.is.length c2] 1 (by omega) (by simp [maxLen]) rfl))
    rw [hsz] at HO
    have HJ := Lib.hid ((hj.below hal3))
    clear hal hal3 hx0 hsz hn hi hh hj hk
    go_enter Try.func22, Try.ntmps22
    go_wp2
    go_ret
    have e1 : lsJ t = [t] := by unfold lsJ; rw [if_neg HK.out]
    rw [e1]
    exact ⟨_, _, rfl, [_], by simp only [flat, List.flatMap_cons, List.flatMap_nil, List.append_nil]; exact HO.out, ⟨_, [], rfl, HJ.out, rfl⟩, HB.out⟩

theorem set5 (l1 l2 : List Value) (o0 o1 o2 o3 o4 a0 a1 a2 a3 a4 : Value) : (((((l1 ++ (o0 :: o1 :: o2 :: o3 :: o4 :: l2)).set l1.length a0).set (l1.length + 1) a1).set (l1.length + 2) a2).set (l1.length + 3) a3).set (l1.length + 4) a4 = l1 ++ (a0 :: a1 :: a2 :: a3 :: a4 :: l2) := by
  simp [List.set_append]
/-- The five cells of an item are written: the row reads with that item in its place. -/
theorem own_set5 {W : World} {B g n c : Nat} {l1 l2 : List Value} {o0 o1 o2 o3 o4 : Value} (ho : W.ownsRow B 26 5 (.slice (some ⟨g, 0, none⟩) n c) n (l1 ++ (o0 :: o1 :: o2 :: o3 :: o4 :: l2))) (a0 a1 a2 a3 a4 : Value) (m : Nat) (hm : m = l1.length) :
    (((((W.setCell ⟨g, m, none⟩ a0).setCell ⟨g, m + 1, none⟩ a1).setCell ⟨g, m + 2, none⟩ a2).setCell ⟨g, m + 3, none⟩ a3).setCell ⟨g, m + 4, none⟩ a4).ownsRow B 26 5 (.slice (some ⟨g, 0, none⟩) n c) n (l1 ++ (a0 :: a1 :: a2 :: a3 :: a4 :: l2)) ∧
    (W.frozen? ⟨g, m, none⟩ = false ∧ W.frozen? ⟨g, m + 1, none⟩ = false ∧ W.frozen? ⟨g, m + 2, none⟩ = false ∧ W.frozen? ⟨g, m + 3, none⟩ = false ∧ W.frozen? ⟨g, m + 4, none⟩ = false) ∧
    W.cell? ⟨g, m, none⟩ = some o0 ∧ W.cell? ⟨g, m + 1, none⟩ = some o1 ∧ W.cell? ⟨g, m + 2, none⟩ = some o2 ∧ W.cell? ⟨g, m + 3, none⟩ = some o3 ∧ W.cell? ⟨g, m + 4, none⟩ = some o4 := by
  subst hm
  have hlen := ho.1
  simp only [List.length_append, List.length_cons] at hlen
  have h1 := (((((ho.stored l1.length a0).1.stored (l1.length + 1) a1).1.stored (l1.length + 2) a2).1.stored (l1.length + 3) a3).1.stored (l1.length + 4) a4).1
  rw [set5] at h1
  refine ⟨h1, ⟨ho.frozenAt _, ho.frozenAt _, ho.frozenAt _, ho.frozenAt _, ho.frozenAt _⟩, ?_, ?_, ?_, ?_, ?_⟩
  all_goals
    rw [ho.cellAt _ (by omega), List.getElem?_append_right (by omega)]
    simp
theorem JNs.set {p : Nat → Prop} {W : World} {t : J} {v : Value} : ∀ {ts : List J} {hs : List Value} (i : Nat), JNs p W ts hs → JN p W t v → JNs p W (ts.set i t) (hs.set i v)
  | [], hs, i, h, hx => by
    rw [show hs = [] from h]
    rfl
  | t' :: r, hs, 0, h, hx => by
    obtain ⟨x, hs', rfl, _, h2⟩ := h
    exact ⟨v, hs', rfl, hx, h2⟩
  | t' :: r, hs, i + 1, h, hx => by
    obtain ⟨x, hs', rfl, h1, h2⟩ := h
    exact ⟨x, hs'.set i v, rfl, h1, JNs.set i h2 hx⟩
theorem flat_len5 : ∀ {hs : List Value}, (∀ x ∈ hs, x.cells.size = 5) → (flat hs).length = hs.length * 5
  | [], _ => rfl
  | x :: r, h => by
    show (x.cells.toList ++ flat r).length = _
    rw [List.length_append, Array.length_toList, h x (.head _), flat_len5 (fun y hy => h y (.tail _ hy)), List.length_cons]
    omega
theorem flat_split (hs : List Value) (i : Nat) (hi : i < hs.length) : flat hs = flat (hs.take i) ++ ((hs[i]).cells.toList ++ flat (hs.drop (i + 1))) := by
  have e : hs = hs.take i ++ hs[i] :: hs.drop (i + 1) := by simp
  exact (congrArg flat e).trans (by simp only [flat, List.flatMap_append, List.flatMap_cons])
theorem flat_set (hs : List Value) (i : Nat) (hi : i < hs.length) (v : Value) : flat (hs.set i v) = flat (hs.take i) ++ (v.cells.toList ++ flat (hs.drop (i + 1))) := by
  rw [List.set_eq_take_append_cons_drop, if_pos hi]
  simp [flat]
/-- jsWith: an item in the place of another one. -/
theorem with_any (E : Nat → Prop) (t tx : J) (v vx : Value) (i : Nat) (w : World) (hE : ∀ x, E x → x < w.heap.size) (hj : JN E w t v) (hx : JN E w tx vx) (hi : i < t.is.length) (h8 : t.is.length ≤ 8) :
    Calls Try.prog 36 #[v, .int .i64 (i : Int), vx] w fun e w' => ∃ u, e = .returned u ∧ JN (fun x => E x ∨ w.heap.size ≤ x) w' (.mk t.k t.n t.s t.ns (t.is.set i tx)) u ∧ Below w.heap.size w w' := by
  obtain ⟨A, c, A2, c2, rfl, hn, hs, hI, hH⟩ := hj.five
  obtain ⟨C, d, C2, d2, rfl, _⟩ := hx.five
  have hsl := hH.len
  have hX : Below w.heap.size w ((((w.alloc (.cells #[.int .i64 t.k, .int .i64 t.n, .string t.s, .slice A t.ns.length c, .slice A2 t.is.length c2] 26)).alloc (.cells #[.int .i64 tx.k, .int .i64 tx.n, .string tx.s, .slice C tx.ns.length d, .slice C2 tx.is.length d2] 26)).alloc (.cells #[.int .i64 0, .int .i64 0, .string ⟨#[]⟩, .slice none 0 0, .slice none 0 0] 26)).alloc (.cells #[] 26)) := ((((Below.refl _ _).alloc (Nat.le_refl _) _).alloc (by simp) _).alloc (by simp; omega) _).alloc (by simp; omega) _
  have e1 : (w.alloc (.cells #[.int .i64 t.k, .int .i64 t.n, .string t.s, .slice A t.ns.length c, .slice A2 t.is.length c2] 26)).heap.size = w.heap.size + 1 := by simp
  have e2 : ((w.alloc (.cells #[.int .i64 t.k, .int .i64 t.n, .string t.s, .slice A t.ns.length c, .slice A2 t.is.length c2] 26)).alloc (.cells #[.int .i64 tx.k, .int .i64 tx.n, .string tx.s, .slice C tx.ns.length d, .slice C2 tx.is.length d2] 26)).heap.size = w.heap.size + 1 + 1 := by simp
  have e3 : (((w.alloc (.cells #[.int .i64 t.k, .int .i64 t.n, .string t.s, .slice A t.ns.length c, .slice A2 t.is.length c2] 26)).alloc (.cells #[.int .i64 tx.k, .int .i64 tx.n, .string tx.s, .slice C tx.ns.length d, .slice C2 tx.is.length d2] 26)).alloc (.cells #[.int .i64 0, .int .i64 0, .string ⟨#[]⟩, .slice none 0 0, .slice none 0 0] 26)).heap.size = w.heap.size + 1 + 1 + 1 := by simp
  have old : ∀ {W : World} {o x : Obj} {k : Nat}, W.heap[k]? = some x → (W.alloc o).heap[k]? = some x := fun {W o x k} h => (((Below.refl _ _).alloc (Nat.le_refl _) o : Below W.heap.size W (W.alloc o)).block k (Rv.lt_of_blk h)).trans h
  have HA := Lib.hid (old (o := .cells #[] 26) (old (o := .cells #[.int .i64 0, .int .i64 0, .string ⟨#[]⟩, .slice none 0 0, .slice none 0 0] 26) (old (o := (.cells #[.int .i64 tx.k, .int .i64 tx.n, .string tx.s, .slice C tx.ns.length d, .slice C2 tx.is.length d2] 26)) (heap_alloc_new w (.cells #[.int .i64 t.k, .int .i64 t.n, .string t.s, .slice A t.ns.length c, .slice A2 t.is.length c2] 26)))))
  have HB := Lib.hid (old (o := .cells #[] 26) (old (o := .cells #[.int .i64 0, .int .i64 0, .string ⟨#[]⟩, .slice none 0 0, .slice none 0 0] 26) (by have := heap_alloc_new (w.alloc (.cells #[.int .i64 t.k, .int .i64 t.n, .string t.s, .slice A t.ns.length c, .slice A2 t.is.length c2] 26)) (.cells #[.int .i64 tx.k, .int .i64 tx.n, .string tx.s, .slice C tx.ns.length d, .slice C2 tx.is.length d2] 26); rw [e1] at this; exact this)))
  have HC := Lib.hid (old (o := .cells #[] 26) (by have := heap_alloc_new ((w.alloc (.cells #[.int .i64 t.k, .int .i64 t.n, .string t.s, .slice A t.ns.length c, .slice A2 t.is.length c2] 26)).alloc (.cells #[.int .i64 tx.k, .int .i64 tx.n, .string tx.s, .slice C tx.ns.length d, .slice C2 tx.is.length d2] 26)) (.cells #[.int .i64 0, .int .i64 0, .string ⟨#[]⟩, .slice none 0 0, .slice none 0 0] 26); rw [e2] at this; exact this))
  have HO := Lib.hid (World.ownsRow_lit (base := w.heap.size + 3) (e := 26) (size := 5) (((w.alloc (.cells #[.int .i64 t.k, .int .i64 t.n, .string t.s, .slice A t.ns.length c, .slice A2 t.is.length c2] 26)).alloc (.cells #[.int .i64 tx.k, .int .i64 tx.n, .string tx.s, .slice C tx.ns.length d, .slice C2 tx.is.length d2] 26)).alloc (.cells #[.int .i64 0, .int .i64 0, .string ⟨#[]⟩, .slice none 0 0, .slice none 0 0] 26)) #[] 0 (by rw [e3]; omega) (by simp [maxLen]) rfl)
  rw [e3] at HO
  have HX := Lib.hid hX
  have HJ := Lib.hid hj
  have HJX := Lib.hid hx
  have HN := Lib.hid hn
  have HR := Lib.hid (hI.1.below hX)
  have HH := Lib.hid (hH.below hX)
  have HF := Lib.hid (flat_cells hH)
  have HHC := Lib.hid hH.cells
  have HHJ := Lib.hid hH
  have HSL := Lib.hid hsl
  have hsX : w.heap.size + 4 ≤ ((((w.alloc (.cells #[.int .i64 t.k, .int .i64 t.n, .string t.s, .slice A t.ns.length c, .slice A2 t.is.length c2] 26)).alloc (.cells #[.int .i64 tx.k, .int .i64 tx.n, .string tx.s, .slice C tx.ns.length d, .slice C2 tx.is.length d2] 26)).alloc (.cells #[.int .i64 0, .int .i64 0, .string ⟨#[]⟩, .slice none 0 0, .slice none 0 0] 26)).alloc (.cells #[] 26)).heap.size := by simp
  clear hX old e1 e2 e3 hj hx hn hI hH hsl
  go_enter Try.func36, Try.ntmps36
  obtain ⟨y0, y1, y2, y3, y4⟩ := Rv.cells5 HA.out
  go_upto_region 2 with (at_builtin; go_loud (refine appRs (w0 := ((((w.alloc (.cells #[.int .i64 t.k, .int .i64 t.n, .string t.s, .slice A t.ns.length c, .slice A2 t.is.length c2] 26)).alloc (.cells #[.int .i64 tx.k, .int .i64 tx.n, .string tx.s, .slice C tx.ns.length d, .slice C2 tx.is.length d2] 26)).alloc (.cells #[.int .i64 0, .int .i64 0, .string ⟨#[]⟩, .slice none 0 0, .slice none 0 0] 26)).alloc (.cells #[] 26))) rfl (.tmp 7) (.tmp 9) 24 rfl (w.heap.size + 3) 26 (.agg #[.int .i64 0, .int .i64 0, .string ⟨#[]⟩, .slice none 0 0, .slice none 0 0]) 5 80 Try.underlying24 info26 rfl (by omega) (by omega) _ 0 [] rfl HO.out (Below.refl _ _) _ _ _ rfl HR.out HF.out (by omega) (by omega) ?_; intro A9 c9 w9 hown9 hb9 hg9; rw [Nat.zero_add, List.nil_append] at hown9; rw [Nat.zero_add]; have hg9 : ((((w.alloc (.cells #[.int .i64 t.k, .int .i64 t.n, .string t.s, .slice A t.ns.length c, .slice A2 t.is.length c2] 26)).alloc (.cells #[.int .i64 tx.k, .int .i64 tx.n, .string tx.s, .slice C tx.ns.length d, .slice C2 tx.is.length d2] 26)).alloc (.cells #[.int .i64 0, .int .i64 0, .string ⟨#[]⟩, .slice none 0 0, .slice none 0 0] 26)).alloc (.cells #[] 26)).grownBy w9 (some (w.heap.size + 1 + 1 + 1)) := hg9; have HO9 := Lib.hid hown9; have HG9 := Lib.hid hg9; have HA9 := Lib.hid (blk_grown HA.out hg9 (fun e => by injection e with e; omega)); have HB9 := Lib.hid (blk_grown HB.out hg9 (fun e => by injection e with e; omega)); have HC9 := Lib.hid (blk_grown HC.out hg9 (fun e => by injection e with e; omega)); obtain ⟨s0, s1, s2, s3, s4⟩ := Rv.cells5 HA9.out; obtain ⟨z0, z1, z2, z3, z4⟩ := Rv.frozen5 HA9.out; have hs9 := hg9.size; clear hown9 hb9 hg9 y0 y1 y2 y3 y4))
  rcases HO9.out.2 with ⟨hv0, hn0⟩ | ⟨g, cap, cur, hv0, hgB, _⟩
  · omega
  injection hv0 with ha _ hc0
  subst ha
  have HB3 := Lib.hid hgB
  clear hc0 hgB HA HB HC HO HR
  have gs := grown_set (Below.refl _ w9) w.heap.size 4 (.slice (some ⟨g, 0, none⟩) t.is.length c9)
  have HA10 : Hid ((w9.setCell ⟨w.heap.size, 4, none⟩ (.slice (some ⟨g, 0, none⟩) t.is.length c9)).heap[w.heap.size]? = some (.cells #[.int .i64 t.k, .int .i64 t.n, .string t.s, .slice A t.ns.length c, .slice (some ⟨g, 0, none⟩) t.is.length c9] 26 (0, 0))) := Lib.hid (Rv.set_cell1 4 (.slice (some ⟨g, 0, none⟩) t.is.length c9) HA9.out)
  have HB10 := Lib.hid (blk_grown HB9.out gs (fun e => by injection e with e; omega))
  have HC10 := Lib.hid (blk_grown HC9.out gs (fun e => by injection e with e; omega))
  have HO10 := Lib.hid (own_kept HO9.out gs (fun k hk e => by have := (HO9.out.lt k hk).1; injection e with e; omega))
  have HB10W := Lib.hid ((HX.out.grown HG9.out HX.out.size (fun k hk => by injection hk with hk; omega)).grown gs (by have := HX.out.size; omega) (fun k hk => by injection hk with hk; omega))
  have hs10 := gs.size
  clear gs HG9 HX HH HF HA9 HB9 HC9 HO9 s0 s1 s2 s3 s4 z0 z1 z2 z3 z4
  generalize w9.setCell ⟨w.heap.size, 4, none⟩ (.slice (some ⟨g, 0, none⟩) t.is.length c9) = w10 at *
  have hv2 : i < hs.length := by have := HSL.out; omega
  have HJ5 := HJ.out.five
  obtain ⟨o0, o1, o2, o3, o4, eo⟩ : ∃ o0 o1 o2 o3 o4, hs[i] = .agg #[o0, o1, o2, o3, o4] := by
    have h5 := HHC.out hs[i] (List.getElem_mem hv2)
    obtain ⟨A', c', A2', c2', e, _⟩ := (HHJ.out.get i hi hv2).five
    exact ⟨_, _, _, _, _, e⟩
  have ho := HO10.out
  rw [flat_split hs i hv2, eo] at ho
  have hm : i * 5 = (flat (hs.take i)).length := by
    rw [flat_len5 (fun x hx => HHC.out x (List.mem_of_mem_take hx)), List.length_take]
    omega
  obtain ⟨r1, ⟨f0, f1, f2, f3, f4⟩, p0, p1, p2, p3, p4⟩ := own_set5 (l1 := flat (hs.take i)) (l2 := flat (hs.drop (i + 1))) ho (.int .i64 tx.k) (.int .i64 tx.n) (.string tx.s) (.slice C tx.ns.length d) (.slice C2 tx.is.length d2) (i * 5) hm
  have HO15 := Lib.hid r1
  obtain ⟨y0, y1, y2, y3, y4⟩ := Rv.cells5 HA10.out
  obtain ⟨x0, x1, x2, x3, x4⟩ := Rv.cells5 HB10.out
  clear r1 hm ho
  go_upto_region 3 with fail
  have gs := fun (W : World) j u => grown_set (Below.refl _ W) g j u
  have hgg := (grown_then (grown_then (grown_then (grown_then (gs w10 (i * 5) (.int .i64 tx.k)) (gs _ (i * 5 + 1) (.int .i64 tx.n))) (gs _ (i * 5 + 2) (.string tx.s))) (gs _ (i * 5 + 3) (.slice C tx.ns.length d))) (gs _ (i * 5 + 4) (.slice C2 tx.is.length d2)))
  have hgB := HB3.out
  have HA15 := Lib.hid (blk_grown HA10.out hgg (fun e => by injection e with e; omega))
  have HC15 := Lib.hid (blk_grown HC10.out hgg (fun e => by injection e with e; omega))
  have HB15 := Lib.hid (HB10W.out.grown hgg HB10W.out.size (fun k hk => by injection hk with hk; omega))
  clear gs hgg y0 y1 y2 y3 y4 x0 x1 x2 x3 x4 p0 p1 p2 p3 p4 f0 f1 f2 f3 f4 HA10 HB10 HC10 HB10W HO10
  generalize (((((w10.setCell ⟨g, i * 5, none⟩ (.int .i64 tx.k)).setCell ⟨g, i * 5 + 1, none⟩ (.int .i64 tx.n)).setCell ⟨g, i * 5 + 2, none⟩ (.string tx.s)).setCell ⟨g, i * 5 + 3, none⟩ (.slice C tx.ns.length d)).setCell ⟨g, i * 5 + 4, none⟩ (.slice C2 tx.is.length d2)) = w15 at *
  obtain ⟨y0, y1, y2, y3, y4⟩ := Rv.cells5 HA15.out
  obtain ⟨s0, s1, s2, s3, s4⟩ := Rv.cells5 HC15.out
  obtain ⟨z0, z1, z2, z3, z4⟩ := Rv.frozen5 HC15.out
  go_wp2
  have gs := fun (W : World) j u => grown_set (Below.refl _ W) (w.heap.size + 1 + 1) j u
  have hgg := (grown_then (grown_then (grown_then (grown_then (gs w15 0 (.int .i64 t.k)) (gs _ 1 (.int .i64 t.n))) (gs _ 2 (.string t.s))) (gs _ 3 (.slice A t.ns.length c))) (gs _ 4 (.slice (some ⟨g, 0, none⟩) t.is.length c9)))
  have sb : ∀ (V : World) (j : Nat) (u : Value), Below w.heap.size w V → Below w.heap.size w (V.setCell ⟨w.heap.size + 1 + 1, j, none⟩ u) := fun V j u h => h.setCell (by show w.heap.size ≤ w.heap.size + 1 + 1; omega) u
  have hbf := (sb _ 4 (.slice (some ⟨g, 0, none⟩) t.is.length c9) (sb _ 3 (.slice A t.ns.length c) (sb _ 2 (.string t.s) (sb _ 1 (.int .i64 t.n) (sb _ 0 (.int .i64 t.k) HB15.out)))))
  have HOF := own_kept HO15.out hgg (fun k hk e => by have := (HO15.out.lt k hk).1; injection e with e; omega)
  have HJF := Lib.hid (show JN (fun x => E x ∨ w.heap.size ≤ x) _ (.mk t.k t.n t.s t.ns (t.is.set i tx)) (.agg #[.int .i64 t.k, .int .i64 t.n, .string t.s, .slice A t.ns.length c, .slice (some ⟨g, 0, none⟩) t.is.length c9]) from
    ⟨A, c, some ⟨g, 0, none⟩, c9, hs.set i (.agg #[.int .i64 tx.k, .int .i64 tx.n, .string tx.s, .slice C tx.ns.length d, .slice C2 tx.is.length d2]), by rw [List.length_set], (HN.out.below hbf).weak (fun x _ hx => .inl hx), by
      rw [List.length_set, flat_set hs i hv2]
      exact (Rp.own HOF).weak (fun x _ hx => .inr (by have := hx.1; omega)), ((HHJ.out.set i HJX.out).below hbf).weak (fun x _ hx => .inl hx)⟩)
  have HBF := Lib.hid hbf
  obtain ⟨q0, q1, q2, q3, q4⟩ := Rv.cells5 (Rv.sets5 HC15.out (.int .i64 t.k) (.int .i64 t.n) (.string t.s) (.slice A t.ns.length c) (.slice (some ⟨g, 0, none⟩) t.is.length c9))
  clear y0 y1 y2 y3 y4 s0 s1 s2 s3 s4 z0 z1 z2 z3 z4 gs hgg sb hbf HOF
  refine bodyPost_ret (v := .agg #[.int .i64 t.k, .int .i64 t.n, .string t.s, .slice A t.ns.length c, .slice (some ⟨g, 0, none⟩) t.is.length c9]) ?_ rfl ⟨_, rfl, HJF.out, HBF.out⟩
  simp only [results, show Try.f36.results = #[.cell 6 26] by kernel_rfl]
  go_simp
end Go.Proofs.Ytmelgankbegjaaa.Js

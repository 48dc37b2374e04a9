/- The items of an array, or the value itself, as the law lists them. Conditions: those written at each lemma. -/
import Derived.Test.YtmelgankbegjaaaKb
import Derived.Test.YtmelgankbegjaaaJi
set_option linter.unusedVariables false
set_option linter.unusedSimpArgs false
set_option maxRecDepth 100000
set_option maxHeartbeats 8000000
namespace Go.Proofs.Ytmelgankbegjaaa.Js
open Go.RowKit Go.Proofs.Ytmelgankbegjaaa.B

/-- What is listed. -/
def lsJ (t : J) : List J := if t.k = 4 then t.is else [t]
/-- A row of trees. -/
def RJ (W : World) (v : Value) (ts : List J) : Prop := ∃ A c hs, v = .slice A ts.length c ∧ Rd W 5 (.slice A ts.length c) ts.length (flat hs) ∧ JNs (fun _ => True) W ts hs
theorem RJ.below {W W' : World} {v : Value} {ts : List J} (h : RJ W v ts) (hb : Below W.heap.size W W') : RJ W' v ts := by
  obtain ⟨A, c, hs, e, h1, h2⟩ := h
  exact ⟨A, c, hs, e, h1.below hb, h2.below hb⟩
theorem flat_cells {p : Nat → Prop} {W : World} : ∀ {ts : List J} {hs : List Value}, JNs p W ts hs → ∀ u ∈ flat hs, u.oneCell' = true
  | [], hs, h, u, hu => by
    rw [show hs = [] from h] at hu
    cases hu
  | t :: r, hs, h, u, hu => by
    obtain ⟨x, hs', rfl, h1, h2⟩ := h
    rcases List.mem_append.1 (show u ∈ x.cells.toList ++ flat hs' from hu) with hu | hu
    · obtain ⟨a, c, d, e, f, rfl, hz⟩ := five_cells h1
      exact hz u hu
    · exact flat_cells h2 u hu
theorem list_any (t : J) (p : Nat → Prop) (v : Value) (w : World) (hwf : Wf t) (hj : JN p w t v) : Calls Try.prog 22 #[v] w fun e w' => ∃ u, e = .returned u ∧ RJ w' u (lsJ t) ∧ Below w.heap.size w w' := by
  obtain ⟨A, c, A2, c2, e1, hn, hs, hi, hh⟩ := hj.five
  obtain ⟨hl4, _⟩ := hwf.short
  subst e1
  have hx0 := heap_alloc_new w (.cells #[.int .i64 t.k, .int .i64 t.n, .string t.s, .slice A t.ns.length c, .slice A2 t.is.length c2] 26)
  obtain ⟨y0, y1, y2, y3, y4⟩ := Rv.cells5 hx0
  have hal := (Below.refl w.heap.size w).alloc (Nat.le_refl _) (.cells #[.int .i64 t.k, .int .i64 t.n, .string t.s, .slice A t.ns.length c, .slice A2 t.is.length c2] 26)
  have hsz : (w.alloc (.cells #[.int .i64 t.k, .int .i64 t.n, .string t.s, .slice A t.ns.length c, .slice A2 t.is.length c2] 26)).heap.size = w.heap.size + 1 := by simp
  by_cases hk : t.k = 4
  · have hkb : (t.k == 4) = true := by simp [hk]
    have hal2 : Below w.heap.size w ((w.alloc (.cells #[.int .i64 t.k, .int .i64 t.n, .string t.s, .slice A t.ns.length c, .slice A2 t.is.length c2] 26)).alloc (.cells #[] 26)) := hal.alloc (by omega) _
    have HO := Lib.hid (World.ownsRow_lit (base := 0) (e := 26) (size := 5) (w.alloc (.cells #[.int .i64 t.k, .int .i64 t.n, .string t.s, .slice A t.ns.length c, .slice A2 t.is.length c2] 26)) #[] 0 (Nat.zero_le _) (by simp [maxLen]) rfl)
    rw [hsz] at HO
    have HR := Lib.hid (hi.1.below hal2)
    have HH := Lib.hid ((hh.weak (q := fun x => x < w.heap.size) (fun b hb _ => hb)).below hal2)
    have HF := Lib.hid (flat_cells hh)
    have HA2 := Lib.hid hal2
    have hs2 : ((w.alloc (.cells #[.int .i64 t.k, .int .i64 t.n, .string t.s, .slice A t.ns.length c, .slice A2 t.is.length c2] 26)).alloc (.cells #[] 26)).heap.size = w.heap.size + 2 := by simp
    have HK := Lib.hid hk
    clear hal hal2 hx0 hsz hn hi hh hj hk
    go_enter Try.func22, Try.ntmps22
    go_upto_region 2 with fail
    go_wp2_with (at_builtin; (refine appRs (w0 := (w.alloc (.cells #[.int .i64 t.k, .int .i64 t.n, .string t.s, .slice A t.ns.length c, .slice A2 t.is.length c2] 26)).alloc (.cells #[] 26)) rfl (.tmp 6) (.tmp 8) 24 rfl 0 26 (.agg #[.int .i64 0, .int .i64 0, .string ⟨#[]⟩, .slice none 0 0, .slice none 0 0]) 5 80 Try.underlying24 info26 rfl (by omega) (by omega) _ 0 [] rfl HO.out (Below.refl _ _) _ _ _ rfl HR.out HF.out (by omega) (Nat.zero_le _) ?_; intro A9 c9 w9 hown9 hb9 hg9; rw [Nat.zero_add, List.nil_append] at hown9; rw [Nat.zero_add]; have hg9 : ((w.alloc (.cells #[.int .i64 t.k, .int .i64 t.n, .string t.s, .slice A t.ns.length c, .slice A2 t.is.length c2] 26)).alloc (.cells #[] 26)).grownBy w9 (some (w.heap.size + 1)) := hg9; have HO9 := Lib.hid (Rd.of_own hown9); have HJ9 := Lib.hid ((HH.out.grown hg9 (fun x hx e => by injection e with e; omega)).weak (q := fun _ => True) (fun _ _ _ => trivial)); have HB := Lib.hid (HA2.out.grown hg9 HA2.out.size (fun k hk => by injection hk with hk; omega)); clear hown9 hb9 hg9))
    go_ret
    refine ⟨_, rfl, ?_, HB.out⟩
    unfold lsJ
    rw [if_pos HK.out]
    exact ⟨A9, c9, hs, rfl, HO9.out, HJ9.out⟩
  · have hkb : (t.k == 4) = false := by simp [hk]
    have HK := Lib.hid hk
    have hal3 : Below w.heap.size w ((w.alloc (.cells #[.int .i64 t.k, .int .i64 t.n, .string t.s, .slice A t.ns.length c, .slice A2 t.is.length c2] 26)).alloc (.cells #[.int .i64 t.k, .int .i64 t.n, .string t.s, .slice A t.ns.length c, .slice A2 t.is.length c2] 26)) := hal.alloc (by omega) _
    have HB := Lib.hid hal3
    have HO := Lib.hid (Rd.of_own (World.ownsRow_lit (base := 0) (e := 26) (size := 5) (w.alloc (.cells #[.int .i64 t.k, .int .i64 t.n, .string t.s, .slice A t.ns.length c, .slice A2 t.is.length c2] 26)) #[.int .i64 t.k, .int .i64 t.n, .string t.s, .slice A t.ns.length c, .slice A2 t.is.length c2] 1 (Nat.zero_le _) (by simp [maxLen]) rfl))
    rw [hsz] at HO
    have HJ := Lib.hid ((hj.below hal3).weak (q := fun _ => True) (fun _ _ _ => trivial))
    clear hal hal3 hx0 hsz hn hi hh hj hk
    go_enter Try.func22, Try.ntmps22
    go_wp2
    go_ret
    refine ⟨_, rfl, ?_, HB.out⟩
    unfold lsJ
    rw [if_neg HK.out]
    exact ⟨_, _, [_], rfl, by simp only [flat, List.flatMap_cons, List.flatMap_nil, List.append_nil]; exact HO.out, _, [], rfl, HJ.out, rfl⟩
end Go.Proofs.Ytmelgankbegjaaa.Js

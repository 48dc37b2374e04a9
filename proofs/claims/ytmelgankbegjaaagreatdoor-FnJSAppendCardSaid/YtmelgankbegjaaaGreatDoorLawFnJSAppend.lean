/- The row of the law FnJSAppend: for every input the call returns true, and the arguments read as they did. Conditions: those of the given statement alone. -/
import Derived.Test.YtmelgankbegjaaaGreatDoorGo
import Derived.Test.YtmelgankbegjaaaGreatDoorGl
import Derived.Test.YtmelgankbegjaaaGreatDoorGr
import Derived.Test.YtmelgankbegjaaaGreatDoorRows
import Derived.WalkKit
import Derived.ProofKit
import Derived.OpenShut
import Derived.ShutString
import Derived.ChangeOld
import Derived.Below
import Derived.Carry
import Derived.LaidMore
import Derived.MakeChecks
import Derived.Stop.Joined
import Derived.OpenVars
import Derived.ChangeVars
import Derived.SevenTiedAt
import Derived.Test.YtmelgankbegjaaaGreatDoorCards
import Derived.Test.YtmelgankbegjaaaGreatDoorTie
import Derived.Lay
set_option linter.unusedVariables false
set_option linter.unusedSimpArgs false
set_option maxRecDepth 100000
set_option maxHeartbeats 8000000
namespace Go.Proofs.YtmelgankbegjaaaGreatDoor.Js
open Go.RowKit Go.Proofs.YtmelgankbegjaaaGreatDoor.B

/-- Nothing there, nothing to add: nothing is changed. -/
theorem updJ_none (f : J → J) : ∀ (l : List Sp) (t : J), getJ l t = none → updJ f none l t = t
  | [], t, h => by cases h
  | s :: r, t, h => by
    rw [getJ_cons] at h
    rw [updJ_cons]
    split
    · rename_i c hc
      rw [hc] at h
      simp only at h
      split
      · rename_i h0
        rw [if_pos h0] at h
        rw [updJ_none f r c h]
        obtain ⟨hk, hck⟩ := List.getElem?_eq_some_iff.1 hc
        rw [← hck, List.set_getElem_self]
        cases t
        rfl
      · rfl
    · rfl
/-- What is there decides. -/
theorem updJ_get (f g : J → J) : ∀ (l : List Sp) (t c : J), getJ l t = some c → f c = g c → updJ f none l t = updJ g none l t
  | [], t, c, h, e => by
    injection h with h
    subst h
    exact e
  | s :: r, t, c, h, e => by
    rw [getJ_cons] at h
    rw [updJ_cons, updJ_cons]
    split
    · rename_i d hc
      rw [hc] at h
      simp only at h
      split
      · rename_i h0
        rw [if_pos h0] at h
        rw [updJ_get f g r d c h e]
      · rfl
    · rfl
theorem OutG.one {E : Nat → Prop} {l : List Sp} {t : J} {w w' : World} {e : Ending} (h : OutG E l t w e w') : ∃ (u : Value) (c : J) (b : Bool), e = .returned (.tuple #[u, .bool b]) ∧ JN E w' c u ∧ Below w.heap.size w w' ∧
    ((b = true ∧ getJ l t = some c ∧ Wf c) ∨ (b = false ∧ getJ l t = none)) := by
  rcases h with ⟨u, c, e, h1, h2, h3, hb⟩ | ⟨u, c, e, h1, h3, hb⟩
  · exact ⟨u, c, true, e, h3, hb, .inl ⟨rfl, h1, h2⟩⟩
  · exact ⟨u, c, false, e, h3, hb, .inr ⟨rfl, h1⟩⟩
/-- JSAppend. -/
theorem append_any (E : Nat → Prop) (tx : J) (l : List Sp) (t : J) (v vx : Value) (A0 : Option Addr) (c0 : Nat) (w : World) (hl4 : l.length ≤ 4) (hw : Way t l) (hwf : Wf t) (hwx : Wf tx) (hE : ∀ x, E x → x < w.heap.size) (hj : JN E w t v) (hx : JN E w tx vx) (hr : Rd w 3 (.slice A0 l.length c0) l.length (stc l)) :
    Calls Tryz.prog 13 #[v, .slice A0 l.length c0, vx] w (OutP E (upd 4 tx l t) w) := by
  obtain ⟨A, c, A2, c2, rfl, _⟩ := hj.five
  obtain ⟨C, d, C2, d2, rfl, _⟩ := hx.five
  have HA := Lib.hid (old_blk (o := .cells #[.int .i64 0, .int .i64 0, .string ⟨#[]⟩, .slice none 0 0, .slice none 0 0] 26) (old_blk (o := .cells #[.int .i64 tx.k, .int .i64 tx.n, .string tx.s, .slice C tx.ns.length d, .slice C2 tx.is.length d2] 26) (heap_alloc_new w (.cells #[.int .i64 t.k, .int .i64 t.n, .string t.s, .slice A t.ns.length c, .slice A2 t.is.length c2] 26))))
  have HXB := Lib.hid (old_blk (o := .cells #[.int .i64 0, .int .i64 0, .string ⟨#[]⟩, .slice none 0 0, .slice none 0 0] 26) (show ((w.alloc (.cells #[.int .i64 t.k, .int .i64 t.n, .string t.s, .slice A t.ns.length c, .slice A2 t.is.length c2] 26)).alloc (.cells #[.int .i64 tx.k, .int .i64 tx.n, .string tx.s, .slice C tx.ns.length d, .slice C2 tx.is.length d2] 26)).heap[w.heap.size + 1]? = some (.cells #[.int .i64 tx.k, .int .i64 tx.n, .string tx.s, .slice C tx.ns.length d, .slice C2 tx.is.length d2] 26 (0, 0)) from by
    have := heap_alloc_new (w.alloc (.cells #[.int .i64 t.k, .int .i64 t.n, .string t.s, .slice A t.ns.length c, .slice A2 t.is.length c2] 26)) (.cells #[.int .i64 tx.k, .int .i64 tx.n, .string tx.s, .slice C tx.ns.length d, .slice C2 tx.is.length d2] 26)
    simpa using this))
  have HZ := Lib.hid (show (((w.alloc (.cells #[.int .i64 t.k, .int .i64 t.n, .string t.s, .slice A t.ns.length c, .slice A2 t.is.length c2] 26)).alloc (.cells #[.int .i64 tx.k, .int .i64 tx.n, .string tx.s, .slice C tx.ns.length d, .slice C2 tx.is.length d2] 26)).alloc (.cells #[.int .i64 0, .int .i64 0, .string ⟨#[]⟩, .slice none 0 0, .slice none 0 0] 26)).heap[w.heap.size + 1 + 1]? = some (.cells #[.int .i64 0, .int .i64 0, .string ⟨#[]⟩, .slice none 0 0, .slice none 0 0] 26 (0, 0)) from by
    have := heap_alloc_new ((w.alloc (.cells #[.int .i64 t.k, .int .i64 t.n, .string t.s, .slice A t.ns.length c, .slice A2 t.is.length c2] 26)).alloc (.cells #[.int .i64 tx.k, .int .i64 tx.n, .string tx.s, .slice C tx.ns.length d, .slice C2 tx.is.length d2] 26)) (.cells #[.int .i64 0, .int .i64 0, .string ⟨#[]⟩, .slice none 0 0, .slice none 0 0] 26)
    simpa using this)
  have hX : Below w.heap.size w (((w.alloc (.cells #[.int .i64 t.k, .int .i64 t.n, .string t.s, .slice A t.ns.length c, .slice A2 t.is.length c2] 26)).alloc (.cells #[.int .i64 tx.k, .int .i64 tx.n, .string tx.s, .slice C tx.ns.length d, .slice C2 tx.is.length d2] 26)).alloc (.cells #[.int .i64 0, .int .i64 0, .string ⟨#[]⟩, .slice none 0 0, .slice none 0 0] 26)) := (((Below.refl _ _).alloc (Nat.le_refl _) _).alloc (by simp) _).alloc (by simp; omega) _
  have HX := Lib.hid hX
  have HXS := Lib.hid (show w.heap.size + 1 + 1 + 1 ≤ (((w.alloc (.cells #[.int .i64 t.k, .int .i64 t.n, .string t.s, .slice A t.ns.length c, .slice A2 t.is.length c2] 26)).alloc (.cells #[.int .i64 tx.k, .int .i64 tx.n, .string tx.s, .slice C tx.ns.length d, .slice C2 tx.is.length d2] 26)).alloc (.cells #[.int .i64 0, .int .i64 0, .string ⟨#[]⟩, .slice none 0 0, .slice none 0 0] 26)).heap.size by simp)
  have HJ := Lib.hid (hj.below hX)
  have HJX := Lib.hid (hx.below hX)
  have HR := Lib.hid (hr.below hX)
  have HES := Lib.hid hE
  have HWF := Lib.hid hwf
  have HWY := Lib.hid hw
  have HL4 := Lib.hid hl4
  have HXC := Lib.hid (show ∀ u ∈ ([.int .i64 tx.k, .int .i64 tx.n, .string tx.s, .slice C tx.ns.length d, .slice C2 tx.is.length d2] : List Value), u.oneCell' = true from by simp [Value.oneCell'])
  have GET := Lib.hid (get_any E t (.agg #[.int .i64 t.k, .int .i64 t.n, .string t.s, .slice A t.ns.length c, .slice A2 t.is.length c2]) A0 c0 l _ (fun x h => Nat.lt_of_lt_of_le (hE x h) hX.size) (hj.below hX) hwf (hr.below hX) hl4)
  clear hj hx hr hE hwf hw hX hl4
  go_enter Tryz.func13, Tryz.ntmps13
  go_upto_region 1 with fail
  generalize ((w.alloc (.cells #[.int .i64 t.k, .int .i64 t.n, .string t.s, .slice A t.ns.length c, .slice A2 t.is.length c2] 26)).alloc (.cells #[.int .i64 tx.k, .int .i64 tx.n, .string tx.s, .slice C tx.ns.length d, .slice C2 tx.is.length d2] 26)).alloc (.cells #[.int .i64 0, .int .i64 0, .string ⟨#[]⟩, .slice none 0 0, .slice none 0 0] 26) = X at *
  have hga := Rv.lt_of_blk HA.out
  have hgb := Rv.lt_of_blk HXB.out
  have hgz := Rv.lt_of_blk HZ.out
  obtain ⟨y0, y1, y2, y3, y4⟩ := Rv.cells5 HA.out
  go_upto_region 2 with (go_at_call 17; (with_reducible refine GET.out.mono ?_); rintro e w1 hw1; obtain ⟨u1, cj, b1, rfl, hjc, hb, hor⟩ := hw1.one; obtain ⟨A1, c1, B1, d1, rfl, _⟩ := hjc.five; have HJC := Lib.hid hjc; have HB1 := Lib.hid hb; have HOR := Lib.hid hor; clear hw1 hjc hb hor)
  clear y0 y1 y2 y3 y4 GET
  have hal := (Below.refl w1.heap.size w1).alloc (Nat.le_refl _) (.cells #[.int .i64 cj.k, .int .i64 cj.n, .string cj.s, .slice A1 cj.ns.length c1, .slice B1 cj.is.length d1] 26)
  have hb8 := HB1.out.trans (hal.mono HB1.out.size)
  have HC := Lib.hid (heap_alloc_new w1 (.cells #[.int .i64 cj.k, .int .i64 cj.n, .string cj.s, .slice A1 cj.ns.length c1, .slice B1 cj.is.length d1] 26))
  have HA := Lib.hid ((hb8.block _ hga).trans HA.out)
  have HXB := Lib.hid ((hb8.block _ hgb).trans HXB.out)
  have HZ := Lib.hid ((hb8.block _ hgz).trans HZ.out)
  have HX := Lib.hid (HX.out.trans (hb8.mono HX.out.size))
  have HXS := Lib.hid (Nat.le_trans HXS.out hb8.size)
  have HJ := Lib.hid (HJ.out.below hb8)
  have HJX := Lib.hid (HJX.out.below hb8)
  have HR := Lib.hid (HR.out.below hb8)
  have HJC := Lib.hid (HJC.out.below hal)
  clear hal hb8 HB1 hga hgb hgz
  generalize w1.alloc (.cells #[.int .i64 cj.k, .int .i64 cj.n, .string cj.s, .slice A1 cj.ns.length c1, .slice B1 cj.is.length d1] 26) = Y at *
  generalize w1.heap.size = g8 at *
  generalize Y = X at *
  have hga := Rv.lt_of_blk HA.out
  have hgb := Rv.lt_of_blk HXB.out
  have hgz := Rv.lt_of_blk HZ.out
  have hgc := Rv.lt_of_blk HC.out
  cases b1
  · have HN := Lib.hid (show getJ l t = none by rcases HOR.out with ⟨h, _⟩ | ⟨_, h⟩; cases h; exact h)
    have HU := Lib.hid (show upd 4 tx l t = t from updJ_none _ l t HN.out)
    clear HOR HN
    obtain ⟨y0, y1, y2, y3, y4⟩ := Rv.cells5 HA.out
    obtain ⟨s0, s1, s2, s3, s4⟩ := Rv.cells5 HZ.out
    obtain ⟨z0, z1, z2, z3, z4⟩ := Rv.frozen5 HZ.out
    go_wp2
    have gs := fun (W : World) j u => grown_set (Below.refl _ W) (w.heap.size + 1 + 1) j u
    have hgg := (grown_then (grown_then (grown_then (grown_then (gs X 0 (.int .i64 t.k)) (gs _ 1 (.int .i64 t.n))) (gs _ 2 (.string t.s))) (gs _ 3 (.slice A t.ns.length c))) (gs _ 4 (.slice A2 t.is.length c2)))
    have sb : ∀ (V : World) (j : Nat) (u : Value), Below w.heap.size w V → Below w.heap.size w (V.setCell ⟨w.heap.size + 1 + 1, j, none⟩ u) := fun V j u h => h.setCell (by show w.heap.size ≤ w.heap.size + 1 + 1; omega) u
    have hbf := (sb _ 4 (.slice A2 t.is.length c2) (sb _ 3 (.slice A t.ns.length c) (sb _ 2 (.string t.s) (sb _ 1 (.int .i64 t.n) (sb _ 0 (.int .i64 t.k) HX.out)))))
    have HJF := Lib.hid ((HJ.out.grown hgg (fun x hx e => by have := HES.out x hx; injection e with e; omega)).weak (q := fun x => E x ∨ w.heap.size ≤ x) (fun x _ hx => .inl hx))
    have HBF := Lib.hid hbf
    obtain ⟨q0, q1, q2, q3, q4⟩ := Rv.cells5 (Rv.sets5 HZ.out (.int .i64 t.k) (.int .i64 t.n) (.string t.s) (.slice A t.ns.length c) (.slice A2 t.is.length c2))
    clear y0 y1 y2 y3 y4 s0 s1 s2 s3 s4 z0 z1 z2 z3 z4 gs hgg sb hbf
    refine bodyPost_ret (v := .tuple #[.agg #[.int .i64 t.k, .int .i64 t.n, .string t.s, .slice A t.ns.length c, .slice A2 t.is.length c2], .bool false]) ?_ rfl ⟨_, _, rfl, by rw [HU.out]; exact HJF.out, HBF.out⟩
    simp only [results, show Tryz.f13.results = #[.cell 6 26, .tmp 7] by kernel_rfl]
    go_simp
  · obtain ⟨hgj, hwc⟩ : getJ l t = some cj ∧ Wf cj := by
      rcases HOR.out with ⟨_, h⟩ | ⟨h, _⟩
      · exact h
      · cases h
    have HGJ := Lib.hid hgj
    have HWC := Lib.hid hwc
    have hls := lsJ_len hwc
    clear HOR hgj hwc
    go_upto_region 4 with fail
    refine Rv.region_fin2 (n := 30) (by kernel_rfl) #[19, 20, 21, 22, 23, 24, 25, 26, 27, 28, 29, 1011, 7] #[] (fun i f W => if i = 12 then (fun f W => ∃ b : Bool, f 12 = .bool b) f W else if i = 11 then (fun f W => ∃ (A9 : Option Addr) (c9 : Nat) (B9 : Option Addr) (d9 : Nat), W.heap[(w.heap.size + 1 + 1)]? = some (.cells #[.int .i64 (updJ (fun _ => (.mk 4 0 .empty [] (lsJ cj ++ [tx]))) none l t).k, .int .i64 (updJ (fun _ => (.mk 4 0 .empty [] (lsJ cj ++ [tx]))) none l t).n, .string (updJ (fun _ => (.mk 4 0 .empty [] (lsJ cj ++ [tx]))) none l t).s, .slice A9 (updJ (fun _ => (.mk 4 0 .empty [] (lsJ cj ++ [tx]))) none l t).ns.length c9, .slice B9 (updJ (fun _ => (.mk 4 0 .empty [] (lsJ cj ++ [tx]))) none l t).is.length d9] 26 (0, 0)) ∧ JN (fun x => E x ∨ X.heap.size ≤ x) W (updJ (fun _ => (.mk 4 0 .empty [] (lsJ cj ++ [tx]))) none l t) (.agg #[.int .i64 (updJ (fun _ => (.mk 4 0 .empty [] (lsJ cj ++ [tx]))) none l t).k, .int .i64 (updJ (fun _ => (.mk 4 0 .empty [] (lsJ cj ++ [tx]))) none l t).n, .string (updJ (fun _ => (.mk 4 0 .empty [] (lsJ cj ++ [tx]))) none l t).s, .slice A9 (updJ (fun _ => (.mk 4 0 .empty [] (lsJ cj ++ [tx]))) none l t).ns.length c9, .slice B9 (updJ (fun _ => (.mk 4 0 .empty [] (lsJ cj ++ [tx]))) none l t).is.length d9])) f W else if i = 10 then (fun f W => ∃ b : Bool, f 10 = .bool b) f W else if i = 9 then (fun f W => ∃ (u : Value) (b : Bool), f 8 = .tuple #[u, .bool b] ∧ f 9 = u) f W else if i = 8 then (fun f W => ∃ (u : Value) (b : Bool), f 8 = .tuple #[u, .bool b] ∧ JN (fun x => E x ∨ X.heap.size ≤ x) W (updJ (fun _ => (.mk 4 0 .empty [] (lsJ cj ++ [tx]))) none l t) u) f W else if i = 7 then (fun f W => JN (fun x => E x ∨ X.heap.size ≤ x) W (.mk 4 0 .empty [] (lsJ cj ++ [tx])) (f 7)) f W else if i = 6 then (fun f W => ∃ (A9 : Option Addr) (c9 : Nat) (hs : List Value), f 6 = .slice A9 ((lsJ cj).length + 1) c9 ∧ W.ownsRow X.heap.size 26 5 (.slice A9 ((lsJ cj).length + 1) c9) ((lsJ cj).length + 1) (flat hs ++ ([.int .i64 tx.k, .int .i64 tx.n, .string tx.s, .slice C tx.ns.length d, .slice C2 tx.is.length d2] : List Value)) ∧ JNs E W (lsJ cj) hs) f W else if i = 5 then (fun f W => ∃ (gl : Nat), f 5 = .slice (some ⟨gl, 0, none⟩) 1 1 ∧ Rd W 5 (.slice (some ⟨gl, 0, none⟩) 1 1) 1 ([.int .i64 tx.k, .int .i64 tx.n, .string tx.s, .slice C tx.ns.length d, .slice C2 tx.is.length d2] : List Value)) f W else if i = 3 then (fun f W => ∃ (A9 : Option Addr) (c9 : Nat) (hs : List Value), f 3 = .slice A9 (lsJ cj).length c9 ∧ W.ownsRow X.heap.size 26 5 (.slice A9 (lsJ cj).length c9) (lsJ cj).length (flat hs) ∧ JNs E W (lsJ cj) hs) f W else f i = (#[.agg #[.int .i64 t.k, .int .i64 t.n, .string t.s, .slice A t.ns.length c, .slice A2 t.is.length c2], .slice A0 l.length c0, .agg #[.int .i64 cj.k, .int .i64 cj.n, .string cj.s, .slice A1 cj.ns.length c1, .slice B1 cj.is.length d1], undef, .agg #[.int .i64 tx.k, .int .i64 tx.n, .string tx.s, .slice C tx.ns.length d, .slice C2 tx.is.length d2], undef, undef, undef, undef, undef, undef, undef, undef] : Array Value).getD i undef) (fun i j => (i == 6 && (j == 3 || j == 5)) || (i == 11 && (j == 3 || j == 5 || j == 6 || j == 7 || j == 8))) (fun i => i == 6 || i == 11) (fun i => i == 11) (fun i f W W' => True) (fun W => Below (w.heap.size + 1 + 1) X W) (fun W => Below X.heap.size X W) (fun _ _ _ => True) (fun _ _ _ _ _ _ _ _ => trivial) (fun i f f' w hi h hd hg => ?_) (fun i j f w w' hi hj hij hK hdp h hr => ?_) (fun i h g b hg => ?_) rfl (by kernel_rfl) (fun i h g b hg => ?_) ((Below.refl _ _).drew) ((Below.refl _ _).drew) (fun _ => trivial) (fun i h hr f w hf => ?_) (fun _ _ _ _ _ _ _ _ => trivial) ?_ ?_
    · by_cases hi7 : i = 12
      · subst hi7
        rw [if_pos rfl] at hg ⊢
        obtain ⟨b, q⟩ := hg
        exact ⟨b, h.symm.trans q⟩
      rw [if_neg hi7] at hg ⊢
      by_cases hi1011 : i = 11
      · subst hi1011
        rw [if_pos rfl] at hg ⊢
        exact hg
      rw [if_neg hi1011] at hg ⊢
      by_cases hi29 : i = 10
      · subst hi29
        rw [if_pos rfl] at hg ⊢
        obtain ⟨b, q⟩ := hg
        exact ⟨b, h.symm.trans q⟩
      rw [if_neg hi29] at hg ⊢
      by_cases hi28 : i = 9
      · subst hi28
        rw [if_pos rfl] at hg ⊢
        obtain ⟨u, b, q1, q2⟩ := hg
        exact ⟨u, b, (hd 8 rfl).symm.trans q1, h.symm.trans q2⟩
      rw [if_neg hi28] at hg ⊢
      by_cases hi27 : i = 8
      · subst hi27
        rw [if_pos rfl] at hg ⊢
        obtain ⟨u, b, q1, q2⟩ := hg
        exact ⟨u, b, h.symm.trans q1, q2⟩
      rw [if_neg hi27] at hg ⊢
      by_cases hi26 : i = 7
      · subst hi26
        rw [if_pos rfl] at hg ⊢
        have hz := hg
        rw [h] at hz
        exact hz
      rw [if_neg hi26] at hg ⊢
      by_cases hi25 : i = 6
      · subst hi25
        rw [if_pos rfl] at hg ⊢
        obtain ⟨A9, c9, hs, q1, q2⟩ := hg
        exact ⟨A9, c9, hs, h.symm.trans q1, q2⟩
      rw [if_neg hi25] at hg ⊢
      by_cases hi24 : i = 5
      · subst hi24
        rw [if_pos rfl] at hg ⊢
        obtain ⟨gl, q1, q2⟩ := hg
        exact ⟨gl, h.symm.trans q1, q2⟩
      rw [if_neg hi24] at hg ⊢
      by_cases hi22 : i = 3
      · subst hi22
        rw [if_pos rfl] at hg ⊢
        obtain ⟨A9, c9, hs, q1, q2⟩ := hg
        exact ⟨A9, c9, hs, h.symm.trans q1, q2⟩
      rw [if_neg hi22] at hg ⊢
      rw [← h]; exact hg
    · by_cases hj7 : j = 12
      · subst hj7
        rw [if_pos rfl] at h ⊢
        exact h
      rw [if_neg hj7] at h ⊢
      by_cases hj1011 : j = 11
      · subst hj1011
        rw [if_pos rfl] at h ⊢
        rcases hr with ⟨hK1, hr⟩ | hr
        · have hi2 : i = 6 ∨ i = 11 := by simpa [or_assoc] using hK1
          rcases hi2 with e | e
          · subst e; exfalso; revert hdp; decide
          · exact absurd e hij
        · obtain ⟨A9, c9, B9, d9, h1, h2⟩ := h
          exact ⟨A9, c9, B9, d9, (hr.block _ (Rv.lt_of_blk h1)).trans h1, h2.below hr⟩
      rw [if_neg hj1011] at h ⊢
      by_cases hj29 : j = 10
      · subst hj29
        rw [if_pos rfl] at h ⊢
        exact h
      rw [if_neg hj29] at h ⊢
      by_cases hj28 : j = 9
      · subst hj28
        rw [if_pos rfl] at h ⊢
        exact h
      rw [if_neg hj28] at h ⊢
      by_cases hj27 : j = 8
      · subst hj27
        rw [if_pos rfl] at h ⊢
        rcases hr with ⟨hK1, hr⟩ | hr
        · have hi2 : i = 6 ∨ i = 11 := by simpa [or_assoc] using hK1
          rcases hi2 with e | e
          · subst e; exfalso; revert hdp; decide
          · subst e; exfalso; revert hK; decide
        · obtain ⟨u, b, e, h1⟩ := h
          exact ⟨u, b, e, h1.below hr⟩
      rw [if_neg hj27] at h ⊢
      by_cases hj26 : j = 7
      · subst hj26
        rw [if_pos rfl] at h ⊢
        rcases hr with ⟨hK1, hr⟩ | hr
        · have hi2 : i = 6 ∨ i = 11 := by simpa [or_assoc] using hK1
          rcases hi2 with e | e
          · subst e; exfalso; revert hdp; decide
          · subst e; exfalso; revert hK; decide
        · exact h.below hr
      rw [if_neg hj26] at h ⊢
      by_cases hj25 : j = 6
      · subst hj25
        rw [if_pos rfl] at h ⊢
        rcases hr with ⟨hK1, hr⟩ | hr
        · have hi2 : i = 6 ∨ i = 11 := by simpa [or_assoc] using hK1
          rcases hi2 with e | e
          · exact absurd e hij
          · subst e; exfalso; revert hK; decide
        · obtain ⟨A9, c9, hs, e, h1, h2⟩ := h
          exact ⟨A9, c9, hs, e, own_below h1 hr, h2.below hr⟩
      rw [if_neg hj25] at h ⊢
      by_cases hj24 : j = 5
      · subst hj24
        rw [if_pos rfl] at h ⊢
        rcases hr with ⟨hK1, hr⟩ | hr
        · have hi2 : i = 6 ∨ i = 11 := by simpa [or_assoc] using hK1
          rcases hi2 with e | e
          · subst e; exfalso; revert hK; decide
          · subst e; exfalso; revert hK; decide
        · obtain ⟨gl, e, h1⟩ := h
          exact ⟨gl, e, h1.below hr⟩
      rw [if_neg hj24] at h ⊢
      by_cases hj22 : j = 3
      · subst hj22
        rw [if_pos rfl] at h ⊢
        rcases hr with ⟨hK1, hr⟩ | hr
        · have hi2 : i = 6 ∨ i = 11 := by simpa [or_assoc] using hK1
          rcases hi2 with e | e
          · subst e; exfalso; revert hK; decide
          · subst e; exfalso; revert hK; decide
        · obtain ⟨A9, c9, hs, e, h1, h2⟩ := h
          exact ⟨A9, c9, hs, e, own_below h1 hr, h2.below hr⟩
      rw [if_neg hj22] at h ⊢
      exact h
    · match i, h, hg with
      | 0, _, hg => cases hg
      | 1, _, hg => cases hg
      | 2, _, hg => cases hg
      | 3, _, hg => cases hg
      | 4, _, hg => cases hg
      | 5, _, hg => cases hg
      | 6, _, hg => cases hg
      | 7, _, hg => cases hg
      | 8, _, hg => cases hg
      | 9, _, hg => cases hg
      | 10, _, hg => cases hg
      | 11, _, hg => cases hg
      | 12, _, hg => cases hg
      | m + 13, h, _ => exact absurd h (by show ¬ m + 13 < 13; omega)
    · match i, h, hg with
      | 0, _, hg => cases hg
      | 1, _, hg => cases hg
      | 2, _, hg => cases hg
      | 3, _, hg => cases hg
      | 4, _, hg => cases hg
      | 5, _, hg => cases hg
      | 6, _, hg => cases hg
      | 7, _, hg => cases hg
      | 8, _, hg => cases hg
      | 9, _, hg => cases hg
      | 10, _, hg => cases hg
      | 11, _, hg => cases hg
      | 12, _, hg => cases hg
      | m + 13, h, _ => exact absurd h (by show ¬ m + 13 < 13; omega)
    · match i, h, hr, hf with
      | 0, _, hr, _ => exact Bool.noConfusion (show true = false from hr)
      | 1, _, hr, _ => exact Bool.noConfusion (show true = false from hr)
      | 2, _, hr, _ => exact Bool.noConfusion (show true = false from hr)
      | 3, _, hr, _ => exact Bool.noConfusion (show true = false from hr)
      | 4, _, hr, _ => exact Bool.noConfusion (show true = false from hr)
      | 5, _, hr, _ => exact Bool.noConfusion (show true = false from hr)
      | 6, _, hr, _ => exact Bool.noConfusion (show true = false from hr)
      | 7, _, hr, _ => exact Bool.noConfusion (show true = false from hr)
      | 8, _, hr, _ => exact Bool.noConfusion (show true = false from hr)
      | 9, _, hr, _ => exact Bool.noConfusion (show true = false from hr)
      | 10, _, hr, _ => exact Bool.noConfusion (show true = false from hr)
      | 11, _, hr, _ => exact Bool.noConfusion (show true = false from hr)
      | 12, _, hr, _ => exact Bool.noConfusion (show true = false from hr)
      | m + 13, h, _, _ => exact absurd h (by show ¬ m + 13 < 13; omega)
    · intro i h a W hrun hbase hpre hdep htr hta hJ
      match i, h with
      | 0, _ =>
        obtain ⟨e3, x3⟩ := Rv.ev (show a.tmps.getD 3 undef = .pointer (some ⟨w.heap.size, 0, none⟩) from hbase 3 rfl)
        obtain ⟨y0, y1, y2, y3, y4⟩ := Rv.cells5 (((hta (by decide)).block _ hga).trans HA.out)
        exact Rv.step_op (op := Go.Op.load 26 (Go.Operand.tmp 3)) (v := .agg #[.int .i64 t.k, .int .i64 t.n, .string t.s, .slice A t.ns.length c, .slice A2 t.is.length c2]) (w1 := W) rfl rfl (fun d pos aft g => by unfold execOp; go_simp) ⟨_, rfl, rfl, .inr (Below.refl _ _), htr, fun _ ht => ht, fun _ _ _ => trivial⟩
      | 1, _ =>
        obtain ⟨e1, x1⟩ := Rv.ev (show a.tmps.getD 1 undef = .slice A0 l.length c0 from hbase 1 rfl)
        exact Rv.step_op (op := Go.Op.move (Go.Operand.tmp 1)) (v := .slice A0 l.length c0) (w1 := W) rfl rfl (fun d pos aft g => by unfold execOp; go_simp) ⟨_, rfl, rfl, .inr (Below.refl _ _), htr, fun _ ht => ht, fun _ _ _ => trivial⟩
      | 2, _ =>
        obtain ⟨e8, x8⟩ := Rv.ev (show a.tmps.getD 8 undef = .pointer (some ⟨g8, 0, none⟩) from hbase 8 rfl)
        obtain ⟨q0, q1, q2, q3, q4⟩ := Rv.cells5 (((hta (by decide)).block _ hgc).trans HC.out)
        exact Rv.step_op (op := Go.Op.load 26 (Go.Operand.tmp 8)) (v := .agg #[.int .i64 cj.k, .int .i64 cj.n, .string cj.s, .slice A1 cj.ns.length c1, .slice B1 cj.is.length d1]) (w1 := W) rfl rfl (fun d pos aft g => by unfold execOp; go_simp) ⟨_, rfl, rfl, .inr (Below.refl _ _), htr, fun _ ht => ht, fun _ _ _ => trivial⟩
      | 3, _ =>
        obtain ⟨e21, x21⟩ := Rv.ev (show a.tmps.getD 21 undef = .agg #[.int .i64 cj.k, .int .i64 cj.n, .string cj.s, .slice A1 cj.ns.length c1, .slice B1 cj.is.length d1] from hdep 2 rfl rfl)
        have ht1 := hta (by decide)
        have cf : ∀ x0 W, (callFunc 27 #[x0]).run Tryz.prog W = .ok (.enter 27 #[x0]) W := fun _ _ => by kernel_rfl
        refine Rv.step_fn (op := Go.Op.call { callee := Go.Callee.value (Go.Operand.func 27), args := #[Go.Operand.tmp 21], argTypes := #[26] }) (ty := 24) (f := 27) (args := #[.agg #[.int .i64 cj.k, .int .i64 cj.n, .string cj.s, .slice A1 cj.ns.length c1, .slice B1 cj.is.length d1]]) (R := fun v W' => (∃ (A9 : Option Addr) (c9 : Nat) (hs : List Value), v = .slice A9 (lsJ cj).length c9 ∧ W'.ownsRow X.heap.size 26 5 (.slice A9 (lsJ cj).length c9) (lsJ cj).length (flat hs) ∧ JNs E W' (lsJ cj) hs) ∧ Below W.heap.size W W') rfl rfl (fun d pos aft g => by unfold execOp; go_simp) ((list_own E cj _ W HWC.out (fun x hx => by have := HES.out x hx; have := ht1.size; have := HXS.out; omega) (HJC.out.below ht1)).mono ?_) ?_
        · (rintro e W' ⟨A9, c9, hs, rfl, h1, h2, hb⟩; exact ⟨_, rfl, ⟨A9, c9, hs, rfl, row_base h1 _ (fun k hk => by have := (h1.lt k hk).1; have := ht1.size; omega), h2⟩, hb⟩)
        · (rintro v W' ⟨hv, hb⟩; exact ⟨_, rfl, hv, .inr hb, htr.trans (hb.mono (by have := htr.size; have := HXS.out; omega)), (fun _ ht => ht.trans (hb.mono ht.size)), fun _ _ _ => trivial⟩)
      | 4, _ =>
        obtain ⟨e5, x5⟩ := Rv.ev (show a.tmps.getD 5 undef = .pointer (some ⟨w.heap.size + 1, 0, none⟩) from hbase 5 rfl)
        obtain ⟨x0, x1, x2, x3, x4⟩ := Rv.cells5 (((hta (by decide)).block _ hgb).trans HXB.out)
        exact Rv.step_op (op := Go.Op.load 26 (Go.Operand.tmp 5)) (v := .agg #[.int .i64 tx.k, .int .i64 tx.n, .string tx.s, .slice C tx.ns.length d, .slice C2 tx.is.length d2]) (w1 := W) rfl rfl (fun d pos aft g => by unfold execOp; go_simp) ⟨_, rfl, rfl, .inr (Below.refl _ _), htr, fun _ ht => ht, fun _ _ _ => trivial⟩
      | 5, _ =>
        obtain ⟨e23, x23⟩ := Rv.ev (show a.tmps.getD 23 undef = .agg #[.int .i64 tx.k, .int .i64 tx.n, .string tx.s, .slice C tx.ns.length d, .slice C2 tx.is.length d2] from hdep 4 rfl rfl)
        have hal : Below W.heap.size W (W.alloc (.cells #[.int .i64 tx.k, .int .i64 tx.n, .string tx.s, .slice C tx.ns.length d, .slice C2 tx.is.length d2] 26)) := (Below.refl _ _).alloc (Nat.le_refl _) _
        exact Rv.step_op (op := Go.Op.buildSlice 24 1 #[(0, Go.Operand.tmp 23)]) (ty := 24) (v := .slice (some ⟨W.heap.size, 0, none⟩) 1 1) (w1 := W.alloc (.cells #[.int .i64 tx.k, .int .i64 tx.n, .string tx.s, .slice C tx.ns.length d, .slice C2 tx.is.length d2] 26)) rfl rfl (fun d pos aft g => by unfold execOp; go_simp) ⟨_, rfl, ⟨W.heap.size, rfl, Rd.of_own (World.ownsRow_lit (base := W.heap.size) (e := 26) (size := 5) W #[.int .i64 tx.k, .int .i64 tx.n, .string tx.s, .slice C tx.ns.length d, .slice C2 tx.is.length d2] 1 (Nat.le_refl _) (by simp [maxLen]) rfl)⟩, .inr hal, htr.trans (hal.mono (by have := htr.size; have := HXS.out; omega)), (fun _ ht => ht.trans (hal.mono ht.size)), fun _ _ _ => trivial⟩
      | 6, _ =>
        obtain ⟨A9, c9, hs, eB, k9, k5⟩ : ∃ (A9 : Option Addr) (c9 : Nat) (hs : List Value), a.tmps.getD 22 undef = .slice A9 (lsJ cj).length c9 ∧ W.ownsRow X.heap.size 26 5 (.slice A9 (lsJ cj).length c9) (lsJ cj).length (flat hs) ∧ JNs E W (lsJ cj) hs := hdep 3 rfl rfl
        obtain ⟨e22, x22⟩ := Rv.ev eB
        obtain ⟨gl, eC, kl⟩ : ∃ (gl : Nat), a.tmps.getD 24 undef = .slice (some ⟨gl, 0, none⟩) 1 1 ∧ Rd W 5 (.slice (some ⟨gl, 0, none⟩) 1 1) 1 ([.int .i64 tx.k, .int .i64 tx.n, .string tx.s, .slice C tx.ns.length d, .slice C2 tx.is.length d2] : List Value) := hdep 5 rfl rfl
        obtain ⟨e24, x24⟩ := Rv.ev eC
        have ht1 := hta (by decide)
        have hx := ht1.size
        obtain ⟨v', w', hrun, k2, k3, k4⟩ := run_append_rd (P := Tryz.prog) W X.heap.size 24 24 26 (.agg #[.int .i64 0, .int .i64 0, .string ⟨#[]⟩, .slice none 0 0, .slice none 0 0]) 5 80 Tryz.underlying24 info26 rfl (by omega) (by omega) _ _ _ k9 _ _ _ kl HXC.out (by omega) hx
        obtain ⟨A8, c8, rfl, _⟩ := (Rd.of_own k2).shape
        have hob : ∀ k, (Value.slice A9 (lsJ cj).length c9).ownBlock = some k → X.heap.size ≤ k := fun k hk => (k9.lt k hk).1
        exact Rv.step_op (op := Go.Op.call { callee := Go.Callee.builtin Go.Builtin.append, args := #[Go.Operand.tmp 22, Go.Operand.tmp 24], argTypes := #[24, 24] }) (ty := 24) (v := .slice A8 ((lsJ cj).length + 1) c8) (w1 := w') rfl rfl (fun d pos aft g => by unfold execOp; simp only [resolve, invoke, builtin, Sem.run_bind, Sem.run_pure, Result.andThen_ok, List.map_toArray, List.map_cons, List.map_nil, e22, e24, hrun]) ⟨_, rfl, ⟨A8, c8, hs, rfl, k2, k5.grown k3 (fun x hx e => by have := HES.out x hx; have := hob x e.symm; have := HXS.out; omega)⟩, .inl ⟨rfl, trivial⟩, htr.grown k3 (by have := HXS.out; omega) (fun k hk => by have := hob k hk; have := HXS.out; omega), (fun _ ht => ht.grown k3 ht.size hob), fun _ _ _ => trivial⟩
      | 7, _ =>
        obtain ⟨A9, c9, hs, eD, k9, k5⟩ : ∃ (A9 : Option Addr) (c9 : Nat) (hs : List Value), a.tmps.getD 25 undef = .slice A9 ((lsJ cj).length + 1) c9 ∧ W.ownsRow X.heap.size 26 5 (.slice A9 ((lsJ cj).length + 1) c9) ((lsJ cj).length + 1) (flat hs ++ ([.int .i64 tx.k, .int .i64 tx.n, .string tx.s, .slice C tx.ns.length d, .slice C2 tx.is.length d2] : List Value)) ∧ JNs E W (lsJ cj) hs := hdep 6 rfl rfl
        obtain ⟨e25, x25⟩ := Rv.ev eD
        have ht1 := hta (by decide)
        have hjr : JN (fun x => E x ∨ X.heap.size ≤ x) W (.mk 4 0 .empty [] (lsJ cj ++ [tx])) (.agg #[.int .i64 4, .int .i64 0, .string ⟨#[]⟩, .slice none 0 0, .slice A9 ((lsJ cj).length + 1) c9]) := ⟨none, 0, A9, c9, hs ++ [.agg #[.int .i64 tx.k, .int .i64 tx.n, .string tx.s, .slice C tx.ns.length d, .slice C2 tx.is.length d2]], by rw [List.length_append]; rfl, Rp.nil _ _ _, by
    rw [show (lsJ cj ++ [tx]).length = (lsJ cj).length + 1 by simp, show flat (hs ++ [.agg #[.int .i64 tx.k, .int .i64 tx.n, .string tx.s, .slice C tx.ns.length d, .slice C2 tx.is.length d2]]) = flat hs ++ ([.int .i64 tx.k, .int .i64 tx.n, .string tx.s, .slice C tx.ns.length d, .slice C2 tx.is.length d2] : List Value) by simp [flat, Value.cells]]
    exact (Rp.own k9).weak (fun x _ hx => .inr hx.1), (k5.weak (fun _ _ h => .inl h)).push ((HJX.out.below ht1).weak (fun _ _ h => .inl h))⟩
        exact Rv.step_op (op := Go.Op.build 26 #[(0, Go.Operand.const (Go.Value.int Go.IntKind.i64 4)), (4, Go.Operand.tmp 25)]) (ty := 26) (v := .agg #[.int .i64 4, .int .i64 0, .string ⟨#[]⟩, .slice none 0 0, .slice A9 ((lsJ cj).length + 1) c9]) (w1 := W) rfl rfl (fun d pos aft g => by unfold execOp; go_simp) ⟨_, rfl, hjr, .inr (Below.refl _ _), htr, (fun _ ht => ht), fun _ _ _ => trivial⟩
      | 8, _ =>
        obtain ⟨e19, x19⟩ := Rv.ev (show a.tmps.getD 19 undef = .agg #[.int .i64 t.k, .int .i64 t.n, .string t.s, .slice A t.ns.length c, .slice A2 t.is.length c2] from hdep 0 rfl rfl)
        obtain ⟨e20, x20⟩ := Rv.ev (show a.tmps.getD 20 undef = .slice A0 l.length c0 from hdep 1 rfl rfl)
        have n26 : JN (fun x => E x ∨ X.heap.size ≤ x) W (.mk 4 0 .empty [] (lsJ cj ++ [tx])) (a.tmps.getD 26 undef) := hdep 7 rfl rfl
        obtain ⟨v26, q26⟩ : ∃ v, a.tmps.getD 26 undef = v := ⟨_, rfl⟩
        rw [q26] at n26
        obtain ⟨e26, x26⟩ := Rv.ev q26
        have ht1 := hta (by decide)
        have cf : ∀ x0 x1 x2 x3 x4 W, (callFunc 11 #[x0, x1, x2, x3, x4]).run Tryz.prog W = .ok (.enter 11 #[x0, x1, x2, x3, x4]) W := fun _ _ _ _ _ _ => by kernel_rfl
        refine Rv.step_fn (op := Go.Op.call { callee := Go.Callee.value (Go.Operand.func 11), args := #[Go.Operand.tmp 19, Go.Operand.tmp 20, Go.Operand.tmp 26, Go.Operand.const (Go.Value.bool true), Go.Operand.const (Go.Value.bool false)], argTypes := #[26, 28, 26, 4, 4] }) (ty := 39) (f := 11) (args := #[.agg #[.int .i64 t.k, .int .i64 t.n, .string t.s, .slice A t.ns.length c, .slice A2 t.is.length c2], .slice A0 l.length c0, v26, .bool true, .bool false]) (R := fun v W' => (∃ (u : Value) (b : Bool), v = .tuple #[u, .bool b] ∧ JN (fun x => E x ∨ X.heap.size ≤ x) W' (updJ (fun _ => (.mk 4 0 .empty [] (lsJ cj ++ [tx]))) none l t) u) ∧ Below W.heap.size W W') rfl rfl (fun d pos aft g => by unfold execOp; go_simp) ((put_any (fun x => x < W.heap.size ∧ (E x ∨ X.heap.size ≤ x)) (.mk 4 0 .empty [] (lsJ cj ++ [tx])) false l t (.agg #[.int .i64 t.k, .int .i64 t.n, .string t.s, .slice A t.ns.length c, .slice A2 t.is.length c2]) v26 A0 c0 W HL4.out HWY.out HWF.out (fun x h => h.1) ((HJ.out.below ht1).weak (fun x hx h => ⟨hx, .inl h⟩)) (n26.weak (fun x hx h => ⟨hx, h⟩)) (HR.out.below ht1)).mono ?_) ?_
        · (rintro e W' ⟨u, b, rfl, h1, hb⟩; exact ⟨_, rfl, ⟨u, b, rfl, h1.weak (fun x _ h => h.elim (fun h => h.2) (fun h => .inr (by have := ht1.size; omega)))⟩, hb⟩)
        · (rintro v W' ⟨hv, hb⟩; exact ⟨_, rfl, hv, .inr hb, htr.trans (hb.mono (by have := htr.size; have := HXS.out; omega)), (fun _ ht => ht.trans (hb.mono ht.size)), fun _ _ _ => trivial⟩)
      | 9, _ =>
        obtain ⟨u27, b27, q27, n27⟩ : ∃ (u : Value) (b : Bool), a.tmps.getD 27 undef = .tuple #[u, .bool b] ∧ JN (fun x => E x ∨ X.heap.size ≤ x) W (updJ (fun _ => (.mk 4 0 .empty [] (lsJ cj ++ [tx]))) none l t) u := hdep 8 rfl rfl
        obtain ⟨e27, x27⟩ := Rv.ev q27
        exact Rv.step_op (op := Go.Op.extract (Go.Operand.tmp 27) 0) (ty := 26) (v := u27) (w1 := W) rfl rfl (fun d pos aft g => by unfold execOp; go_simp) ⟨_, rfl, ⟨u27, b27, q27, rfl⟩, .inr (Below.refl _ _), htr, (fun _ ht => ht), fun _ _ _ => trivial⟩
      | 10, _ =>
        obtain ⟨u27, b27, q27, n27⟩ : ∃ (u : Value) (b : Bool), a.tmps.getD 27 undef = .tuple #[u, .bool b] ∧ JN (fun x => E x ∨ X.heap.size ≤ x) W (updJ (fun _ => (.mk 4 0 .empty [] (lsJ cj ++ [tx]))) none l t) u := hdep 8 rfl rfl
        obtain ⟨e27, x27⟩ := Rv.ev q27
        exact Rv.step_op (op := Go.Op.extract (Go.Operand.tmp 27) 1) (ty := 4) (v := .bool b27) (w1 := W) rfl rfl (fun d pos aft g => by unfold execOp; go_simp) ⟨_, rfl, ⟨b27, rfl⟩, .inr (Below.refl _ _), htr, (fun _ ht => ht), fun _ _ _ => trivial⟩
      | 11, _ =>
        obtain ⟨e6, x6⟩ := Rv.ev (show a.tmps.getD 6 undef = .pointer (some ⟨w.heap.size + 1 + 1, 0, none⟩) from hbase 6 rfl)
        obtain ⟨u28, b28, q28a, q28⟩ : ∃ (u : Value) (b : Bool), a.tmps.getD 27 undef = .tuple #[u, .bool b] ∧ a.tmps.getD 28 undef = u := hdep 9 rfl rfl
        obtain ⟨u27, b27, q27, n27⟩ : ∃ (u : Value) (b : Bool), a.tmps.getD 27 undef = .tuple #[u, .bool b] ∧ JN (fun x => E x ∨ X.heap.size ≤ x) W (updJ (fun _ => (.mk 4 0 .empty [] (lsJ cj ++ [tx]))) none l t) u := hdep 8 rfl rfl
        have ev : u27 = a.tmps.getD 28 undef := by rw [q27] at q28a; injection q28a with h; injection h with h; simp only [List.cons.injEq, and_true] at h; exact h.1.trans q28.symm
        obtain ⟨A9, c9, B9, d9, ez, _⟩ := n27.five
        subst ez
        obtain ⟨e28, x28⟩ := Rv.ev ev.symm
        clear q28 q28a q27 ev
        have hq := ((hta (by decide)).block _ hgz).trans HZ.out
        obtain ⟨s0, s1, s2, s3, s4⟩ := Rv.cells5 hq
        obtain ⟨z0, z1, z2, z3, z4⟩ := Rv.frozen5 hq
        have gs' := fun (V : World) j u => grown_set (Below.refl _ V) (w.heap.size + 1 + 1) j u
        have hgg := (grown_then (grown_then (grown_then (grown_then (gs' W 0 (.int .i64 (updJ (fun _ => (.mk 4 0 .empty [] (lsJ cj ++ [tx]))) none l t).k)) (gs' _ 1 (.int .i64 (updJ (fun _ => (.mk 4 0 .empty [] (lsJ cj ++ [tx]))) none l t).n))) (gs' _ 2 (.string (updJ (fun _ => (.mk 4 0 .empty [] (lsJ cj ++ [tx]))) none l t).s))) (gs' _ 3 (.slice A9 (updJ (fun _ => (.mk 4 0 .empty [] (lsJ cj ++ [tx]))) none l t).ns.length c9))) (gs' _ 4 (.slice B9 (updJ (fun _ => (.mk 4 0 .empty [] (lsJ cj ++ [tx]))) none l t).is.length d9)))
        have hnn := n27.grown hgg (fun x hx e => by injection e with e; rcases hx with hx | hx; exact absurd (HES.out x hx) (by omega); have := HXS.out; omega)
        exact Rv.step_skip (op := Go.Op.store 26 (Go.Operand.tmp 6) (Go.Operand.tmp 28)) (ty := 0) (w1 := (((((W.setCell ⟨w.heap.size + 1 + 1, 0, none⟩ (.int .i64 (updJ (fun _ => (.mk 4 0 .empty [] (lsJ cj ++ [tx]))) none l t).k)).setCell ⟨w.heap.size + 1 + 1, 1, none⟩ (.int .i64 (updJ (fun _ => (.mk 4 0 .empty [] (lsJ cj ++ [tx]))) none l t).n)).setCell ⟨w.heap.size + 1 + 1, 2, none⟩ (.string (updJ (fun _ => (.mk 4 0 .empty [] (lsJ cj ++ [tx]))) none l t).s)).setCell ⟨w.heap.size + 1 + 1, 3, none⟩ (.slice A9 (updJ (fun _ => (.mk 4 0 .empty [] (lsJ cj ++ [tx]))) none l t).ns.length c9)).setCell ⟨w.heap.size + 1 + 1, 4, none⟩ (.slice B9 (updJ (fun _ => (.mk 4 0 .empty [] (lsJ cj ++ [tx]))) none l t).is.length d9))) rfl rfl (fun d pos aft g => by unfold execOp; go_simp) ⟨undef, rfl, ⟨A9, c9, B9, d9, Rv.sets5 hq _ _ _ _ _, hnn⟩, .inl ⟨rfl, trivial⟩, htr.grown hgg (by have := htr.size; have := HXS.out; omega) (fun k hk => by injection hk with hk; omega), (fun h _ => by cases h), fun _ _ _ => trivial⟩
      | 12, _ =>
        obtain ⟨b29, q29⟩ : ∃ b : Bool, a.tmps.getD 29 undef = .bool b := hdep 10 rfl rfl
        obtain ⟨e29, x29⟩ := Rv.ev q29
        exact Rv.step_op (op := Go.Op.assign (Go.Operand.tmp 29)) (ty := 4) (v := .bool b29) (w1 := W) rfl rfl (fun d pos aft g => by unfold execOp; go_simp) ⟨_, rfl, ⟨b29, rfl⟩, .inr (Below.refl _ _), htr, (fun _ ht => ht), fun _ _ _ => trivial⟩
      | m + 13, h => exact absurd h (by show ¬ m + 13 < 13; omega)
    intro W f hf htr hJ
    have f0 : f 0 = .agg #[.int .i64 t.k, .int .i64 t.n, .string t.s, .slice A t.ns.length c, .slice A2 t.is.length c2] := hf 0 (by show 0 < 13; omega) rfl
    have f1 : f 1 = .slice A0 l.length c0 := hf 1 (by show 1 < 13; omega) rfl
    have f2 : f 2 = .agg #[.int .i64 cj.k, .int .i64 cj.n, .string cj.s, .slice A1 cj.ns.length c1, .slice B1 cj.is.length d1] := hf 2 (by show 2 < 13; omega) rfl
    have f4 : f 4 = .agg #[.int .i64 tx.k, .int .i64 tx.n, .string tx.s, .slice C tx.ns.length d, .slice C2 tx.is.length d2] := hf 4 (by show 4 < 13; omega) rfl
    have HS9 := Lib.hid (show (fun f W => ∃ (u : Value) (b : Bool), f 8 = .tuple #[u, .bool b] ∧ f 9 = u) f W from hf 9 (by show 9 < 13; omega) rfl)
    have HS10 := Lib.hid (show (fun f W => ∃ b : Bool, f 10 = .bool b) f W from hf 10 (by show 10 < 13; omega) rfl)
    have HS11 := Lib.hid (show (fun f W => ∃ (A9 : Option Addr) (c9 : Nat) (B9 : Option Addr) (d9 : Nat), W.heap[(w.heap.size + 1 + 1)]? = some (.cells #[.int .i64 (updJ (fun _ => (.mk 4 0 .empty [] (lsJ cj ++ [tx]))) none l t).k, .int .i64 (updJ (fun _ => (.mk 4 0 .empty [] (lsJ cj ++ [tx]))) none l t).n, .string (updJ (fun _ => (.mk 4 0 .empty [] (lsJ cj ++ [tx]))) none l t).s, .slice A9 (updJ (fun _ => (.mk 4 0 .empty [] (lsJ cj ++ [tx]))) none l t).ns.length c9, .slice B9 (updJ (fun _ => (.mk 4 0 .empty [] (lsJ cj ++ [tx]))) none l t).is.length d9] 26 (0, 0)) ∧ JN (fun x => E x ∨ X.heap.size ≤ x) W (updJ (fun _ => (.mk 4 0 .empty [] (lsJ cj ++ [tx]))) none l t) (.agg #[.int .i64 (updJ (fun _ => (.mk 4 0 .empty [] (lsJ cj ++ [tx]))) none l t).k, .int .i64 (updJ (fun _ => (.mk 4 0 .empty [] (lsJ cj ++ [tx]))) none l t).n, .string (updJ (fun _ => (.mk 4 0 .empty [] (lsJ cj ++ [tx]))) none l t).s, .slice A9 (updJ (fun _ => (.mk 4 0 .empty [] (lsJ cj ++ [tx]))) none l t).ns.length c9, .slice B9 (updJ (fun _ => (.mk 4 0 .empty [] (lsJ cj ++ [tx]))) none l t).is.length d9])) f W from hf 11 (by show 11 < 13; omega) rfl)
    have HS12 := Lib.hid (show (fun f W => ∃ b : Bool, f 12 = .bool b) f W from hf 12 (by show 12 < 13; omega) rfl)
    clear hf
    refine (show ∀ (a : Act) (w : World), Code.wp _ _ _ a w → _ from by assumption) _ _ ?_
    refine Rv.fin_swap (L' := [(19, f 0), (20, f 1), (21, f 2), (22, f 3), (23, f 4), (24, f 5), (25, f 6), (26, f 7), (27, f 8), (28, f 9), (29, f 10), (1011, f 11), (7, f 12)]) rfl ?_
    rw [f0, f1, f2, f4]
    clear f0 f1 f2 f4
    simp only [Rv.fin, List.foldl_cons, List.foldl_nil, Act.put, List.setIfInBounds_toArray, List.set_cons_succ, List.set_cons_zero, List.set_nil]
    obtain ⟨A9, c9, B9, d9, hb9, hj9⟩ := HS11.out
    obtain ⟨b7, h12⟩ := HS12.out
    rw [h12]
    have HBF := Lib.hid (HX.out.trans (htr.mono (by omega)))
    have hres : updJ (fun _ => (.mk 4 0 .empty [] (lsJ cj ++ [tx]))) none l t = upd 4 tx l t := updJ_get _ (fm 4 tx) l t cj HGJ.out rfl
    have HJF := Lib.hid (hj9.weak (q := fun x => E x ∨ w.heap.size ≤ x) (fun x _ hx => hx.imp id (fun h => by have := HXS.out; omega)))
    rw [hres] at HJF hb9
    clear hj9 htr HS11 HS12 h12 hres
    generalize upd 4 tx l t = R at *
    generalize f 3 = u3
    generalize f 5 = u5
    generalize f 6 = u6
    generalize f 7 = u7
    generalize f 8 = u8
    generalize f 9 = u9
    generalize f 10 = u10
    generalize f 11 = u11
    obtain ⟨q0, q1, q2, q3, q4⟩ := Rv.cells5 hb9
    go_wp2
    refine bodyPost_ret (v := .tuple #[.agg #[.int .i64 R.k, .int .i64 R.n, .string R.s, .slice A9 R.ns.length c9, .slice B9 R.is.length d9], .bool b7]) ?_ rfl ⟨_, _, rfl, HJF.out, HBF.out⟩
    simp only [results, show Tryz.f13.results = #[.cell 6 26, .tmp 7] by kernel_rfl]
    go_simp
end Go.Proofs.YtmelgankbegjaaaGreatDoor.Js

set_option linter.unusedVariables false
set_option linter.unusedSimpArgs false
set_option maxRecDepth 100000
set_option maxHeartbeats 8000000
namespace Go.Proofs.YtmelgankbegjaaaGreatDoor.Js
open Go.RowKit Go.Proofs.YtmelgankbegjaaaGreatDoor.B

theorem law4_any (A : Option Addr) (la ca : Nat) (za : List Int) (B : Option Addr) (lb cb : Nat) (zb : List Int) (C : Option Addr) (lc cc : Nat) (zc : List Int) (w : World) (ha : IsRow .u8 w A la ca za) (hb : IsRow .u8 w B lb cb zb) (hc : IsRow .u8 w C lc cc zc)
    (has : As w) (hmd : w.cell? ⟨0, 5, none⟩ = some (.int .i64 4)) :
    Calls Tryz.prog 4 #[.slice A la ca, .slice B lb cb, .slice C lc cc] w fun e w' => e = .returned (.bool true) ∧ Below w.heap.size w w' := by
  have ba := ha.rd.1.le
  have bb := hb.rd.1.le
  have bc := hc.rd.1.le
  by_cases sa : la ≤ 2147483647
  case neg =>
    go_enter Tryz.func4, Tryz.ntmps4
    go_wp2
    go_ret
    exact ⟨rfl, Below.refl _ _⟩
  by_cases sb : lb ≤ 2147483647
  case neg =>
    go_enter Tryz.func4, Tryz.ntmps4
    go_wp2
    go_ret
    exact ⟨rfl, Below.refl _ _⟩
  by_cases sc : lc ≤ 2147483647
  case neg =>
    go_enter Tryz.func4, Tryz.ntmps4
    go_wp2
    go_ret
    exact ⟨rfl, Below.refl _ _⟩
  have ra := ha.rd
  have rb := hb.rd
  have rc := hc.rd
  have u8 : ∀ z : Int, (Lit.int .u8 z).wf = true → 0 ≤ z ∧ z ≤ 255 := fun z h => bounds_u8 h
  have OA := Lib.hid (of_any w A la ca (za.take la) ra.1 (fun z hz => u8 z (ra.2 z (List.mem_of_mem_take hz))))
  have OC := Lib.hid (fun (W : World) (h : Below w.heap.size w W) => of_any W C lc cc (zc.take lc) (rc.1.below h) (fun z hz => u8 z (rc.2 z (List.mem_of_mem_take hz))))
  have RB := Lib.hid (show Rd w 1 (.slice B lb cb) lb (u8s (zb.take lb)) from rb.1)
  have UB := Lib.hid (fun z (hz : z ∈ zb.take lb) => u8 z (rb.2 z (List.mem_of_mem_take hz)))
  have HAS := Lib.hid has
  have HMD := Lib.hid hmd
  clear ra rb rc u8 ha hb hc has hmd
  go_enter Tryz.func4, Tryz.ntmps4
  go_upto_region 4 with (first
    | (go_at_call 6; (with_reducible refine OA.out.mono ?_); rintro e w1 ⟨v1, t1, rfl, hw, hj, hb⟩; obtain ⟨A1, c1, B1, d1, rfl, _⟩ := hj.five; have HJ1 := Lib.hid hj; have HW1 := Lib.hid hw; have HB1 := Lib.hid hb; clear hw hj hb)
    | (go_at_call 6; (with_reducible refine (OC.out w1 HB1.out).mono ?_); rintro e w2 ⟨v2, t2, rfl, hw, hj, hb⟩; obtain ⟨A2, c2, B2, d2, rfl, _⟩ := hj.five; have HJ2 := Lib.hid hj; have HW2 := Lib.hid hw; have HB2 := Lib.hid (HB1.out.trans (hb.mono HB1.out.size)); have HJ12 := Lib.hid (HJ1.out.below hb); clear hw hj hb))
  have hba := (Below.refl w2.heap.size w2).alloc (Nat.le_refl _) (.cells #[.int .i64 t1.k, .int .i64 t1.n, .string t1.s, .slice A1 t1.ns.length c1, .slice B1 t1.is.length d1] 26)
  have hbb := (Below.refl (w2.alloc (.cells #[.int .i64 t1.k, .int .i64 t1.n, .string t1.s, .slice A1 t1.ns.length c1, .slice B1 t1.is.length d1] 26)).heap.size (w2.alloc (.cells #[.int .i64 t1.k, .int .i64 t1.n, .string t1.s, .slice A1 t1.ns.length c1, .slice B1 t1.is.length d1] 26))).alloc (Nat.le_refl _) (.cells #[.int .i64 t2.k, .int .i64 t2.n, .string t2.s, .slice A2 t2.ns.length c2, .slice B2 t2.is.length d2] 26)
  have hn1 := heap_alloc_new w2 (.cells #[.int .i64 t1.k, .int .i64 t1.n, .string t1.s, .slice A1 t1.ns.length c1, .slice B1 t1.is.length d1] 26)
  have hsz1 : (w2.alloc (.cells #[.int .i64 t1.k, .int .i64 t1.n, .string t1.s, .slice A1 t1.ns.length c1, .slice B1 t1.is.length d1] 26)).heap.size = w2.heap.size + 1 := by simp
  have hn2 := heap_alloc_new (w2.alloc (.cells #[.int .i64 t1.k, .int .i64 t1.n, .string t1.s, .slice A1 t1.ns.length c1, .slice B1 t1.is.length d1] 26)) (.cells #[.int .i64 t2.k, .int .i64 t2.n, .string t2.s, .slice A2 t2.ns.length c2, .slice B2 t2.is.length d2] 26)
  have hXB := hba.trans (hbb.mono hba.size)
  have HG1 := Lib.hid ((hbb.block _ (Rv.lt_of_blk hn1)).trans hn1)
  rw [hsz1] at hn2
  have HG2 := Lib.hid hn2
  have HJ1 := Lib.hid (HJ12.out.below hXB)
  have HJ2 := Lib.hid (HJ2.out.below hXB)
  have HXW := Lib.hid (HB2.out.trans (hXB.mono HB2.out.size))
  clear hba hbb hn1 hsz1 hn2 hXB HJ12 HB1 HB2 OA OC
  generalize (w2.alloc (.cells #[.int .i64 t1.k, .int .i64 t1.n, .string t1.s, .slice A1 t1.ns.length c1, .slice B1 t1.is.length d1] 26)).alloc (.cells #[.int .i64 t2.k, .int .i64 t2.n, .string t2.s, .slice A2 t2.ns.length c2, .slice B2 t2.is.length d2] 26) = X at *
  have hg1 := Rv.lt_of_blk HG1.out
  have hg2 := Rv.lt_of_blk HG2.out
  generalize w2.heap.size + 1 = g2 at *
  generalize w2.heap.size = g1 at *
  have WAY := Lib.hid (way_any (fun x => x < X.heap.size) t1 (.agg #[.int .i64 t1.k, .int .i64 t1.n, .string t1.s, .slice A1 t1.ns.length c1, .slice B1 t1.is.length d1]) B lb cb (zb.take lb) X (fun x h => h) (HJ1.out.weak (fun x h _ => h)) HW1.out (RB.out.below HXW.out) UB.out)
  obtain ⟨y0, y1, y2, y3, y4⟩ := Rv.cells5 HG1.out
  go_upto_region 5 with (go_at_call 7; (with_reducible refine WAY.out.mono ?_); rintro e w3 hw3; obtain ⟨A0, c0, l, b3, rfl, hor, hb⟩ := hw3.one; have HOR := Lib.hid hor; have HB3 := Lib.hid hb; clear hw3 hor hb)
  clear y0 y1 y2 y3 y4 WAY RB UB
  have HG1 := Lib.hid ((HB3.out.block _ hg1).trans HG1.out)
  have HG2 := Lib.hid ((HB3.out.block _ hg2).trans HG2.out)
  have HJ1 := Lib.hid (HJ1.out.below HB3.out)
  have HJ2 := Lib.hid (HJ2.out.below HB3.out)
  have HXW := Lib.hid (HXW.out.trans (HB3.out.mono HXW.out.size))
  clear HB3 hg1 hg2
  generalize w3 = X at *
  have hg1 := Rv.lt_of_blk HG1.out
  have hg2 := Rv.lt_of_blk HG2.out
  cases b3
  · clear HOR
    go_wp2
    go_ret
    exact ⟨rfl, HXW.out⟩
  obtain ⟨hwy, hst, hl4, hrd⟩ := HOR.out rfl
  have HWY := Lib.hid hwy
  have HST := Lib.hid hst
  have HL4 := Lib.hid hl4
  have HR := Lib.hid hrd
  clear hwy hst hl4 hrd HOR
  have HMD := Lib.hid ((HXW.out.cell (p := ⟨0, 5, none⟩) (by have := HAS.out.1; show 0 < _; omega)).trans HMD.out)
  have HAS := Lib.hid (HAS.out.below HXW.out HAS.out.1)
  go_upto_region 7 with fail
  refine Rv.region_fin (n := 65) (by kernel_rfl) #[42, 43, 44, 45, 46, 47, 48, 41, 49, 50, 51, 11, 1012, 12, 13] #[] (fun i f W => if i = 13 then (fun f W => f 13 = f 9) f W else if i = 12 then (fun f W => ∃ (g : Nat) (d : J) (Y1 : Option Addr) (e1 : Nat) (Y2 : Option Addr) (e2 : Nat), f 11 = .pointer (some ⟨g, 0, none⟩) ∧ X.heap.size ≤ g ∧ eqJ d (upd 4 t2 l t1) = true ∧ Wg d ∧ NN (fun _ => True) W d (.agg #[.int .i64 d.k, .int .u64 (nb d.k d.n), .string d.s, .slice Y1 d.ns.length e1, .slice Y2 d.is.length e2]) ∧ W.heap[g]? = some (.cells #[.int .i64 d.k, .int .u64 (nb d.k d.n), .string d.s, .slice Y1 d.ns.length e1, .slice Y2 d.is.length e2] 34 (0, 0))) f W else if i = 11 then (fun f W => ∃ g : Nat, f 11 = .pointer (some ⟨g, 0, none⟩) ∧ W.heap[g]? = some nz ∧ X.heap.size ≤ g) f W else if i = 9 then (fun f W => ∃ (u : Value) (b : Bool), f 7 = .tuple #[u, .bool b, .bool true] ∧ f 9 = .bool b) f W else if i = 8 then (fun f W => ∃ b : Bool, f 7 = .tuple #[f 8, .bool b, .bool true]) f W else if i = 7 then (fun f W => ∃ (u : Value) (b : Bool), f 7 = .tuple #[u, .bool b, .bool true] ∧ f 6 = .tuple #[u, .bool b, .bool true]) f W else if i = 6 then (fun f W => ∃ (u : Value) (b : Bool), f 6 = .tuple #[u, .bool b, .bool true]) f W else if i = 5 then (fun f W => NN (fun _ => True) W t2 (f 5)) f W else if i = 1 then (fun f W => NN (fun _ => True) W t1 (f 1)) f W else f i = (#[.agg #[.int .i64 t1.k, .int .i64 t1.n, .string t1.s, .slice A1 t1.ns.length c1, .slice B1 t1.is.length d1], undef, .slice A0 l.length c0, .string (bs (36 :: segs l)), .agg #[.int .i64 t2.k, .int .i64 t2.n, .string t2.s, .slice A2 t2.ns.length c2, .slice B2 t2.is.length d2], undef, undef, undef, undef, undef, .bool true, undef, undef, undef, .bool true] : Array Value).getD i undef) (fun i j => (i == 12 && (j == 1 || j == 5 || j == 11))) (fun i => i == 12) (fun i f W W' => True) (fun W => Below X.heap.size X W) (fun _ => True) (Mw (upd 4 t2 l t1)) (Mw.loc (by show 11 < 15; omega)) (fun i f f' w hi h hd hg => ?_) (fun i j f w w' hi hj hij hK hdp h hr => ?_) (fun i h g b hg => ?_) rfl (by kernel_rfl) (fun i h g b hg => ?_) ((Below.refl _ _).drew) (trivial) (fun f => ⟨fun h => (by cases h), fun h => (by cases h)⟩) (fun i h hr f w hf => ?_) (fun i h hr => absurd hr (Rv.allrun (by kernel_rfl) i h)) ?_ ?_
  · by_cases hi12 : i = 13
    · subst hi12
      rw [if_pos rfl] at hg ⊢
      exact h.symm.trans (hg.trans (hd 9 rfl))
    rw [if_neg hi12] at hg ⊢
    by_cases hi1012 : i = 12
    · subst hi1012
      rw [if_pos rfl] at hg ⊢
      obtain ⟨g, d, Y1, e1, Y2, e2, q1, q2⟩ := hg
      exact ⟨g, d, Y1, e1, Y2, e2, (hd 11 rfl).symm.trans q1, q2⟩
    rw [if_neg hi1012] at hg ⊢
    by_cases hi11 : i = 11
    · subst hi11
      rw [if_pos rfl] at hg ⊢
      obtain ⟨g, q1, q2⟩ := hg
      exact ⟨g, h.symm.trans q1, q2⟩
    rw [if_neg hi11] at hg ⊢
    by_cases hi50 : i = 9
    · subst hi50
      rw [if_pos rfl] at hg ⊢
      obtain ⟨u, b, q1, q2⟩ := hg
      exact ⟨u, b, (hd 7 rfl).symm.trans q1, h.symm.trans q2⟩
    rw [if_neg hi50] at hg ⊢
    by_cases hi49 : i = 8
    · subst hi49
      rw [if_pos rfl] at hg ⊢
      obtain ⟨b, hz⟩ := hg
      have hz : f 7 = .tuple #[f 8, .bool b, .bool true] := hz
      rw [hd 7 rfl, h] at hz
      exact ⟨b, hz⟩
    rw [if_neg hi49] at hg ⊢
    by_cases hi41 : i = 7
    · subst hi41
      rw [if_pos rfl] at hg ⊢
      obtain ⟨u, b, q, q2⟩ := hg
      exact ⟨u, b, h.symm.trans q, (hd 6 rfl).symm.trans q2⟩
    rw [if_neg hi41] at hg ⊢
    by_cases hi48 : i = 6
    · subst hi48
      rw [if_pos rfl] at hg ⊢
      obtain ⟨u, b, q⟩ := hg
      exact ⟨u, b, h.symm.trans q⟩
    rw [if_neg hi48] at hg ⊢
    by_cases hi47 : i = 5
    · subst hi47
      rw [if_pos rfl] at hg ⊢
      have hz := hg
      rw [h] at hz
      exact hz
    rw [if_neg hi47] at hg ⊢
    by_cases hi43 : i = 1
    · subst hi43
      rw [if_pos rfl] at hg ⊢
      have hz := hg
      rw [h] at hz
      exact hz
    rw [if_neg hi43] at hg ⊢
    rw [← h]; exact hg
  · by_cases hj12 : j = 13
    · subst hj12
      rw [if_pos rfl] at h ⊢
      exact h
    rw [if_neg hj12] at h ⊢
    by_cases hj1012 : j = 12
    · subst hj1012
      rw [if_pos rfl] at h ⊢
      rcases hr with ⟨hK1, hr⟩ | hr
      · have e : i = 12 := by simpa using hK1
        exact absurd e hij
      · obtain ⟨g, d, Y1, e1, Y2, e2, q1, q2, q4, q5, q6, q7⟩ := h
        exact ⟨g, d, Y1, e1, Y2, e2, q1, q2, q4, q5, q6.below hr, (hr.block _ (Rv.lt_of_blk q7)).trans q7⟩
    rw [if_neg hj1012] at h ⊢
    by_cases hj11 : j = 11
    · subst hj11
      rw [if_pos rfl] at h ⊢
      rcases hr with ⟨hK1, hr⟩ | hr
      · have e : i = 12 := by simpa using hK1
        subst e; exfalso; revert hK; decide
      · obtain ⟨g, e, h1, h2⟩ := h
        exact ⟨g, e, (hr.block _ (Rv.lt_of_blk h1)).trans h1, h2⟩
    rw [if_neg hj11] at h ⊢
    by_cases hj50 : j = 9
    · subst hj50
      rw [if_pos rfl] at h ⊢
      exact h
    rw [if_neg hj50] at h ⊢
    by_cases hj49 : j = 8
    · subst hj49
      rw [if_pos rfl] at h ⊢
      exact h
    rw [if_neg hj49] at h ⊢
    by_cases hj41 : j = 7
    · subst hj41
      rw [if_pos rfl] at h ⊢
      exact h
    rw [if_neg hj41] at h ⊢
    by_cases hj48 : j = 6
    · subst hj48
      rw [if_pos rfl] at h ⊢
      exact h
    rw [if_neg hj48] at h ⊢
    by_cases hj47 : j = 5
    · subst hj47
      rw [if_pos rfl] at h ⊢
      rcases hr with ⟨hK1, hr⟩ | hr
      · have e : i = 12 := by simpa using hK1
        subst e; exfalso; revert hK; decide
      · exact h.below hr
    rw [if_neg hj47] at h ⊢
    by_cases hj43 : j = 1
    · subst hj43
      rw [if_pos rfl] at h ⊢
      rcases hr with ⟨hK1, hr⟩ | hr
      · have e : i = 12 := by simpa using hK1
        subst e; exfalso; revert hK; decide
      · exact h.below hr
    rw [if_neg hj43] at h ⊢
    exact h
  · match i, h, hg with
    | 0, _, hg => cases hg
    | 1, _, hg => cases hg
    | 2, _, hg => cases hg
    | 3, _, hg => cases hg
    | 4, _, hg => cases hg
    | 5, _, hg => cases hg
    | 6, _, hg => cases hg
    | 7, _, hg => cases hg
    | 8, _, hg => cases hg
    | 9, _, hg => cases hg
    | 10, _, hg => cases hg
    | 11, _, hg => cases hg
    | 12, _, hg => cases hg
    | 13, _, hg => cases hg
    | 14, _, hg => cases hg
    | m + 15, h, _ => exact absurd h (by show ¬ m + 15 < 15; omega)
  · match i, h, hg with
    | 0, _, hg => cases hg
    | 1, _, hg => cases hg
    | 2, _, hg => cases hg
    | 3, _, hg => cases hg
    | 4, _, hg => cases hg
    | 5, _, hg => cases hg
    | 6, _, hg => cases hg
    | 7, _, hg => cases hg
    | 8, _, hg => cases hg
    | 9, _, hg => cases hg
    | 10, _, hg => cases hg
    | 11, _, hg => cases hg
    | 12, _, hg => cases hg
    | 13, _, hg => cases hg
    | 14, _, hg => cases hg
    | m + 15, h, _ => exact absurd h (by show ¬ m + 15 < 15; omega)
  · match i, h, hr, hf with
    | 0, _, hr, _ => exact Bool.noConfusion (show true = false from hr)
    | 1, _, hr, _ => exact Bool.noConfusion (show true = false from hr)
    | 2, _, hr, _ => exact Bool.noConfusion (show true = false from hr)
    | 3, _, hr, _ => exact Bool.noConfusion (show true = false from hr)
    | 4, _, hr, _ => exact Bool.noConfusion (show true = false from hr)
    | 5, _, hr, _ => exact Bool.noConfusion (show true = false from hr)
    | 6, _, hr, _ => exact Bool.noConfusion (show true = false from hr)
    | 7, _, hr, _ => exact Bool.noConfusion (show true = false from hr)
    | 8, _, hr, _ => exact Bool.noConfusion (show true = false from hr)
    | 9, _, hr, _ => exact Bool.noConfusion (show true = false from hr)
    | 10, _, hr, _ => exact Bool.noConfusion (show true = false from hr)
    | 11, _, hr, _ => exact Bool.noConfusion (show true = false from hr)
    | 12, _, hr, _ => exact Bool.noConfusion (show true = false from hr)
    | 13, _, hr, _ => exact Bool.noConfusion (show true = false from hr)
    | 14, _, hr, _ => exact Bool.noConfusion (show true = false from hr)
    | m + 15, h, _, _ => exact absurd h (by show ¬ m + 15 < 15; omega)
  · intro i h a W hrun hbase hpre hdep htr hta hJ
    match i, h with
    | 0, _ =>
      obtain ⟨e7, x7⟩ := Rv.ev (show a.tmps.getD 7 undef = .pointer (some ⟨g1, 0, none⟩) from hbase 7 rfl)
      obtain ⟨y0, y1, y2, y3, y4⟩ := Rv.cells5 ((htr.block _ hg1).trans HG1.out)
      exact Rv.step_op (op := Go.Op.load 26 (Go.Operand.tmp 7)) (v := .agg #[.int .i64 t1.k, .int .i64 t1.n, .string t1.s, .slice A1 t1.ns.length c1, .slice B1 t1.is.length d1]) (w1 := W) rfl rfl (fun d pos aft g => by unfold execOp; go_simp) ⟨_, rfl, rfl, .inr (Below.refl _ _), htr, fun _ ht => ht, fun L _ hJ => Mw.keep (by decide) (by decide) _ (Below.refl _ _) hJ⟩
    | 1, _ =>
      obtain ⟨e42, x42⟩ := Rv.ev (show a.tmps.getD 42 undef = .agg #[.int .i64 t1.k, .int .i64 t1.n, .string t1.s, .slice A1 t1.ns.length c1, .slice B1 t1.is.length d1] from hdep 0 rfl rfl)
      have cf : ∀ x0 W, (callFunc 9 #[x0]).run Tryz.prog W = .ok (.enter 9 #[x0]) W := fun _ _ => by kernel_rfl
      refine Rv.step_fn (op := Go.Op.call { callee := Go.Callee.value (Go.Operand.func 9), args := #[Go.Operand.tmp 42], argTypes := #[26] }) (ty := 34) (f := 9) (args := #[.agg #[.int .i64 t1.k, .int .i64 t1.n, .string t1.s, .slice A1 t1.ns.length c1, .slice B1 t1.is.length d1]]) (R := fun v W' => (NN (fun _ => True) W' t1 v) ∧ Below W.heap.size W W') rfl rfl (fun d pos aft g => by unfold execOp; go_simp) ((in_anyg t1 _ _ W HW1.out.wg (HJ1.out.below htr)).mono ?_) ?_
      · (rintro e W' ⟨u, rfl, hu, hb⟩; exact ⟨_, rfl, hu.weak (fun _ _ _ => trivial), hb⟩)
      · (rintro v W' ⟨hv, hb⟩; exact ⟨_, rfl, hv, .inr hb, htr.trans (hb.mono htr.size), fun _ ht => trivial, fun L _ hJ => Mw.keep (by decide) (by decide) _ hb hJ⟩)
    | 2, _ =>
      obtain ⟨e9, x9⟩ := Rv.ev (show a.tmps.getD 9 undef = .slice A0 l.length c0 from hbase 9 rfl)
      exact Rv.step_op (op := Go.Op.move (Go.Operand.tmp 9)) (v := .slice A0 l.length c0) (w1 := W) rfl rfl (fun d pos aft g => by unfold execOp; go_simp) ⟨_, rfl, rfl, .inr (Below.refl _ _), htr, fun _ ht => ht, fun L _ hJ => Mw.keep (by decide) (by decide) _ (Below.refl _ _) hJ⟩
    | 3, _ =>
      obtain ⟨e44, x44⟩ := Rv.ev (show a.tmps.getD 44 undef = .slice A0 l.length c0 from hdep 2 rfl rfl)
      have cf : ∀ x0 W, (callFunc 10 #[x0]).run Tryz.prog W = .ok (.enter 10 #[x0]) W := fun _ _ => by kernel_rfl
      refine Rv.step_fn (op := Go.Op.call { callee := Go.Callee.value (Go.Operand.func 10), args := #[Go.Operand.tmp 44], argTypes := #[28] }) (ty := 9) (f := 10) (args := #[.slice A0 l.length c0]) (R := fun v W' => v = .string (bs (36 :: segs l)) ∧ Below W.heap.size W W') rfl rfl (fun d pos aft g => by unfold execOp; go_simp) ((path_any A0 c0 l W (HR.out.below htr) HL4.out (fun s hs => ⟨(HST.out s hs).1, (HST.out s hs).2.1.1⟩)).mono ?_) ?_
      · (rintro e W' ⟨rfl, hb⟩; exact ⟨_, rfl, rfl, hb⟩)
      · (rintro v W' ⟨hv, hb⟩; exact ⟨_, rfl, hv, .inr hb, htr.trans (hb.mono htr.size), fun _ ht => trivial, fun L _ hJ => Mw.keep (by decide) (by decide) _ hb hJ⟩)
    | 4, _ =>
      obtain ⟨e8, x8⟩ := Rv.ev (show a.tmps.getD 8 undef = .pointer (some ⟨g2, 0, none⟩) from hbase 8 rfl)
      obtain ⟨x0, x1, x2, x3, x4⟩ := Rv.cells5 ((htr.block _ hg2).trans HG2.out)
      exact Rv.step_op (op := Go.Op.load 26 (Go.Operand.tmp 8)) (v := .agg #[.int .i64 t2.k, .int .i64 t2.n, .string t2.s, .slice A2 t2.ns.length c2, .slice B2 t2.is.length d2]) (w1 := W) rfl rfl (fun d pos aft g => by unfold execOp; go_simp) ⟨_, rfl, rfl, .inr (Below.refl _ _), htr, fun _ ht => ht, fun L _ hJ => Mw.keep (by decide) (by decide) _ (Below.refl _ _) hJ⟩
    | 5, _ =>
      obtain ⟨e46, x46⟩ := Rv.ev (show a.tmps.getD 46 undef = .agg #[.int .i64 t2.k, .int .i64 t2.n, .string t2.s, .slice A2 t2.ns.length c2, .slice B2 t2.is.length d2] from hdep 4 rfl rfl)
      have cf : ∀ x0 W, (callFunc 9 #[x0]).run Tryz.prog W = .ok (.enter 9 #[x0]) W := fun _ _ => by kernel_rfl
      refine Rv.step_fn (op := Go.Op.call { callee := Go.Callee.value (Go.Operand.func 9), args := #[Go.Operand.tmp 46], argTypes := #[26] }) (ty := 34) (f := 9) (args := #[.agg #[.int .i64 t2.k, .int .i64 t2.n, .string t2.s, .slice A2 t2.ns.length c2, .slice B2 t2.is.length d2]]) (R := fun v W' => (NN (fun _ => True) W' t2 v) ∧ Below W.heap.size W W') rfl rfl (fun d pos aft g => by unfold execOp; go_simp) ((in_anyg t2 _ _ W HW2.out.wg (HJ2.out.below htr)).mono ?_) ?_
      · (rintro e W' ⟨u, rfl, hu, hb⟩; exact ⟨_, rfl, hu.weak (fun _ _ _ => trivial), hb⟩)
      · (rintro v W' ⟨hv, hb⟩; exact ⟨_, rfl, hv, .inr hb, htr.trans (hb.mono htr.size), fun _ ht => trivial, fun L _ hJ => Mw.keep (by decide) (by decide) _ hb hJ⟩)
    | 6, _ =>
      have n43 : NN (fun _ => True) W t1 (a.tmps.getD 43 undef) := hdep 1 rfl rfl
      obtain ⟨v43, q43⟩ : ∃ v, a.tmps.getD 43 undef = v := ⟨_, rfl⟩
      rw [q43] at n43
      obtain ⟨e43, x43⟩ := Rv.ev q43
      obtain ⟨e45, x45⟩ := Rv.ev (show a.tmps.getD 45 undef = .string (bs (36 :: segs l)) from hdep 3 rfl rfl)
      have n47 : NN (fun _ => True) W t2 (a.tmps.getD 47 undef) := hdep 5 rfl rfl
      obtain ⟨v47, q47⟩ : ∃ v, a.tmps.getD 47 undef = v := ⟨_, rfl⟩
      rw [q47] at n47
      obtain ⟨e47, x47⟩ := Rv.ev q47
      have cf : ∀ x0 x1 x2 x3 W, (callFunc 8 #[x0, x1, x2, x3]).run Tryz.prog W = .ok (.enter 8 #[x0, x1, x2, x3]) W := fun _ _ _ _ _ => by kernel_rfl
      have hcall : Calls Tryz.prog 8 #[.int .i64 5, v43, .string (bs (36 :: segs l)), v47] W _ := jsdo_any 5 4 (by decide) (by decide) l HL4.out HST.out t1 t2 _ _ v43 v47 W HWY.out HW1.out HW2.out n43 n47 (HAS.out.below htr HAS.out.1) ((htr.cell (p := ⟨0, 5, none⟩) (by have := HAS.out.1; show 0 < _; omega)).trans HMD.out)
      refine Rv.step_fn (op := Go.Op.call { callee := Go.Callee.value (Go.Operand.func 8), args := #[Go.Operand.const (Go.Value.int Go.IntKind.i64 5), Go.Operand.tmp 43, Go.Operand.tmp 45, Go.Operand.tmp 47], argTypes := #[3, 34, 9, 34] }) (ty := 35) (f := 8) (args := #[.int .i64 5, v43, .string (bs (36 :: segs l)), v47]) (R := fun v W' => (∃ (u : Value) (b : Bool) (d : J), v = .tuple #[u, .bool b, .bool true] ∧ eqJ d (upd 4 t2 l t1) = true ∧ Wg d ∧ NN (fun x => W.heap.size ≤ x) W' d u) ∧ Below W.heap.size W W') rfl rfl (fun d pos aft g => by unfold execOp; go_simp) (hcall.mono ?_) ?_
      · (rintro e W' ⟨u, d, ⟨b, rfl⟩, h2, h3, h4, hb⟩; exact ⟨_, rfl, ⟨u, b, d, rfl, h2, h3, h4⟩, hb⟩)
      · (rintro v W' ⟨⟨u, b, d, rfl, h2, h3, h4⟩, hb⟩; exact ⟨_, rfl, ⟨u, b, rfl⟩, .inr hb, htr.trans (hb.mono htr.size), fun _ ht => trivial, fun L _ hJ => Mw.call hb h2 h3 h4 hJ⟩)
    | 7, _ =>
      obtain ⟨u48, b48, q48⟩ : ∃ (u : Value) (b : Bool), a.tmps.getD 48 undef = .tuple #[u, .bool b, .bool true] := hdep 6 rfl rfl
      obtain ⟨e48, x48⟩ := Rv.ev q48
      exact Rv.step_op (op := Go.Op.move (Go.Operand.tmp 48)) (ty := 35) (v := .tuple #[u48, .bool b48, .bool true]) (w1 := W) rfl rfl (fun d pos aft g => by unfold execOp; go_simp) ⟨_, rfl, ⟨u48, b48, rfl, q48⟩, .inr (Below.refl _ _), htr, (fun _ ht => ht), fun L _ hJ => Mw.keep (by decide) (by decide) _ (Below.refl _ _) hJ⟩
    | 8, _ =>
      obtain ⟨u41, b41, q41, q41'⟩ : ∃ (u : Value) (b : Bool), a.tmps.getD 41 undef = .tuple #[u, .bool b, .bool true] ∧ a.tmps.getD 48 undef = .tuple #[u, .bool b, .bool true] := hdep 7 rfl rfl
      obtain ⟨e41, x41⟩ := Rv.ev q41
      exact Rv.step_op (op := Go.Op.extract (Go.Operand.tmp 41) 0) (ty := 34) (v := u41) (w1 := W) rfl rfl (fun d pos aft g => by unfold execOp; go_simp) ⟨_, rfl, ⟨b41, q41⟩, .inr (Below.refl _ _), htr, (fun _ ht => ht), fun L _ hJ => Mw.keep (by decide) (by decide) _ (Below.refl _ _) hJ⟩
    | 9, _ =>
      obtain ⟨u41, b41, q41, q41'⟩ : ∃ (u : Value) (b : Bool), a.tmps.getD 41 undef = .tuple #[u, .bool b, .bool true] ∧ a.tmps.getD 48 undef = .tuple #[u, .bool b, .bool true] := hdep 7 rfl rfl
      obtain ⟨e41, x41⟩ := Rv.ev q41
      exact Rv.step_op (op := Go.Op.extract (Go.Operand.tmp 41) 1) (ty := 4) (v := .bool b41) (w1 := W) rfl rfl (fun d pos aft g => by unfold execOp; go_simp) ⟨_, rfl, ⟨u41, b41, q41, rfl⟩, .inr (Below.refl _ _), htr, (fun _ ht => ht), fun L _ hJ => Mw.keep (by decide) (by decide) _ (Below.refl _ _) hJ⟩
    | 10, _ =>
      obtain ⟨u41, b41, q41, q41'⟩ : ∃ (u : Value) (b : Bool), a.tmps.getD 41 undef = .tuple #[u, .bool b, .bool true] ∧ a.tmps.getD 48 undef = .tuple #[u, .bool b, .bool true] := hdep 7 rfl rfl
      obtain ⟨e41, x41⟩ := Rv.ev q41
      exact Rv.step_op (op := Go.Op.extract (Go.Operand.tmp 41) 2) (v := .bool true) (w1 := W) rfl rfl (fun d pos aft g => by unfold execOp; go_simp) ⟨_, rfl, rfl, .inr (Below.refl _ _), htr, fun _ ht => ht, fun L _ hJ => Mw.keep (by decide) (by decide) _ (Below.refl _ _) hJ⟩
    | 11, _ =>
      have hal : Below W.heap.size W (W.alloc nz) := (Below.refl _ _).alloc (Nat.le_refl _) _
      exact Rv.step_op (op := Go.Op.alloc 34) (ty := 0) (v := .pointer (some ⟨W.heap.size, 0, none⟩)) (w1 := W.alloc nz) rfl rfl (fun d pos aft g => by unfold execOp; go_simp) ⟨_, rfl, ⟨W.heap.size, rfl, heap_alloc_new W _, htr.size⟩, .inr hal, htr.trans (hal.mono htr.size), (fun _ ht => ht), fun L _ hJ => Mw.new hal (by simp) hJ⟩
    | 12, _ =>
      obtain ⟨g, q11, k11, h11⟩ : ∃ g : Nat, a.tmps.getD 11 undef = .pointer (some ⟨g, 0, none⟩) ∧ W.heap[g]? = some nz ∧ X.heap.size ≤ g := hdep 11 rfl rfl
      obtain ⟨e11, x11⟩ := Rv.ev q11
      obtain ⟨b49, n49⟩ : ∃ b : Bool, a.tmps.getD 41 undef = .tuple #[a.tmps.getD 49 undef, .bool b, .bool true] := hdep 8 rfl rfl
      obtain ⟨u41, b41, q41, q41'⟩ : ∃ (u : Value) (b : Bool), a.tmps.getD 41 undef = .tuple #[u, .bool b, .bool true] ∧ a.tmps.getD 48 undef = .tuple #[u, .bool b, .bool true] := hdep 7 rfl rfl
      obtain ⟨L, hL, hLd, hj0⟩ := hJ
      obtain ⟨g', qg, hgl⟩ := hj0.1 (hLd 11 rfl)
      obtain ⟨v4, b4, d, q4, m2, m3, m4, m5⟩ := hj0.2 (hLd 6 rfl)
      have m6 := m5 (hLd 11 rfl)
      have q4 : a.tmps.getD 48 undef = .tuple #[v4, .bool b4, .bool true] := q4
      have q8 : a.tmps.getD 11 undef = .pointer (some ⟨g, 0, none⟩) := q11
      have ev : v4 = a.tmps.getD 49 undef := by rw [n49] at q41; rw [q41'] at q4; injection q4 with q4; injection q4 with q4; injection q41 with q41; injection q41 with q41; simp only [List.cons.injEq, and_true] at q4 q41; exact q4.1.symm.trans q41.1.symm
      have hex := m6.five
      obtain ⟨Y1, e1, Y2, e2, ez, _⟩ := hex
      subst ez
      obtain ⟨e49, x49⟩ := Rv.ev ev.symm
      obtain ⟨s0, s1, s2, s3, s4⟩ := Rv.cells5 k11
      obtain ⟨z0, z1, z2, z3, z4⟩ := Rv.frozen5 k11
      have gs' := fun (V : World) j u => grown_set (Below.refl _ V) g j u
      have hgg := (grown_then (grown_then (grown_then (grown_then (gs' W 0 (.int .i64 d.k)) (gs' _ 1 (.int .u64 (nb d.k d.n)))) (gs' _ 2 (.string d.s))) (gs' _ 3 (.slice Y1 d.ns.length e1))) (gs' _ 4 (.slice Y2 d.is.length e2)))
      have hne : ∀ x, (Rv.vals (#[42, 43, 44, 45, 46, 47, 48, 41, 49, 50, 51, 11, 1012, 12, 13] : Array Nat) a) 11 ≠ .pointer (some ⟨x, 0, none⟩) → some x ≠ some g := fun x hx e => by injection e with e; subst e; exact hx q8
      have hnn := m6.grown hgg (fun x hx => hne x hx)
      have hjk := fun L' (hJ' : Mw (upd 4 t2 l t1) L' (Rv.vals (#[42, 43, 44, 45, 46, 47, 48, 41, 49, 50, 51, 11, 1012, 12, 13] : Array Nat) a) W) => Mw.store (d := d) (c := (upd 4 t2 l t1)) (i := 12) (by decide) (by decide) undef hgg.size q4 m2 m3 hnn hJ'
      clear q41 q41' n49 ev q4 hj0 m5 hL hLd qg
      exact Rv.step_skip (op := Go.Op.store 34 (Go.Operand.tmp 11) (Go.Operand.tmp 49)) (ty := 0) (w1 := (((((W.setCell ⟨g, 0, none⟩ (.int .i64 d.k)).setCell ⟨g, 1, none⟩ (.int .u64 (nb d.k d.n))).setCell ⟨g, 2, none⟩ (.string d.s)).setCell ⟨g, 3, none⟩ (.slice Y1 d.ns.length e1)).setCell ⟨g, 4, none⟩ (.slice Y2 d.is.length e2))) rfl rfl (fun d pos aft g => by unfold execOp; go_simp) ⟨undef, rfl, ⟨g, d, Y1, e1, Y2, e2, q8, h11, m2, m3, hnn.weak (fun _ _ _ => trivial), Rv.sets5 k11 _ _ _ _ _⟩, .inl ⟨rfl, trivial⟩, htr.grown hgg htr.size (fun k hk => by injection hk with hk; omega), (fun _ _ => trivial), fun L' _ hJ' => hjk L' hJ'⟩
    | 13, _ =>
      obtain ⟨u50, b50, q50a, q50⟩ : ∃ (u : Value) (b : Bool), a.tmps.getD 41 undef = .tuple #[u, .bool b, .bool true] ∧ a.tmps.getD 50 undef = .bool b := hdep 9 rfl rfl
      obtain ⟨e50, x50⟩ := Rv.ev q50
      exact Rv.step_op (op := Go.Op.assign (Go.Operand.tmp 50)) (ty := 4) (v := .bool b50) (w1 := W) rfl rfl (fun d pos aft g => by unfold execOp; go_simp) ⟨_, rfl, q50.symm, .inr (Below.refl _ _), htr, (fun _ ht => ht), fun L _ hJ => Mw.keep (by decide) (by decide) _ (Below.refl _ _) hJ⟩
    | 14, _ =>
      obtain ⟨e51, x51⟩ := Rv.ev (show a.tmps.getD 51 undef = .bool true from hdep 10 rfl rfl)
      exact Rv.step_op (op := Go.Op.assign (Go.Operand.tmp 51)) (v := .bool true) (w1 := W) rfl rfl (fun d pos aft g => by unfold execOp; go_simp) ⟨_, rfl, rfl, .inr (Below.refl _ _), htr, fun _ ht => ht, fun L _ hJ => Mw.keep (by decide) (by decide) _ (Below.refl _ _) hJ⟩
    | m + 15, h => exact absurd h (by show ¬ m + 15 < 15; omega)
  intro W f hf htr hJ
  have f0 : f 0 = .agg #[.int .i64 t1.k, .int .i64 t1.n, .string t1.s, .slice A1 t1.ns.length c1, .slice B1 t1.is.length d1] := hf 0 (by show 0 < 15; omega) rfl
  have f2 : f 2 = .slice A0 l.length c0 := hf 2 (by show 2 < 15; omega) rfl
  have f3 : f 3 = .string (bs (36 :: segs l)) := hf 3 (by show 3 < 15; omega) rfl
  have f4 : f 4 = .agg #[.int .i64 t2.k, .int .i64 t2.n, .string t2.s, .slice A2 t2.ns.length c2, .slice B2 t2.is.length d2] := hf 4 (by show 4 < 15; omega) rfl
  have HS6 := Lib.hid (show (fun f W => ∃ (u : Value) (b : Bool), f 6 = .tuple #[u, .bool b, .bool true]) f W from hf 6 (by show 6 < 15; omega) rfl)
  have HS7 := Lib.hid (show (fun f W => ∃ (u : Value) (b : Bool), f 7 = .tuple #[u, .bool b, .bool true] ∧ f 6 = .tuple #[u, .bool b, .bool true]) f W from hf 7 (by show 7 < 15; omega) rfl)
  have HS8 := Lib.hid (show (fun f W => ∃ b : Bool, f 7 = .tuple #[f 8, .bool b, .bool true]) f W from hf 8 (by show 8 < 15; omega) rfl)
  have HS9 := Lib.hid (show (fun f W => ∃ (u : Value) (b : Bool), f 7 = .tuple #[u, .bool b, .bool true] ∧ f 9 = .bool b) f W from hf 9 (by show 9 < 15; omega) rfl)
  have f10 : f 10 = .bool true := hf 10 (by show 10 < 15; omega) rfl
  have HS12 := Lib.hid (show (fun f W => ∃ (g : Nat) (d : J) (Y1 : Option Addr) (e1 : Nat) (Y2 : Option Addr) (e2 : Nat), f 11 = .pointer (some ⟨g, 0, none⟩) ∧ X.heap.size ≤ g ∧ eqJ d (upd 4 t2 l t1) = true ∧ Wg d ∧ NN (fun _ => True) W d (.agg #[.int .i64 d.k, .int .u64 (nb d.k d.n), .string d.s, .slice Y1 d.ns.length e1, .slice Y2 d.is.length e2]) ∧ W.heap[g]? = some (.cells #[.int .i64 d.k, .int .u64 (nb d.k d.n), .string d.s, .slice Y1 d.ns.length e1, .slice Y2 d.is.length e2] 34 (0, 0))) f W from hf 12 (by show 12 < 15; omega) rfl)
  have HS13 := Lib.hid (show (fun f W => f 13 = f 9) f W from hf 13 (by show 13 < 15; omega) rfl)
  have f14 : f 14 = .bool true := hf 14 (by show 14 < 15; omega) rfl
  clear hf
  refine (show ∀ (a : Act) (w : World), Code.wp _ _ _ a w → _ from by assumption) _ _ ?_
  refine Rv.fin_swap (L' := [(42, f 0), (43, f 1), (44, f 2), (45, f 3), (46, f 4), (47, f 5), (48, f 6), (41, f 7), (49, f 8), (50, f 9), (51, f 10), (11, f 11), (1012, f 12), (12, f 13), (13, f 14)]) rfl ?_
  rw [f0, f2, f3, f4, f10, f14]
  clear f0 f2 f3 f4 f10 f14
  simp only [Rv.fin, List.foldl_cons, List.foldl_nil, Act.put, List.setIfInBounds_toArray, List.set_cons_succ, List.set_cons_zero, List.set_nil]
  obtain ⟨g, d, Y1, e1, Y2, e2, f11, hgX, he, hwd, hnn, hgb⟩ := HS12.out
  rw [f11]
  clear HS12
  have HXW := Lib.hid (HXW.out.trans (htr.mono HXW.out.size))
  have HG1 := Lib.hid ((htr.block _ hg1).trans HG1.out)
  have HG2 := Lib.hid ((htr.block _ hg2).trans HG2.out)
  have HJ1 := Lib.hid (HJ1.out.below htr)
  have HJ2 := Lib.hid (HJ2.out.below htr)
  have HR := Lib.hid (HR.out.below htr)
  have HG := Lib.hid hgb
  have HE := Lib.hid he
  have HWD := Lib.hid hwd
  have HND := Lib.hid hnn
  clear htr f11 hgX he hwd hnn hgb hg1 hg2
  generalize f 1 = u1
  generalize f 5 = u5
  generalize f 6 = u6
  generalize f 7 = u7
  generalize f 8 = u8
  generalize f 9 = u9
  generalize f 12 = u12
  generalize f 13 = u13
  go_upto_region 8 with fail
  rename World => X1
  generalize X1 = X at *
  have hput := append_any (fun x => x < X.heap.size) t2 l t1 (.agg #[.int .i64 t1.k, .int .i64 t1.n, .string t1.s, .slice A1 t1.ns.length c1, .slice B1 t1.is.length d1]) (.agg #[.int .i64 t2.k, .int .i64 t2.n, .string t2.s, .slice A2 t2.ns.length c2, .slice B2 t2.is.length d2]) A0 c0 X HL4.out HWY.out HW1.out HW2.out (fun x h => h) (HJ1.out.weak (fun x h _ => h)) (HJ2.out.weak (fun x h _ => h)) HR.out
  have PUT := Lib.hid hput
  clear hput
  obtain ⟨y0, y1, y2, y3, y4⟩ := Rv.cells5 HG1.out
  obtain ⟨x0, x1, x2, x3, x4⟩ := Rv.cells5 HG2.out
  go_upto_region 9 with (go_at_call 13; (with_reducible refine PUT.out.mono ?_); rintro e w9 ⟨v9, b9, rfl, hj, hb⟩; obtain ⟨A9, c9, B9, d9, rfl, _⟩ := hj.five; have HJ9 := Lib.hid hj; have HB9 := Lib.hid hb; clear hj hb)
  clear y0 y1 y2 y3 y4 x0 x1 x2 x3 x4
  have hal := (Below.refl w9.heap.size w9).alloc (Nat.le_refl _) (.cells #[.int .i64 (upd 4 t2 l t1).k, .int .i64 (upd 4 t2 l t1).n, .string (upd 4 t2 l t1).s, .slice A9 (upd 4 t2 l t1).ns.length c9, .slice B9 (upd 4 t2 l t1).is.length d9] 26)
  have hn9 := heap_alloc_new w9 (.cells #[.int .i64 (upd 4 t2 l t1).k, .int .i64 (upd 4 t2 l t1).n, .string (upd 4 t2 l t1).s, .slice A9 (upd 4 t2 l t1).ns.length c9, .slice B9 (upd 4 t2 l t1).is.length d9] 26)
  have hb9 := HB9.out.trans (hal.mono HB9.out.size)
  have HG := Lib.hid ((hb9.block _ (Rv.lt_of_blk HG.out)).trans HG.out)
  have HND := Lib.hid (HND.out.below hb9)
  have HJ9 := Lib.hid (HJ9.out.below hal)
  have HXW := Lib.hid (HXW.out.trans (hb9.mono HXW.out.size))
  have HPT : Hid (upd 4 t2 l t1 = upd 4 t2 l t1) := Lib.hid rfl
  have HWC := Lib.hid (upd_wg 4 t2 HW2.out l t1 HST.out HWY.out HW1.out)
  rw [HPT.out] at HE HWC
  clear HPT PUT HB9 HG1 HG2 HJ1 HJ2 HR hal hb9
  generalize upd 4 t2 l t1 = c at *
  generalize w9.alloc (.cells #[.int .i64 c.k, .int .i64 c.n, .string c.s, .slice A9 c.ns.length c9, .slice B9 c.is.length d9] 26) = Y at *
  generalize w9.heap.size = g9 at *
  have SAME := Lib.hid (same_any _ d (Nat.le_refl _) c _ _ _ _ Y HWD.out HWC.out HE.out HND.out HJ9.out)
  obtain ⟨y0, y1, y2, y3, y4⟩ := Rv.cells5 HG.out
  obtain ⟨x0, x1, x2, x3, x4⟩ := Rv.cells5 hn9
  go_wp2_with (go_at_call 12; (with_reducible refine SAME.out.mono ?_); rintro e w10 ⟨rfl, hb⟩; have HBF := Lib.hid (HXW.out.trans (hb.mono HXW.out.size)); clear hb)
  go_ret
  exact ⟨rfl, HBF.out⟩
end Go.Proofs.YtmelgankbegjaaaGreatDoor.Js

namespace Go.Proofs.YtmelgankbegjaaaGreatDoor.fnJSAppend
open Go.ChangeShapes Go.WideShapes Go.ChangeAt Go.RowKit B
open Go.ChangeMaps (open_string shut_string)
set_option linter.unusedVariables false
theorem own : ownKnob Tryz.prog.godebug = none := by kernel_rfl
theorem laidOut : laidOutB Tryz.prog = true := by kernel_rfl
set_option maxRecDepth 100000 in
theorem lifted (os : Os) (started : os.Started) (H : Type) (enc : TypeId × Value → H) :
    ReturnsInHanded {} Tryz.checked os 4 .any (fun w args => (Rows.fnJSAppendSpec.pre enc Tryz.prog Tryz.f4 Rows.fnJSAppendRow.domain false w args ∧ laidMetH Tryz.prog Rows.fnJSAppendRow.laid w) ∧ sizedMet enc Tryz.prog Tryz.f4 (OpenSpec.ofChange Rows.fnJSAppendSpec) false w args) (Rows.fnJSAppendSpec.post enc Tryz.prog Tryz.f4 false true false false) := by
  refine returnsInHanded_of_change_and (C := Tryz.checked) (X := fun w _ => laidMetH Tryz.prog Rows.fnJSAppendRow.laid w) (fun _ _ _ hh h => h.of_heap hh) own started (by kernel_rfl) Tryz.func4
    (ChangeSpec.witness_shaped (enc := enc) (C := Tryz.checked) (os := os) (X := fun w _ => laidMetH Tryz.prog Rows.fnJSAppendRow.laid w) false (World.laidAll Tryz.prog os Rows.fnJSAppendRow.laid) #[.slice none 0 0, .slice none 0 0, .slice none 0 0] 8 (World.laidAll_os _ _ _)
      (World.shaped_of_ZipB (by kernel_rfl) (by kernel_rfl)) (by kernel_rfl) (by kernel_rfl) (by kernel_rfl)
      (by rw [MakeChecks.laidMetH_plain _ _ _ (by kernel_rfl)]; exact laidMet_laidAll _ (by kernel_rfl) (by kernel_rfl))) ?_
  intro W base args ds gs before hval0 hW hcnd _ hL _
  have hval : ∀ (j : Nat) t v, Tryz.f4.params[j]? = some t → args[j]? = some v → Value.okWide Tryz.prog W .any base t v := hval0
  have hW' := hW
  obtain ⟨p, q, hA0, hV, rfl, hfz, hnd⟩ := hW
  have hA : DataW.TrodAll enc Tryz.prog W 0 (fun _ => true) true Tryz.f4.params.toList args.toList ds p := hA0
  rw [Tryz.params4] at hA hval
  obtain ⟨v0, vs0, d0, ds0, p0, q0, hargs, rfl, rfl, h0, r0⟩ := trodAll_cons hA
  obtain ⟨v1, vs1, d1, ds1, p1, q1, rfl, rfl, rfl, h1, r1⟩ := trodAll_cons r0
  obtain ⟨v2, vs2, d2, ds2, p2, q2, rfl, rfl, rfl, h2, r2⟩ := trodAll_cons r1
  obtain ⟨rfl, rfl, rfl⟩ := trodAll_nil r2
  obtain rfl : args = #[v0, v1, v2] := by cases args; simp_all
  have hV2 := hV
  obtain ⟨gg, gt, gcs, gfuel, gd, gp, rfl, _, _, _, _, rfl⟩ := trodVars_one hV
  obtain ⟨a0, len0, cap0, rfl⟩ := okWide_slice Tryz.underlying22 (hval 0 22 v0 rfl rfl)
  have k0 := h0
  have lt0 : ∀ x ∈ p0, x.block < W.heap.size := by obtain ⟨m, hm⟩ := k0; exact DataW.trod_lt m _ _ _ hm
  obtain ⟨z0, w0⟩ : ∃ zs, IsRow .u8 W a0 len0 cap0 zs := by
    obtain ⟨fuel, hf⟩ := h0
    rcases open_ints Tryz.underlying22 Tryz.underlying5 (by kernel_rfl) hf with ⟨hcs, _⟩ | ⟨x, l, c, zs, hcs, _, hl, hm, hz, _, hcell, hwz⟩
    · simp [Value.cells] at hcs
      obtain ⟨rfl, rfl, rfl⟩ := hcs
      exact ⟨[], .inl ⟨rfl, rfl, rfl, rfl⟩⟩
    · simp [Value.cells] at hcs
      obtain ⟨rfl, rfl, rfl⟩ := hcs
      exact ⟨zs, .inr ⟨_, rfl, hl, hm, by simpa using hz, hcell, hwz⟩⟩
  obtain ⟨a1, len1, cap1, rfl⟩ := okWide_slice Tryz.underlying22 (hval 1 22 v1 rfl rfl)
  have k1 := h1
  have lt1 : ∀ x ∈ p1, x.block < W.heap.size := by obtain ⟨m, hm⟩ := k1; exact DataW.trod_lt m _ _ _ hm
  obtain ⟨z1, w1⟩ : ∃ zs, IsRow .u8 W a1 len1 cap1 zs := by
    obtain ⟨fuel, hf⟩ := h1
    rcases open_ints Tryz.underlying22 Tryz.underlying5 (by kernel_rfl) hf with ⟨hcs, _⟩ | ⟨x, l, c, zs, hcs, _, hl, hm, hz, _, hcell, hwz⟩
    · simp [Value.cells] at hcs
      obtain ⟨rfl, rfl, rfl⟩ := hcs
      exact ⟨[], .inl ⟨rfl, rfl, rfl, rfl⟩⟩
    · simp [Value.cells] at hcs
      obtain ⟨rfl, rfl, rfl⟩ := hcs
      exact ⟨zs, .inr ⟨_, rfl, hl, hm, by simpa using hz, hcell, hwz⟩⟩
  obtain ⟨a2, len2, cap2, rfl⟩ := okWide_slice Tryz.underlying22 (hval 2 22 v2 rfl rfl)
  have k2 := h2
  have lt2 : ∀ x ∈ p2, x.block < W.heap.size := by obtain ⟨m, hm⟩ := k2; exact DataW.trod_lt m _ _ _ hm
  obtain ⟨z2, w2⟩ : ∃ zs, IsRow .u8 W a2 len2 cap2 zs := by
    obtain ⟨fuel, hf⟩ := h2
    rcases open_ints Tryz.underlying22 Tryz.underlying5 (by kernel_rfl) hf with ⟨hcs, _⟩ | ⟨x, l, c, zs, hcs, _, hl, hm, hz, _, hcell, hwz⟩
    · simp [Value.cells] at hcs
      obtain ⟨rfl, rfl, rfl⟩ := hcs
      exact ⟨[], .inl ⟨rfl, rfl, rfl, rfl⟩⟩
    · simp [Value.cells] at hcs
      obtain ⟨rfl, rfl, rfl⟩ := hcs
      exact ⟨zs, .inr ⟨_, rfl, hl, hm, by simpa using hz, hcell, hwz⟩⟩
  clear hA0 hval0
  refine (Js.law4_any a0 len0 cap0 z0 a1 len1 cap1 z1 a2 len2 cap2 z2 W w0 w1 w2 (Js.facts_of_laid hL).1 (Js.facts_of_laid hL).2.2.2).mono fun e W' ⟨he, bel⟩ => ?_
  subst he
  exact ⟨_, rfl, _, _, _, [], _, _, hW', trodAll_mk1 (shut_bool Tryz.underlying4 _), (trodAll_cons_mk (Below.trod laidOut (by kernel_rfl) (of_decide_eq_true (by kernel_rfl)) k0 bel lt0) (trodAll_cons_mk (Below.trod laidOut (by kernel_rfl) (of_decide_eq_true (by kernel_rfl)) k1 bel lt1) (trodAll_cons_mk (Below.trod laidOut (by kernel_rfl) (of_decide_eq_true (by kernel_rfl)) k2 bel lt2) trodAll_mk0))), (Below.trodVars laidOut bel (by kernel_rfl) hV2), bel.frame _, fun h => by cases h⟩
theorem over : Rows.fnJSAppendRow.holds Tryz.pinned (OpenSpec.ofChange Rows.fnJSAppendSpec) :=
  OpenClaim.holds_of_wide 4 Tryz.f4 rfl rfl rfl rfl rfl rfl rfl ⟨rfl, rfl, rfl, rfl, rfl⟩ rfl rfl rfl rfl rfl (by kernel_rfl) Tryz.func4 (by kernel_rfl)
    (of_decide_eq_true (by kernel_rfl)) (by unfold Func.isWrapper; first | (rw [if_pos (by decide +kernel)]; kernel_rfl) | (rw [if_neg (by decide +kernel)]; exact ⟨rfl, rfl⟩))
    (fun os started H enc _ => lifted os started H enc)
theorem proved : Rows.FnJSAppendSaid := over
end Go.Proofs.YtmelgankbegjaaaGreatDoor.fnJSAppend
namespace Go.Proofs.YtmelgankbegjaaaGreatDoor
/-- The tied card. -/
theorem fnJSAppend_holds : Rows.FnJSAppendCardSaid :=
  Claim7.holds_tied_plain_at .later [] [.data, .data, .data, .data, .sentinel, .sentinel, .listed, .data, .data, .pinned] true (true, "86861f665650765426c1abbbdea1523588b5e9a221e4e423eb87567ae80e110e") true
    fnJSAppend.proved (fun _ h => by cases h) (by kernel_rfl) (fun _ h => by cases h) fnJSAppend_row_tie rfl ⟨rfl, rfl⟩ (by kernel_rfl) rfl
    (fun f fn hf hfn => by
      obtain rfl : f = 4 := Option.some.inj ((show Tryz.prog.funcNamed "given.example/pub-abaculus/laws.FnJSAppend" = some 4 by kernel_rfl).symm.trans hf) |>.symm
      obtain rfl : fn = Tryz.f4 := (Option.some.inj (Tryz.func4.symm.trans hfn)).symm
      exact ⟨by kernel_rfl, fun j t ht => by
        rw [Tryz.params4] at ht
        have hm : t ∈ [22, 22, 22] := by simpa using Array.mem_of_getElem? ht
        have hall : ([22, 22, 22].all fun u => !Tryz.prog.wantsStandIn u) = true := by kernel_rfl
        exact (show Tryz.prog.wantsStandIn t = false by simpa using List.all_eq_true.1 hall t hm)⟩)
    (by kernel_rfl)
end Go.Proofs.YtmelgankbegjaaaGreatDoor

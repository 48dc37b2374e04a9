/- The specification's pieces of a merge: where a name stands, a member that is put. Conditions: those written at each lemma. -/
import Derived.Test.YtmelgankbegjaaaMk
set_option linter.unusedVariables false
set_option linter.unusedSimpArgs false
set_option maxRecDepth 100000
set_option maxHeartbeats 8000000
namespace Go.Proofs.Ytmelgankbegjaaa.Js
open Go.RowKit Go.Proofs.Ytmelgankbegjaaa.B

theorem old_blk {w : World} {o : Obj} {k : Nat} {x : Obj} (h : w.heap[k]? = some x) : (w.alloc o).heap[k]? = some x := (((Below.refl _ _).alloc (Nat.le_refl _) o : Below w.heap.size w (w.alloc o)).block k (Rv.lt_of_blk h)).trans h
/-- Where a name stands. -/
theorem find_any (t : J) (p : Nat → Prop) (v : Value) (x : ByteArray) (w : World) (hj : JN p w t v) (hk : t.k = 5) (h8 : t.ns.length ≤ 8) :
    Calls Try.prog 35 #[v, .agg #[.string x, .int .i64 0, .bool false]] w fun e w' => e = .returned (.int .i64 (idx x t.ns 0)) ∧ Below w.heap.size w w' := by
  obtain ⟨A, c, A2, c2, rfl, hn, hs, hI, hH⟩ := hj.five
  have HA := Lib.hid (old_blk (o := .cells #[.string x, .int .i64 0, .bool false] 59) (heap_alloc_new w (.cells #[.int .i64 t.k, .int .i64 t.n, .string t.s, .slice A t.ns.length c, .slice A2 t.is.length c2] 26)))
  have HS := Lib.hid (show ((w.alloc (.cells #[.int .i64 t.k, .int .i64 t.n, .string t.s, .slice A t.ns.length c, .slice A2 t.is.length c2] 26)).alloc (.cells #[.string x, .int .i64 0, .bool false] 59)).heap[w.heap.size + 1]? = some (.cells #[.string x, .int .i64 0, .bool false] 59 (0, 0)) from by
    have := heap_alloc_new (w.alloc (.cells #[.int .i64 t.k, .int .i64 t.n, .string t.s, .slice A t.ns.length c, .slice A2 t.is.length c2] 26)) (.cells #[.string x, .int .i64 0, .bool false] 59)
    simpa using this)
  have hX : Below w.heap.size w ((w.alloc (.cells #[.int .i64 t.k, .int .i64 t.n, .string t.s, .slice A t.ns.length c, .slice A2 t.is.length c2] 26)).alloc (.cells #[.string x, .int .i64 0, .bool false] 59)) := ((Below.refl _ _).alloc (Nat.le_refl _) _).alloc (by simp) _
  have AT := Lib.hid (at_any t p _ x _ (hj.below hX) (by omega))
  have HX := Lib.hid hX
  obtain ⟨y0, y1, y2, y3, y4⟩ := Rv.cells5 HA.out
  obtain ⟨s0, s1, s2⟩ := Rv.cells3 HS.out
  have hkb : (t.k != 5) = false := by simp [hk]
  have hkb2 : (t.k == 5) = true := by simp [hk]
  clear hj hX hn hI hH hk
  go_enter Try.func35, Try.ntmps35
  go_wp2_with (go_at_call 20; (with_reducible refine AT.out.mono ?_); rintro e w1 ⟨rfl, hb⟩; have HB := Lib.hid (HX.out.trans (hb.mono HX.out.size)); clear hb)
  go_ret
  exact ⟨rfl, HB.out⟩
/-- A path of no steps: the value itself. -/
theorem put_nil (t tx : J) (p q : Nat → Prop) (v vx : Value) (A0 : Option Addr) (c0 : Nat) (w : World) (hj : JN p w t v) (hx : JN q w tx vx) :
    Calls Try.prog 25 #[v, .slice A0 0 c0, vx, .bool true, .bool true] w fun e w' => e = .returned (.tuple #[vx, .bool true]) ∧ Below w.heap.size w w' := by
  obtain ⟨A, c, A2, c2, rfl, _⟩ := hj.five
  obtain ⟨C, d, C2, d2, rfl, _⟩ := hx.five
  have HX := Lib.hid (old_blk (o := .cells #[.int .i64 0, .int .i64 0, .string ⟨#[]⟩, .slice none 0 0, .slice none 0 0] 26) (show ((w.alloc (.cells #[.int .i64 t.k, .int .i64 t.n, .string t.s, .slice A t.ns.length c, .slice A2 t.is.length c2] 26)).alloc (.cells #[.int .i64 tx.k, .int .i64 tx.n, .string tx.s, .slice C tx.ns.length d, .slice C2 tx.is.length d2] 26)).heap[w.heap.size + 1]? = some (.cells #[.int .i64 tx.k, .int .i64 tx.n, .string tx.s, .slice C tx.ns.length d, .slice C2 tx.is.length d2] 26 (0, 0)) from by
    have := heap_alloc_new (w.alloc (.cells #[.int .i64 t.k, .int .i64 t.n, .string t.s, .slice A t.ns.length c, .slice A2 t.is.length c2] 26)) (.cells #[.int .i64 tx.k, .int .i64 tx.n, .string tx.s, .slice C tx.ns.length d, .slice C2 tx.is.length d2] 26)
    simpa using this))
  have HZ := Lib.hid (show (((w.alloc (.cells #[.int .i64 t.k, .int .i64 t.n, .string t.s, .slice A t.ns.length c, .slice A2 t.is.length c2] 26)).alloc (.cells #[.int .i64 tx.k, .int .i64 tx.n, .string tx.s, .slice C tx.ns.length d, .slice C2 tx.is.length d2] 26)).alloc (.cells #[.int .i64 0, .int .i64 0, .string ⟨#[]⟩, .slice none 0 0, .slice none 0 0] 26)).heap[w.heap.size + 1 + 1]? = some (.cells #[.int .i64 0, .int .i64 0, .string ⟨#[]⟩, .slice none 0 0, .slice none 0 0] 26 (0, 0)) from by
    have := heap_alloc_new ((w.alloc (.cells #[.int .i64 t.k, .int .i64 t.n, .string t.s, .slice A t.ns.length c, .slice A2 t.is.length c2] 26)).alloc (.cells #[.int .i64 tx.k, .int .i64 tx.n, .string tx.s, .slice C tx.ns.length d, .slice C2 tx.is.length d2] 26)) (.cells #[.int .i64 0, .int .i64 0, .string ⟨#[]⟩, .slice none 0 0, .slice none 0 0] 26)
    simpa using this)
  have hX : Below w.heap.size w (((w.alloc (.cells #[.int .i64 t.k, .int .i64 t.n, .string t.s, .slice A t.ns.length c, .slice A2 t.is.length c2] 26)).alloc (.cells #[.int .i64 tx.k, .int .i64 tx.n, .string tx.s, .slice C tx.ns.length d, .slice C2 tx.is.length d2] 26)).alloc (.cells #[.int .i64 0, .int .i64 0, .string ⟨#[]⟩, .slice none 0 0, .slice none 0 0] 26)) := (((Below.refl _ _).alloc (Nat.le_refl _) _).alloc (by simp) _).alloc (by simp; omega) _
  clear hj hx
  go_enter Try.func25, Try.ntmps25
  go_upto_region 3 with fail
  generalize ((w.alloc (.cells #[.int .i64 t.k, .int .i64 t.n, .string t.s, .slice A t.ns.length c, .slice A2 t.is.length c2] 26)).alloc (.cells #[.int .i64 tx.k, .int .i64 tx.n, .string tx.s, .slice C tx.ns.length d, .slice C2 tx.is.length d2] 26)).alloc (.cells #[.int .i64 0, .int .i64 0, .string ⟨#[]⟩, .slice none 0 0, .slice none 0 0] 26) = X at *
  obtain ⟨y0, y1, y2, y3, y4⟩ := Rv.cells5 HX.out
  obtain ⟨s0, s1, s2, s3, s4⟩ := Rv.cells5 HZ.out
  obtain ⟨z0, z1, z2, z3, z4⟩ := Rv.frozen5 HZ.out
  go_wp2
  have sb : ∀ (V : World) (j : Nat) (u : Value), Below w.heap.size w V → Below w.heap.size w (V.setCell ⟨w.heap.size + 1 + 1, j, none⟩ u) := fun V j u h => h.setCell (by show w.heap.size ≤ w.heap.size + 1 + 1; omega) u
  have HBF := Lib.hid (sb _ 4 (.slice C2 tx.is.length d2) (sb _ 3 (.slice C tx.ns.length d) (sb _ 2 (.string tx.s) (sb _ 1 (.int .i64 tx.n) (sb _ 0 (.int .i64 tx.k) hX)))))
  obtain ⟨q0, q1, q2, q3, q4⟩ := Rv.cells5 (Rv.sets5 HZ.out (.int .i64 tx.k) (.int .i64 tx.n) (.string tx.s) (.slice C tx.ns.length d) (.slice C2 tx.is.length d2))
  clear y0 y1 y2 y3 y4 s0 s1 s2 s3 s4 z0 z1 z2 z3 z4 sb hX
  refine bodyPost_ret (v := .tuple #[.agg #[.int .i64 tx.k, .int .i64 tx.n, .string tx.s, .slice C tx.ns.length d, .slice C2 tx.is.length d2], .bool true]) ?_ rfl ⟨rfl, HBF.out⟩
  simp only [results, show Try.f25.results = #[.cell 10 26, .tmp 11] by kernel_rfl]
  go_simp
end Go.Proofs.Ytmelgankbegjaaa.Js

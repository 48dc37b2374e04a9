/- The law's own reader of bytes: jsOf. Conditions: those written at each lemma. -/
import Derived.Test.YtmelgankbegjaaaJg
set_option linter.unusedVariables false
set_option linter.unusedSimpArgs false
set_option maxRecDepth 100000
set_option maxHeartbeats 4000000
namespace Go.Proofs.Ytmelgankbegjaaa.Js
open Go.RowKit Go.Proofs.Ytmelgankbegjaaa.B

theorem sc {w W : World} {B : Nat} (h : Below B w W) (j : Nat) (u : Value) : Below B w (W.setCell ⟨B, j, none⟩ u) := h.setCell (Nat.le_refl _) u
/-- jsOf's answer: a tree, that lies in memory of its own. -/
theorem of_any (w : World) (A : Option Addr) (n c : Nat) (xs : List Int) (hr : Rd w 1 (.slice A n c) n (u8s xs)) (hx : ∀ z ∈ xs, 0 ≤ z ∧ z ≤ 255) :
    Calls Try.prog 6 #[.slice A n c] w fun e w' => ∃ v t, e = .returned v ∧ Wf t ∧ JN (fun x => w.heap.size ≤ x) w' t v ∧ Below w.heap.size w w' := by
  have hR := Lib.hid hr
  have hX := Lib.hid hx
  clear hr hx
  have VV := Lib.hid (fun W h => value_any w (w.heap.size + 1) (by omega) 6 0 (by omega) (by omega) W h)
  have HB0 := Lib.hid (((Below.refl w.heap.size w).alloc (Nat.le_refl _) jz).alloc (by simp) (.cells #[.slice A n c, .int .i64 40] 44))
  have HM0 := Lib.hid (show Mst w ((w.alloc jz).alloc (.cells #[.slice A n c, .int .i64 40] 44)) (w.heap.size + 1) from ⟨A, n, c, 40, xs, by
    have := heap_alloc_new (w.alloc jz) (.cells #[.slice A n c, .int .i64 40] 44)
    simpa using this, hR.out, hX.out, HB0.out⟩)
  have HR0 := Lib.hid (show ((w.alloc jz).alloc (.cells #[.slice A n c, .int .i64 40] 44)).heap[w.heap.size]? = some jz from by
    have h1 := heap_alloc_new w jz
    have hb : Below (w.alloc jz).heap.size (w.alloc jz) ((w.alloc jz).alloc (.cells #[.slice A n c, .int .i64 40] 44)) := (Below.refl _ _).alloc (Nat.le_refl _) _
    exact (hb.block _ (by simp)).trans h1)
  go_enter Try.func6, Try.ntmps6
  go_upto_region 2 with fail
  have hsz : ((w.alloc jz).alloc (.cells #[.slice A n c, .int .i64 40] 44)).heap.size = w.heap.size + 2 := by simp
  generalize (w.alloc jz).alloc (.cells #[.slice A n c, .int .i64 40] 44) = w1 at *
  go_wp2_with (go_at_call 14; (with_reducible refine (VV.out _ HM0.out).mono ?_); rintro e w2 ⟨v, t, rfl, hw, hj, hm, hg⟩; obtain ⟨A1, c1, A2, c2, rfl, _⟩ := hj.five; have HJ := Lib.hid hj; have hr := blk_grown HR0.out hg (fun e => by injection e with e; omega); have HR2 := Lib.hid hr; have HB2 := Lib.hid (HB0.out.grown hg HB0.out.size (fun k hk => by injection hk with hk; omega)); have HW := Lib.hid hw; obtain ⟨s0, s1, s2, s3, s4⟩ := Rv.cells5 hr; obtain ⟨z0, z1, z2, z3, z4⟩ := Rv.frozen5 hr; clear hw hj hm hg hr)
  have HB5 := Lib.hid (sc (sc (sc (sc (sc HB2.out 0 (.int .i64 t.k)) 1 (.int .i64 t.n)) 2 (.string t.s)) 3 (.slice A1 t.ns.length c1)) 4 (.slice A2 t.is.length c2))
  have gs := fun (W : World) j u => grown_set (Below.refl _ W) w.heap.size j u
  have HJ5 := Lib.hid ((HJ.out.grown (grown_then (grown_then (grown_then (grown_then (gs w2 0 (.int .i64 t.k)) (gs _ 1 (.int .i64 t.n))) (gs _ 2 (.string t.s))) (gs _ 3 (.slice A1 t.ns.length c1))) (gs _ 4 (.slice A2 t.is.length c2))) (fun x hx e => by injection e with e; omega)).weak (q := fun x => w.heap.size ≤ x) (fun x _ hx => by omega))
  obtain ⟨q0, q1, q2, q3, q4⟩ := Rv.cells5 (Rv.sets5 HR2.out (.int .i64 t.k) (.int .i64 t.n) (.string t.s) (.slice A1 t.ns.length c1) (.slice A2 t.is.length c2))
  clear s0 s1 s2 s3 s4 z0 z1 z2 z3 z4 gs
  refine bodyPost_ret (v := .agg #[.int .i64 t.k, .int .i64 t.n, .string t.s, .slice A1 t.ns.length c1, .slice A2 t.is.length c2]) ?_ rfl ⟨_, t, rfl, HW.out, HJ5.out, HB5.out⟩
  simp only [results, show Try.f6.results = #[.cell 2 26] by kernel_rfl]
  go_simp
end Go.Proofs.Ytmelgankbegjaaa.Js

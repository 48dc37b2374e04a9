/- The law's own reader of bytes: a value without items. Conditions: those written at each lemma. -/
import Derived.Test.YtmelgankbegjaaaJb
set_option linter.unusedVariables false
set_option linter.unusedSimpArgs false
set_option maxRecDepth 100000
set_option maxHeartbeats 8000000
namespace Go.Proofs.Ytmelgankbegjaaa.Js
open Go.RowKit Go.Proofs.Ytmelgankbegjaaa.B

abbrev jz : Obj := .cells #[.int .i64 0, .int .i64 0, .string ⟨#[]⟩, .slice none 0 0, .slice none 0 0] 26
theorem blk_grown {W W' : World} {g : Nat} {o : Obj} {row : Option Nat} (h : W.heap[g]? = some o) (hg : W.grownBy W' row) (hn : some g ≠ row) : W'.heap[g]? = some o := (hg.block g (Rv.lt_of_blk h) hn).trans h
/-- What the reader's value answers. -/
def VA (w0 w w' : World) (b : Nat) (e : Ending) : Prop := ∃ v t, e = .returned v ∧ Wf t ∧ JN (fun x => w.heap.size ≤ x) w' t v ∧ Mst w0 w' b ∧ w.grownBy w' (some b)
theorem grown_new {w W : World} {r : Option Nat} (h : w.grownBy W r) {g : Nat} (hg : w.heap.size ≤ g) (j : Nat) (u : Value) : w.grownBy (W.setCell ⟨g, j, none⟩ u) r :=
  ⟨h.os, h.tape, h.output, by simpa using h.size, fun k hk hn => by rw [Below.heap_setCell _ _ _ _ (fun e => by have e : k = g := e; omega)]; exact h.block k hk hn⟩
theorem fin5 {w0 w W : World} {b : Nat} (hm : Mst w0 W b) (hg : w.grownBy W (some b)) {x0 x1 x2 x3 x4 : Value} (hR : W.heap[w.heap.size]? = some (.cells #[x0, x1, x2, x3, x4] 26 (0, 0))) (hb : b < w.heap.size) (h0 : w0.heap.size ≤ b) (a c d e f : Value) :
    Mst w0 (((((W.setCell ⟨w.heap.size, 0, none⟩ a).setCell ⟨w.heap.size, 1, none⟩ c).setCell ⟨w.heap.size, 2, none⟩ d).setCell ⟨w.heap.size, 3, none⟩ e).setCell ⟨w.heap.size, 4, none⟩ f) b ∧
    w.grownBy (((((W.setCell ⟨w.heap.size, 0, none⟩ a).setCell ⟨w.heap.size, 1, none⟩ c).setCell ⟨w.heap.size, 2, none⟩ d).setCell ⟨w.heap.size, 3, none⟩ e).setCell ⟨w.heap.size, 4, none⟩ f) (some b) ∧
    (((((W.setCell ⟨w.heap.size, 0, none⟩ a).setCell ⟨w.heap.size, 1, none⟩ c).setCell ⟨w.heap.size, 2, none⟩ d).setCell ⟨w.heap.size, 3, none⟩ e).setCell ⟨w.heap.size, 4, none⟩ f).heap[w.heap.size]? = some (.cells #[a, c, d, e, f] 26 (0, 0)) := by
  have k : ∀ (V : World) (j : Nat) (u : Value), Mst w0 V b → Mst w0 (V.setCell ⟨w.heap.size, j, none⟩ u) b := fun V j u h => h.grown (grown_set (Below.refl _ _) w.heap.size j u) (fun k hk => by injection hk with hk; omega)
  exact ⟨k _ _ _ (k _ _ _ (k _ _ _ (k _ _ _ (k _ _ _ hm)))), grown_new (grown_new (grown_new (grown_new (grown_new hg (Nat.le_refl _) _ _) (Nat.le_refl _) _ _) (Nat.le_refl _) _ _) (Nat.le_refl _) _ _) (Nat.le_refl _) _ _, Rv.sets5 hR _ _ _ _ _⟩
theorem leafJ (p : Nat → Prop) (W : World) (k n : Int) (s : ByteArray) : JN p W (.mk k n s [] []) (.agg #[.int .i64 k, .int .i64 n, .string s, .slice none 0 0, .slice none 0 0]) :=
  ⟨none, 0, none, 0, [], rfl, Rp.nil _ _ _, Rp.nil _ _ _, rfl⟩
theorem w64 {z : Int} (h : -9223372036854775808 ≤ z) (h2 : z ≤ 9223372036854775807) : wrap64 z = z := by unfold wrap64; omega
theorem w8 (z : Int) : -128 ≤ IntKind.i8.wrap z ∧ IntKind.i8.wrap z ≤ 127 := by
  have e : IntKind.i8.wrap z = (if z % 256 ≥ 128 then z % 256 - 256 else z % 256) := by simp [IntKind.wrap, IntKind.bits, IntKind.signed]
  rw [e]
  split <;> omega
theorem num2 (y : Int) : -2147483648 ≤ wrap64 (IntKind.i8.wrap y) ∧ wrap64 (IntKind.i8.wrap y) ≤ 2147483647 := by
  have h := w8 y
  rw [w64 (by omega) (by omega)]
  omega
theorem num3 (y b c d : Int) (hb : 0 ≤ b ∧ b ≤ 255) (hc : 0 ≤ c ∧ c ≤ 255) (hd : 0 ≤ d ∧ d ≤ 255) : -2147483648 ≤ wrap64 (wrap64 (wrap64 (wrap64 (wrap64 (IntKind.i8.wrap y) * 16777216) + b * 65536) + c * 256) + d) ∧ wrap64 (wrap64 (wrap64 (wrap64 (wrap64 (IntKind.i8.wrap y) * 16777216) + b * 65536) + c * 256) + d) ≤ 2147483647 := by
  have h := w8 y
  generalize IntKind.i8.wrap y = z at *
  rw [w64 (z := z) (by omega) (by omega), w64 (z := z * 16777216) (by omega) (by omega), w64 (z := z * 16777216 + b * 65536) (by omega) (by omega), w64 (z := z * 16777216 + b * 65536 + c * 256) (by omega) (by omega), w64 (by omega) (by omega)]
  omega
theorem value_deep (w0 w : World) (b : Nat) (hb : w0.heap.size ≤ b) (h : Mst w0 w b) (deep : Int) (hd6 : 6 ≤ deep) (hd7 : deep ≤ 100) :
    Calls Try.prog 14 #[.pointer (some ⟨b, 0, none⟩), .int .i64 deep] w fun e w' => VA w0 w w' b e := by
  have BY := Lib.hid (fun W h => byte_any w0 W b hb h)
  have WO := Lib.hid (fun W h => word_any w0 W b hb h)
  have hbl := h.lt
  obtain ⟨A, n, c, left, xs, h1, h2, h3, h4⟩ := h
  obtain ⟨c0, c1⟩ := Rv.cells2 h1
  obtain ⟨f0, f1⟩ := Rv.frozen2 h1
  have HF := Lib.hid (fun l2 => show Mst w0 ((w.setCell ⟨b, 1, none⟩ (.int .i64 l2)).alloc jz) b ∧ w.grownBy ((w.setCell ⟨b, 1, none⟩ (.int .i64 l2)).alloc jz) (some b) ∧ ((w.setCell ⟨b, 1, none⟩ (.int .i64 l2)).alloc jz).heap[w.heap.size]? = some jz from by
    have e1 : (w.setCell ⟨b, 1, none⟩ (.int .i64 l2)).heap.size = w.heap.size := by simp
    have k1 := Rv.set_cell1 1 (.int .i64 l2) h1
    have hA : Below (w.setCell ⟨b, 1, none⟩ (.int .i64 l2)).heap.size (w.setCell ⟨b, 1, none⟩ (.int .i64 l2)) ((w.setCell ⟨b, 1, none⟩ (.int .i64 l2)).alloc jz) := (Below.refl _ _).alloc (Nat.le_refl _) _
    refine ⟨(Mst.less h1 h2 h3 h4 hb).below hA, grown_then (grown_set (Below.refl _ _) b 1 _) (grown_of_below hA _), ?_⟩
    have := heap_alloc_new (w.setCell ⟨b, 1, none⟩ (.int .i64 l2)) jz
    rwa [e1] at this)
  clear h1 h2 h3 h4
  go_enter Try.func14, Try.ntmps14
  go_upto_region 2 with fail
  obtain ⟨HM1, HG1, HR1⟩ := HF.out (wrap64 (left - 1))
  have hs1 := HG1.size
  have HM1 := Lib.hid HM1
  have HG1 := Lib.hid HG1
  have HR1 := Lib.hid HR1
  clear HF c0 c1 f0 f1
  generalize (w.setCell ⟨b, 1, none⟩ (.int .i64 (wrap64 (left - 1)))).alloc jz = w1 at *
  go_upto_region 3 with (go_at_call 26; (with_reducible refine (BY.out _ HM1.out).mono ?_); rintro e w2 ⟨x, rfl, hx0, hx1, hm, hg⟩; have HM2 := Lib.hid hm; have HG2 := Lib.hid (grown_then HG1.out hg); have HR2 := Lib.hid (blk_grown HR1.out hg (fun e => by injection e with e; omega)); clear hm hg)
  go_upto_region 5 with fail
  generalize hkk : x % 12 % 6 = k at *
  have hk0 : 0 ≤ k := by omega
  have hk5 : k ≤ 5 := by omega
  clear hkk
  rcases show k = 0 ∨ k = 1 ∨ k = 2 ∨ k = 3 ∨ k = 4 ∨ k = 5 by omega with rfl | rfl | rfl | rfl | rfl | rfl
  all_goals clear hk0 hk5
  · have hr := HR2.out
    obtain ⟨s0, s1, s2, s3, s4⟩ := Rv.cells5 hr
    obtain ⟨z0, z1, z2, z3, z4⟩ := Rv.frozen5 hr
    clear hr
    go_wp2
    obtain ⟨fm, fg, fr⟩ := fin5 HM2.out HG2.out HR2.out hbl hb (.int .i64 0) (.int .i64 (0)) (.string ⟨#[]⟩) (.slice none 0 0) (.slice none 0 0)
    obtain ⟨q0, q1, q2, q3, q4⟩ := Rv.cells5 fr
    have HFM := Lib.hid fm
    have HFG := Lib.hid fg
    clear fm fg fr s0 s1 s2 s3 s4 z0 z1 z2 z3 z4 HM2 HG2 HR2
    refine bodyPost_ret (v := .agg #[.int .i64 0, .int .i64 (0), .string ⟨#[]⟩, .slice none 0 0, .slice none 0 0]) ?_ rfl ⟨_, .mk 0 (0) ⟨#[]⟩ [] [], rfl, .inl ⟨rfl, rfl, rfl, rfl, rfl⟩, leafJ _ _ _ _ _, HFM.out, HFG.out⟩
    simp only [results, show Try.f14.results = #[.cell 4 26] by kernel_rfl]
    go_simp
  · go_wp2_with (go_at_call 26; (with_reducible refine (BY.out _ HM2.out).mono ?_); rintro e w3 ⟨y, rfl, hy0, hy1, hm, hg⟩; have HM3 := Lib.hid hm; have HG3 := Lib.hid (grown_then HG2.out hg); have hr := blk_grown HR2.out hg (fun e => by injection e with e; omega); have HR3 := Lib.hid hr; obtain ⟨s0, s1, s2, s3, s4⟩ := Rv.cells5 hr; obtain ⟨z0, z1, z2, z3, z4⟩ := Rv.frozen5 hr; clear hm hg hr)
    obtain ⟨fm, fg, fr⟩ := fin5 HM3.out HG3.out HR3.out hbl hb (.int .i64 1) (.int .i64 (y % 2)) (.string ⟨#[]⟩) (.slice none 0 0) (.slice none 0 0)
    obtain ⟨q0, q1, q2, q3, q4⟩ := Rv.cells5 fr
    have HFM := Lib.hid fm
    have HFG := Lib.hid fg
    clear fm fg fr s0 s1 s2 s3 s4 z0 z1 z2 z3 z4 HM3 HG3 HR3
    refine bodyPost_ret (v := .agg #[.int .i64 1, .int .i64 (y % 2), .string ⟨#[]⟩, .slice none 0 0, .slice none 0 0]) ?_ rfl ⟨_, .mk 1 (y % 2) ⟨#[]⟩ [] [], rfl, .inr (.inl ⟨rfl, by omega, rfl, rfl, rfl⟩), leafJ _ _ _ _ _, HFM.out, HFG.out⟩
    simp only [results, show Try.f14.results = #[.cell 4 26] by kernel_rfl]
    go_simp
  · go_wp2_with (go_at_call 26; (with_reducible refine (BY.out _ HM2.out).mono ?_); rintro e w3 ⟨y, rfl, hy0, hy1, hm, hg⟩; have HM3 := Lib.hid hm; have HG3 := Lib.hid (grown_then HG2.out hg); have hr := blk_grown HR2.out hg (fun e => by injection e with e; omega); have HR3 := Lib.hid hr; obtain ⟨s0, s1, s2, s3, s4⟩ := Rv.cells5 hr; obtain ⟨z0, z1, z2, z3, z4⟩ := Rv.frozen5 hr; clear hm hg hr)
    obtain ⟨fm, fg, fr⟩ := fin5 HM3.out HG3.out HR3.out hbl hb (.int .i64 2) (.int .i64 (wrap64 (IntKind.i8.wrap y))) (.string ⟨#[]⟩) (.slice none 0 0) (.slice none 0 0)
    obtain ⟨q0, q1, q2, q3, q4⟩ := Rv.cells5 fr
    have HFM := Lib.hid fm
    have HFG := Lib.hid fg
    clear fm fg fr s0 s1 s2 s3 s4 z0 z1 z2 z3 z4 HM3 HG3 HR3
    refine bodyPost_ret (v := .agg #[.int .i64 2, .int .i64 (wrap64 (IntKind.i8.wrap y)), .string ⟨#[]⟩, .slice none 0 0, .slice none 0 0]) ?_ rfl ⟨_, .mk 2 (wrap64 (IntKind.i8.wrap y)) ⟨#[]⟩ [] [], rfl, .inr (.inr (.inl ⟨rfl, (num2 y).1, (num2 y).2, rfl, rfl, rfl⟩)), leafJ _ _ _ _ _, HFM.out, HFG.out⟩
    simp only [results, show Try.f14.results = #[.cell 4 26] by kernel_rfl]
    go_simp
  · go_wp2_with (first
      | (go_at_call 26; (with_reducible refine (BY.out _ HM2.out).mono ?_); rintro e w3 ⟨y, rfl, hy0, hy1, hm, hg⟩; have HM3 := Lib.hid hm; have HG3 := Lib.hid (grown_then HG2.out hg); have hr := blk_grown HR2.out hg (fun e => by injection e with e; omega); have HR3 := Lib.hid hr; clear hm hg hr)
      | (go_at_call 26; (with_reducible refine (BY.out _ HM3.out).mono ?_); rintro e w4 ⟨y2, rfl, hy20, hy21, hm, hg⟩; have HM4 := Lib.hid hm; have HG4 := Lib.hid (grown_then HG3.out hg); have hr := blk_grown HR3.out hg (fun e => by injection e with e; omega); have HR4 := Lib.hid hr; clear hm hg hr)
      | (go_at_call 26; (with_reducible refine (BY.out _ HM4.out).mono ?_); rintro e w5 ⟨y3, rfl, hy30, hy31, hm, hg⟩; have HM5 := Lib.hid hm; have HG5 := Lib.hid (grown_then HG4.out hg); have hr := blk_grown HR4.out hg (fun e => by injection e with e; omega); have HR5 := Lib.hid hr; clear hm hg hr)
      | (go_at_call 26; (with_reducible refine (BY.out _ HM5.out).mono ?_); rintro e w6 ⟨y4, rfl, hy40, hy41, hm, hg⟩; have HM6 := Lib.hid hm; have HG6 := Lib.hid (grown_then HG5.out hg); have hr := blk_grown HR5.out hg (fun e => by injection e with e; omega); have HR6 := Lib.hid hr; obtain ⟨s0, s1, s2, s3, s4⟩ := Rv.cells5 hr; obtain ⟨z0, z1, z2, z3, z4⟩ := Rv.frozen5 hr; clear hm hg hr))
    obtain ⟨fm, fg, fr⟩ := fin5 HM6.out HG6.out HR6.out hbl hb (.int .i64 2) (.int .i64 (wrap64 (wrap64 (wrap64 (wrap64 (wrap64 (IntKind.i8.wrap y) * 16777216) + y2 * 65536) + y3 * 256) + y4))) (.string ⟨#[]⟩) (.slice none 0 0) (.slice none 0 0)
    obtain ⟨q0, q1, q2, q3, q4⟩ := Rv.cells5 fr
    have HFM := Lib.hid fm
    have HFG := Lib.hid fg
    clear fm fg fr s0 s1 s2 s3 s4 z0 z1 z2 z3 z4 HM6 HG6 HR6
    refine bodyPost_ret (v := .agg #[.int .i64 2, .int .i64 (wrap64 (wrap64 (wrap64 (wrap64 (wrap64 (IntKind.i8.wrap y) * 16777216) + y2 * 65536) + y3 * 256) + y4)), .string ⟨#[]⟩, .slice none 0 0, .slice none 0 0]) ?_ rfl ⟨_, .mk 2 (wrap64 (wrap64 (wrap64 (wrap64 (wrap64 (IntKind.i8.wrap y) * 16777216) + y2 * 65536) + y3 * 256) + y4)) ⟨#[]⟩ [] [], rfl, .inr (.inr (.inl ⟨rfl, (num3 y y2 y3 y4 ⟨hy20, hy21⟩ ⟨hy30, hy31⟩ ⟨hy40, hy41⟩).1, (num3 y y2 y3 y4 ⟨hy20, hy21⟩ ⟨hy30, hy31⟩ ⟨hy40, hy41⟩).2, rfl, rfl, rfl⟩)), leafJ _ _ _ _ _, HFM.out, HFG.out⟩
    simp only [results, show Try.f14.results = #[.cell 4 26] by kernel_rfl]
    go_simp
  · go_wp2_with (go_at_call 27; (with_reducible refine (WO.out _ HM2.out).mono ?_); rintro e w3 ⟨y, rfl, hy0, hm, hg⟩; have HM3 := Lib.hid hm; have HG3 := Lib.hid (grown_then HG2.out hg); have hr := blk_grown HR2.out hg (fun e => by injection e with e; omega); have HR3 := Lib.hid hr; obtain ⟨s0, s1, s2, s3, s4⟩ := Rv.cells5 hr; obtain ⟨z0, z1, z2, z3, z4⟩ := Rv.frozen5 hr; clear hm hg hr)
    obtain ⟨fm, fg, fr⟩ := fin5 HM3.out HG3.out HR3.out hbl hb (.int .i64 3) (.int .i64 (0)) (.string y) (.slice none 0 0) (.slice none 0 0)
    obtain ⟨q0, q1, q2, q3, q4⟩ := Rv.cells5 fr
    have HFM := Lib.hid fm
    have HFG := Lib.hid fg
    clear fm fg fr s0 s1 s2 s3 s4 z0 z1 z2 z3 z4 HM3 HG3 HR3
    refine bodyPost_ret (v := .agg #[.int .i64 3, .int .i64 (0), .string y, .slice none 0 0, .slice none 0 0]) ?_ rfl ⟨_, .mk 3 (0) y [] [], rfl, .inr (.inr (.inr (.inl ⟨rfl, rfl, hy0, rfl, rfl⟩))), leafJ _ _ _ _ _, HFM.out, HFG.out⟩
    simp only [results, show Try.f14.results = #[.cell 4 26] by kernel_rfl]
    go_simp
  · go_wp2_with (go_at_call 27; (with_reducible refine (WO.out _ HM2.out).mono ?_); rintro e w3 ⟨y, rfl, hy0, hm, hg⟩; have HM3 := Lib.hid hm; have HG3 := Lib.hid (grown_then HG2.out hg); have hr := blk_grown HR2.out hg (fun e => by injection e with e; omega); have HR3 := Lib.hid hr; obtain ⟨s0, s1, s2, s3, s4⟩ := Rv.cells5 hr; obtain ⟨z0, z1, z2, z3, z4⟩ := Rv.frozen5 hr; clear hm hg hr)
    obtain ⟨fm, fg, fr⟩ := fin5 HM3.out HG3.out HR3.out hbl hb (.int .i64 3) (.int .i64 (0)) (.string y) (.slice none 0 0) (.slice none 0 0)
    obtain ⟨q0, q1, q2, q3, q4⟩ := Rv.cells5 fr
    have HFM := Lib.hid fm
    have HFG := Lib.hid fg
    clear fm fg fr s0 s1 s2 s3 s4 z0 z1 z2 z3 z4 HM3 HG3 HR3
    refine bodyPost_ret (v := .agg #[.int .i64 3, .int .i64 (0), .string y, .slice none 0 0, .slice none 0 0]) ?_ rfl ⟨_, .mk 3 (0) y [] [], rfl, .inr (.inr (.inr (.inl ⟨rfl, rfl, hy0, rfl, rfl⟩))), leafJ _ _ _ _ _, HFM.out, HFG.out⟩
    simp only [results, show Try.f14.results = #[.cell 4 26] by kernel_rfl]
    go_simp
end Go.Proofs.Ytmelgankbegjaaa.Js

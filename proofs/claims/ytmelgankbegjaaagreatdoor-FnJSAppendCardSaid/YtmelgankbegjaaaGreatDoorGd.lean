/- Part d of the chain. Conditions: those written at each lemma. -/
import Derived.Test.YtmelgankbegjaaaGreatDoorGc
import Derived.Test.YtmelgankbegjaaaGreatDoorGb
set_option linter.unusedVariables false
set_option linter.unusedSimpArgs false
set_option maxRecDepth 100000
set_option maxHeartbeats 8000000
namespace Go.Proofs.YtmelgankbegjaaaGreatDoor.Js
open Go.RowKit Go.Proofs.YtmelgankbegjaaaGreatDoor.B

abbrev jz : Obj := .cells #[.int .i64 0, .int .i64 0, .string ⟨#[]⟩, .slice none 0 0, .slice none 0 0] 26
theorem blk_grown {W W' : World} {g : Nat} {o : Obj} {row : Option Nat} (h : W.heap[g]? = some o) (hg : W.grownBy W' row) (hn : some g ≠ row) : W'.heap[g]? = some o := (hg.block g (Rv.lt_of_blk h) hn).trans h
/-- What the reader's value answers. -/
def VA (w0 w w' : World) (b : Nat) (e : Ending) : Prop := ∃ v t, e = .returned v ∧ Wf t ∧ JN (fun x => w.heap.size ≤ x) w' t v ∧ Mst w0 w' b ∧ w.grownBy w' (some b)
theorem grown_new {w W : World} {r : Option Nat} (h : w.grownBy W r) {g : Nat} (hg : w.heap.size ≤ g) (j : Nat) (u : Value) : w.grownBy (W.setCell ⟨g, j, none⟩ u) r :=
  ⟨h.os, h.tape, h.output, by simpa using h.size, fun k hk hn => by rw [Below.heap_setCell _ _ _ _ (fun e => by have e : k = g := e; omega)]; exact h.block k hk hn⟩
theorem fin5 {w0 w W : World} {b : Nat} (hm : Mst w0 W b) (hg : w.grownBy W (some b)) {x0 x1 x2 x3 x4 : Value} (hR : W.heap[w.heap.size]? = some (.cells #[x0, x1, x2, x3, x4] 26 (0, 0))) (hb : b < w.heap.size) (h0 : w0.heap.size ≤ b) (a c d e f : Value) :
    Mst w0 (((((W.setCell ⟨w.heap.size, 0, none⟩ a).setCell ⟨w.heap.size, 1, none⟩ c).setCell ⟨w.heap.size, 2, none⟩ d).setCell ⟨w.heap.size, 3, none⟩ e).setCell ⟨w.heap.size, 4, none⟩ f) b ∧
    w.grownBy (((((W.setCell ⟨w.heap.size, 0, none⟩ a).setCell ⟨w.heap.size, 1, none⟩ c).setCell ⟨w.heap.size, 2, none⟩ d).setCell ⟨w.heap.size, 3, none⟩ e).setCell ⟨w.heap.size, 4, none⟩ f) (some b) ∧
    (((((W.setCell ⟨w.heap.size, 0, none⟩ a).setCell ⟨w.heap.size, 1, none⟩ c).setCell ⟨w.heap.size, 2, none⟩ d).setCell ⟨w.heap.size, 3, none⟩ e).setCell ⟨w.heap.size, 4, none⟩ f).heap[w.heap.size]? = some (.cells #[a, c, d, e, f] 26 (0, 0)) := by
  have k : ∀ (V : World) (j : Nat) (u : Value), Mst w0 V b → Mst w0 (V.setCell ⟨w.heap.size, j, none⟩ u) b := fun V j u h => h.grown (grown_set (Below.refl _ _) w.heap.size j u) (fun k hk => by injection hk with hk; omega)
  exact ⟨k _ _ _ (k _ _ _ (k _ _ _ (k _ _ _ (k _ _ _ hm)))), grown_new (grown_new (grown_new (grown_new (grown_new hg (Nat.le_refl _) _ _) (Nat.le_refl _) _ _) (Nat.le_refl _) _ _) (Nat.le_refl _) _ _) (Nat.le_refl _) _ _, Rv.sets5 hR _ _ _ _ _⟩
theorem leafJ (p : Nat → Prop) (W : World) (k n : Int) (s : ByteArray) : JN p W (.mk k n s [] []) (.agg #[.int .i64 k, .int .i64 n, .string s, .slice none 0 0, .slice none 0 0]) :=
  ⟨none, 0, none, 0, [], rfl, Rp.nil _ _ _, Rp.nil _ _ _, rfl⟩
theorem w64 {z : Int} (h : -9223372036854775808 ≤ z) (h2 : z ≤ 9223372036854775807) : wrap64 z = z := by unfold wrap64; omega
theorem w8 (z : Int) : -128 ≤ IntKind.i8.wrap z ∧ IntKind.i8.wrap z ≤ 127 := by
  have e : IntKind.i8.wrap z = (if z % 256 ≥ 128 then z % 256 - 256 else z % 256) := by simp [IntKind.wrap, IntKind.bits, IntKind.signed]
  rw [e]
  split <;> omega
theorem num2 (y : Int) : -2147483648 ≤ wrap64 (IntKind.i8.wrap y) ∧ wrap64 (IntKind.i8.wrap y) ≤ 2147483647 := by
  have h := w8 y
  rw [w64 (by omega) (by omega)]
  omega
theorem num3 (y b c d : Int) (hb : 0 ≤ b ∧ b ≤ 255) (hc : 0 ≤ c ∧ c ≤ 255) (hd : 0 ≤ d ∧ d ≤ 255) : -2147483648 ≤ wrap64 (wrap64 (wrap64 (wrap64 (wrap64 (IntKind.i8.wrap y) * 16777216) + b * 65536) + c * 256) + d) ∧ wrap64 (wrap64 (wrap64 (wrap64 (wrap64 (IntKind.i8.wrap y) * 16777216) + b * 65536) + c * 256) + d) ≤ 2147483647 := by
  have h := w8 y
  generalize IntKind.i8.wrap y = z at *
  rw [w64 (z := z) (by omega) (by omega), w64 (z := z * 16777216) (by omega) (by omega), w64 (z := z * 16777216 + b * 65536) (by omega) (by omega), w64 (z := z * 16777216 + b * 65536 + c * 256) (by omega) (by omega), w64 (by omega) (by omega)]
  omega
theorem value_deep (w0 w : World) (b : Nat) (hb : w0.heap.size ≤ b) (h : Mst w0 w b) (deep : Int) (hd6 : 6 ≤ deep) (hd7 : deep ≤ 100) :
    Calls Tryz.prog 14 #[.pointer (some ⟨b, 0, none⟩), .int .i64 deep] w fun e w' => VA w0 w w' b e := by
  have BY := Lib.hid (fun W h => byte_any w0 W b hb h)
  have WO := Lib.hid (fun W h => word_any w0 W b hb h)
  have hbl := h.lt
  obtain ⟨A, n, c, left, xs, h1, h2, h3, h4⟩ := h
  obtain ⟨c0, c1⟩ := Rv.cells2 h1
  obtain ⟨f0, f1⟩ := Rv.frozen2 h1
  have HF := Lib.hid (fun l2 => show Mst w0 ((w.setCell ⟨b, 1, none⟩ (.int .i64 l2)).alloc jz) b ∧ w.grownBy ((w.setCell ⟨b, 1, none⟩ (.int .i64 l2)).alloc jz) (some b) ∧ ((w.setCell ⟨b, 1, none⟩ (.int .i64 l2)).alloc jz).heap[w.heap.size]? = some jz from by
    have e1 : (w.setCell ⟨b, 1, none⟩ (.int .i64 l2)).heap.size = w.heap.size := by simp
    have k1 := Rv.set_cell1 1 (.int .i64 l2) h1
    have hA : Below (w.setCell ⟨b, 1, none⟩ (.int .i64 l2)).heap.size (w.setCell ⟨b, 1, none⟩ (.int .i64 l2)) ((w.setCell ⟨b, 1, none⟩ (.int .i64 l2)).alloc jz) := (Below.refl _ _).alloc (Nat.le_refl _) _
    refine ⟨(Mst.less h1 h2 h3 h4 hb).below hA, grown_then (grown_set (Below.refl _ _) b 1 _) (grown_of_below hA _), ?_⟩
    have := heap_alloc_new (w.setCell ⟨b, 1, none⟩ (.int .i64 l2)) jz
    rwa [e1] at this)
  clear h1 h2 h3 h4
  go_enter Tryz.func14, Tryz.ntmps14
  go_upto_region 2 with fail
  obtain ⟨HM1, HG1, HR1⟩ := HF.out (wrap64 (left - 1))
  have hs1 := HG1.size
  have HM1 := Lib.hid HM1
  have HG1 := Lib.hid HG1
  have HR1 := Lib.hid HR1
  clear HF c0 c1 f0 f1
  generalize (w.setCell ⟨b, 1, none⟩ (.int .i64 (wrap64 (left - 1)))).alloc jz = w1 at *
  go_upto_region 3 with (go_at_call 15; (with_reducible refine (BY.out _ HM1.out).mono ?_); rintro e w2 ⟨x, rfl, hx0, hx1, hm, hg⟩; have HM2 := Lib.hid hm; have HG2 := Lib.hid (grown_then HG1.out hg); have HR2 := Lib.hid (blk_grown HR1.out hg (fun e => by injection e with e; omega)); clear hm hg)
  go_upto_region 5 with fail
  generalize hkk : x % 12 % 6 = k at *
  have hk0 : 0 ≤ k := by omega
  have hk5 : k ≤ 5 := by omega
  clear hkk
  rcases show k = 0 ∨ k = 1 ∨ k = 2 ∨ k = 3 ∨ k = 4 ∨ k = 5 by omega with rfl | rfl | rfl | rfl | rfl | rfl
  all_goals clear hk0 hk5
  · have hr := HR2.out
    obtain ⟨s0, s1, s2, s3, s4⟩ := Rv.cells5 hr
    obtain ⟨z0, z1, z2, z3, z4⟩ := Rv.frozen5 hr
    clear hr
    go_wp2
    obtain ⟨fm, fg, fr⟩ := fin5 HM2.out HG2.out HR2.out hbl hb (.int .i64 0) (.int .i64 (0)) (.string ⟨#[]⟩) (.slice none 0 0) (.slice none 0 0)
    obtain ⟨q0, q1, q2, q3, q4⟩ := Rv.cells5 fr
    have HFM := Lib.hid fm
    have HFG := Lib.hid fg
    clear fm fg fr s0 s1 s2 s3 s4 z0 z1 z2 z3 z4 HM2 HG2 HR2
    refine bodyPost_ret (v := .agg #[.int .i64 0, .int .i64 (0), .string ⟨#[]⟩, .slice none 0 0, .slice none 0 0]) ?_ rfl ⟨_, .mk 0 (0) ⟨#[]⟩ [] [], rfl, .inl ⟨rfl, rfl, rfl, rfl, rfl⟩, leafJ _ _ _ _ _, HFM.out, HFG.out⟩
    simp only [results, show Tryz.f14.results = #[.cell 4 26] by kernel_rfl]
    go_simp
  · go_wp2_with (go_at_call 15; (with_reducible refine (BY.out _ HM2.out).mono ?_); rintro e w3 ⟨y, rfl, hy0, hy1, hm, hg⟩; have HM3 := Lib.hid hm; have HG3 := Lib.hid (grown_then HG2.out hg); have hr := blk_grown HR2.out hg (fun e => by injection e with e; omega); have HR3 := Lib.hid hr; obtain ⟨s0, s1, s2, s3, s4⟩ := Rv.cells5 hr; obtain ⟨z0, z1, z2, z3, z4⟩ := Rv.frozen5 hr; clear hm hg hr)
    obtain ⟨fm, fg, fr⟩ := fin5 HM3.out HG3.out HR3.out hbl hb (.int .i64 1) (.int .i64 (y % 2)) (.string ⟨#[]⟩) (.slice none 0 0) (.slice none 0 0)
    obtain ⟨q0, q1, q2, q3, q4⟩ := Rv.cells5 fr
    have HFM := Lib.hid fm
    have HFG := Lib.hid fg
    clear fm fg fr s0 s1 s2 s3 s4 z0 z1 z2 z3 z4 HM3 HG3 HR3
    refine bodyPost_ret (v := .agg #[.int .i64 1, .int .i64 (y % 2), .string ⟨#[]⟩, .slice none 0 0, .slice none 0 0]) ?_ rfl ⟨_, .mk 1 (y % 2) ⟨#[]⟩ [] [], rfl, .inr (.inl ⟨rfl, by omega, rfl, rfl, rfl⟩), leafJ _ _ _ _ _, HFM.out, HFG.out⟩
    simp only [results, show Tryz.f14.results = #[.cell 4 26] by kernel_rfl]
    go_simp
  · go_wp2_with (go_at_call 15; (with_reducible refine (BY.out _ HM2.out).mono ?_); rintro e w3 ⟨y, rfl, hy0, hy1, hm, hg⟩; have HM3 := Lib.hid hm; have HG3 := Lib.hid (grown_then HG2.out hg); have hr := blk_grown HR2.out hg (fun e => by injection e with e; omega); have HR3 := Lib.hid hr; obtain ⟨s0, s1, s2, s3, s4⟩ := Rv.cells5 hr; obtain ⟨z0, z1, z2, z3, z4⟩ := Rv.frozen5 hr; clear hm hg hr)
    obtain ⟨fm, fg, fr⟩ := fin5 HM3.out HG3.out HR3.out hbl hb (.int .i64 2) (.int .i64 (wrap64 (IntKind.i8.wrap y))) (.string ⟨#[]⟩) (.slice none 0 0) (.slice none 0 0)
    obtain ⟨q0, q1, q2, q3, q4⟩ := Rv.cells5 fr
    have HFM := Lib.hid fm
    have HFG := Lib.hid fg
    clear fm fg fr s0 s1 s2 s3 s4 z0 z1 z2 z3 z4 HM3 HG3 HR3
    refine bodyPost_ret (v := .agg #[.int .i64 2, .int .i64 (wrap64 (IntKind.i8.wrap y)), .string ⟨#[]⟩, .slice none 0 0, .slice none 0 0]) ?_ rfl ⟨_, .mk 2 (wrap64 (IntKind.i8.wrap y)) ⟨#[]⟩ [] [], rfl, .inr (.inr (.inl ⟨rfl, (num2 y).1, (num2 y).2, rfl, rfl, rfl⟩)), leafJ _ _ _ _ _, HFM.out, HFG.out⟩
    simp only [results, show Tryz.f14.results = #[.cell 4 26] by kernel_rfl]
    go_simp
  · go_wp2_with (first
      | (go_at_call 15; (with_reducible refine (BY.out _ HM2.out).mono ?_); rintro e w3 ⟨y, rfl, hy0, hy1, hm, hg⟩; have HM3 := Lib.hid hm; have HG3 := Lib.hid (grown_then HG2.out hg); have hr := blk_grown HR2.out hg (fun e => by injection e with e; omega); have HR3 := Lib.hid hr; clear hm hg hr)
      | (go_at_call 15; (with_reducible refine (BY.out _ HM3.out).mono ?_); rintro e w4 ⟨y2, rfl, hy20, hy21, hm, hg⟩; have HM4 := Lib.hid hm; have HG4 := Lib.hid (grown_then HG3.out hg); have hr := blk_grown HR3.out hg (fun e => by injection e with e; omega); have HR4 := Lib.hid hr; clear hm hg hr)
      | (go_at_call 15; (with_reducible refine (BY.out _ HM4.out).mono ?_); rintro e w5 ⟨y3, rfl, hy30, hy31, hm, hg⟩; have HM5 := Lib.hid hm; have HG5 := Lib.hid (grown_then HG4.out hg); have hr := blk_grown HR4.out hg (fun e => by injection e with e; omega); have HR5 := Lib.hid hr; clear hm hg hr)
      | (go_at_call 15; (with_reducible refine (BY.out _ HM5.out).mono ?_); rintro e w6 ⟨y4, rfl, hy40, hy41, hm, hg⟩; have HM6 := Lib.hid hm; have HG6 := Lib.hid (grown_then HG5.out hg); have hr := blk_grown HR5.out hg (fun e => by injection e with e; omega); have HR6 := Lib.hid hr; obtain ⟨s0, s1, s2, s3, s4⟩ := Rv.cells5 hr; obtain ⟨z0, z1, z2, z3, z4⟩ := Rv.frozen5 hr; clear hm hg hr))
    obtain ⟨fm, fg, fr⟩ := fin5 HM6.out HG6.out HR6.out hbl hb (.int .i64 2) (.int .i64 (wrap64 (wrap64 (wrap64 (wrap64 (wrap64 (IntKind.i8.wrap y) * 16777216) + y2 * 65536) + y3 * 256) + y4))) (.string ⟨#[]⟩) (.slice none 0 0) (.slice none 0 0)
    obtain ⟨q0, q1, q2, q3, q4⟩ := Rv.cells5 fr
    have HFM := Lib.hid fm
    have HFG := Lib.hid fg
    clear fm fg fr s0 s1 s2 s3 s4 z0 z1 z2 z3 z4 HM6 HG6 HR6
    refine bodyPost_ret (v := .agg #[.int .i64 2, .int .i64 (wrap64 (wrap64 (wrap64 (wrap64 (wrap64 (IntKind.i8.wrap y) * 16777216) + y2 * 65536) + y3 * 256) + y4)), .string ⟨#[]⟩, .slice none 0 0, .slice none 0 0]) ?_ rfl ⟨_, .mk 2 (wrap64 (wrap64 (wrap64 (wrap64 (wrap64 (IntKind.i8.wrap y) * 16777216) + y2 * 65536) + y3 * 256) + y4)) ⟨#[]⟩ [] [], rfl, .inr (.inr (.inl ⟨rfl, (num3 y y2 y3 y4 ⟨hy20, hy21⟩ ⟨hy30, hy31⟩ ⟨hy40, hy41⟩).1, (num3 y y2 y3 y4 ⟨hy20, hy21⟩ ⟨hy30, hy31⟩ ⟨hy40, hy41⟩).2, rfl, rfl, rfl⟩)), leafJ _ _ _ _ _, HFM.out, HFG.out⟩
    simp only [results, show Tryz.f14.results = #[.cell 4 26] by kernel_rfl]
    go_simp
  · go_wp2_with (go_at_call 16; (with_reducible refine (WO.out _ HM2.out).mono ?_); rintro e w3 ⟨y, rfl, hy0, hm, hg⟩; have HM3 := Lib.hid hm; have HG3 := Lib.hid (grown_then HG2.out hg); have hr := blk_grown HR2.out hg (fun e => by injection e with e; omega); have HR3 := Lib.hid hr; obtain ⟨s0, s1, s2, s3, s4⟩ := Rv.cells5 hr; obtain ⟨z0, z1, z2, z3, z4⟩ := Rv.frozen5 hr; clear hm hg hr)
    obtain ⟨fm, fg, fr⟩ := fin5 HM3.out HG3.out HR3.out hbl hb (.int .i64 3) (.int .i64 (0)) (.string y) (.slice none 0 0) (.slice none 0 0)
    obtain ⟨q0, q1, q2, q3, q4⟩ := Rv.cells5 fr
    have HFM := Lib.hid fm
    have HFG := Lib.hid fg
    clear fm fg fr s0 s1 s2 s3 s4 z0 z1 z2 z3 z4 HM3 HG3 HR3
    refine bodyPost_ret (v := .agg #[.int .i64 3, .int .i64 (0), .string y, .slice none 0 0, .slice none 0 0]) ?_ rfl ⟨_, .mk 3 (0) y [] [], rfl, .inr (.inr (.inr (.inl ⟨rfl, rfl, hy0, rfl, rfl⟩))), leafJ _ _ _ _ _, HFM.out, HFG.out⟩
    simp only [results, show Tryz.f14.results = #[.cell 4 26] by kernel_rfl]
    go_simp
  · go_wp2_with (go_at_call 16; (with_reducible refine (WO.out _ HM2.out).mono ?_); rintro e w3 ⟨y, rfl, hy0, hm, hg⟩; have HM3 := Lib.hid hm; have HG3 := Lib.hid (grown_then HG2.out hg); have hr := blk_grown HR2.out hg (fun e => by injection e with e; omega); have HR3 := Lib.hid hr; obtain ⟨s0, s1, s2, s3, s4⟩ := Rv.cells5 hr; obtain ⟨z0, z1, z2, z3, z4⟩ := Rv.frozen5 hr; clear hm hg hr)
    obtain ⟨fm, fg, fr⟩ := fin5 HM3.out HG3.out HR3.out hbl hb (.int .i64 3) (.int .i64 (0)) (.string y) (.slice none 0 0) (.slice none 0 0)
    obtain ⟨q0, q1, q2, q3, q4⟩ := Rv.cells5 fr
    have HFM := Lib.hid fm
    have HFG := Lib.hid fg
    clear fm fg fr s0 s1 s2 s3 s4 z0 z1 z2 z3 z4 HM3 HG3 HR3
    refine bodyPost_ret (v := .agg #[.int .i64 3, .int .i64 (0), .string y, .slice none 0 0, .slice none 0 0]) ?_ rfl ⟨_, .mk 3 (0) y [] [], rfl, .inr (.inr (.inr (.inl ⟨rfl, rfl, hy0, rfl, rfl⟩))), leafJ _ _ _ _ _, HFM.out, HFG.out⟩
    simp only [results, show Tryz.f14.results = #[.cell 4 26] by kernel_rfl]
    go_simp
end Go.Proofs.YtmelgankbegjaaaGreatDoor.Js

set_option linter.unusedVariables false
set_option linter.unusedSimpArgs false
set_option maxRecDepth 100000
set_option maxHeartbeats 8000000
namespace Go.Proofs.YtmelgankbegjaaaGreatDoor.Js
open Go.RowKit Go.Proofs.YtmelgankbegjaaaGreatDoor.B

theorem own_other {W W1 : World} {B B2 : Nat} {e e2 : TypeId} {s s2 n n2 : Nat} {v u : Value} {xs ys : List Value} (h : W.ownsRow B e s v n xs) (hu : W.ownsRow B2 e2 s2 u n2 ys) (he : e ≠ e2) (hg : W.grownBy W1 u.ownBlock) : W1.ownsRow B e s v n xs := by
  refine ⟨h.1, ?_⟩
  rcases h.2 with h2 | ⟨g, cap, cur, h1, h2, h3, h4⟩
  · exact .inl h2
  · refine .inr ⟨g, cap, cur, h1, h2, ?_, h4⟩
    rw [hg.block g (Rv.lt_of_blk h3) (fun e1 => ?_)]
    · exact h3
    · rcases hu.2 with ⟨rfl, _⟩ | ⟨g2, cap2, cur2, rfl, _, h5, _⟩
      · cases e1
      · simp only [Value.ownBlock] at e1
        injection e1 with e1
        subst e1
        rw [h3] at h5
        injection h5 with h5
        injection h5 with _ h5 _
        exact he h5
theorem own_kept {W W1 : World} {B : Nat} {e : TypeId} {s n : Nat} {v : Value} {xs : List Value} {r : Option Nat} (h : W.ownsRow B e s v n xs) (hg : W.grownBy W1 r) (hr : ∀ k, v.ownBlock = some k → some k ≠ r) : W1.ownsRow B e s v n xs := by
  refine ⟨h.1, ?_⟩
  rcases h.2 with h2 | ⟨g, cap, cur, h1, h2, h3, h4⟩
  · exact .inl h2
  · exact .inr ⟨g, cap, cur, h1, h2, (hg.block g (Rv.lt_of_blk h3) (hr g (by rw [h1]; rfl))).trans h3, h4⟩
/-- Where the rows of the items lie. -/
def Fr (B g : Nat) (vN vI : Value) (x : Nat) : Prop := B ≤ x ∧ x ≠ g ∧ some x ≠ vN.ownBlock ∧ some x ≠ vI.ownBlock
/-- A value in the making: its variable in block g, its rows, its items. -/
def St (w0 : World) (b B g : Nat) (kk : Int) (ns : List ByteArray) (vN vH vI : Value) (ts : List J) (hs : List Value) (W : World) : Prop :=
  Mst w0 W b ∧ W.heap[g]? = some (.cells #[.int .i64 kk, .int .i64 0, .string ⟨#[]⟩, vN, vH] 26 (0, 0)) ∧ W.ownsRow B 9 1 vN ns.length (strs ns) ∧ W.ownsRow B 26 5 vI ts.length (flat hs) ∧ JNs (Fr B g vN vI) W ts hs ∧
    some g ≠ vN.ownBlock ∧ some g ≠ vI.ownBlock ∧ B ≤ g ∧ b < B ∧ w0.heap.size ≤ b
section
variable {w0 W W' : World} {b B g E : Nat} {kk : Int} {ns : List ByteArray} {vN vH vI v' v : Value} {ts : List J} {hs : List Value} {t : J}
theorem St.below (h : St w0 b B g kk ns vN vH vI ts hs W) (hb : Below W.heap.size W W') : St w0 b B g kk ns vN vH vI ts hs W' := by
  obtain ⟨h1, h2, h3, h4, h5, h6⟩ := h
  exact ⟨h1.below hb, (hb.block g (Rv.lt_of_blk h2)).trans h2, own_below h3 hb, own_below h4 hb, h5.below hb, h6⟩
theorem St.call (h : St w0 b B g kk ns vN vH vI ts hs W) (hg : W.grownBy W' (some b)) (hm : Mst w0 W' b) : St w0 b B g kk ns vN vH vI ts hs W' := by
  obtain ⟨h1, h2, h3, h4, h5, h6, h7, h8, h9, h10⟩ := h
  exact ⟨hm, blk_grown h2 hg (fun e => by injection e with e; omega), own_kept h3 hg (fun k hk e => by have := (h3.lt k hk).1; injection e with e; omega), own_kept h4 hg (fun k hk e => by have := (h4.lt k hk).1; injection e with e; omega),
    h5.grown hg (fun x hx e => by have := hx.1; injection e with e; omega), h6, h7, h8, h9, h10⟩
theorem St.mst (h : St w0 b B g kk ns vN vH vI ts hs W) : Mst w0 W b := h.1
theorem St.blk (h : St w0 b B g kk ns vN vH vI ts hs W) : W.heap[g]? = some (.cells #[.int .i64 kk, .int .i64 0, .string ⟨#[]⟩, vN, vH] 26 (0, 0)) := h.2.1
theorem St.rowN (h : St w0 b B g kk ns vN vH vI ts hs W) : W.ownsRow B 9 1 vN ns.length (strs ns) := h.2.2.1
theorem St.rowI (h : St w0 b B g kk ns vN vH vI ts hs W) : W.ownsRow B 26 5 vI ts.length (flat hs) := h.2.2.2.1
theorem St.geB (h : St w0 b B g kk ns vN vH vI ts hs W) : B ≤ g := h.2.2.2.2.2.2.2.1
theorem St.lt (h : St w0 b B g kk ns vN vH vI ts hs W) : g < W.heap.size := Rv.lt_of_blk h.2.1
theorem St.push (h : St w0 b B g kk ns vN vH vI ts hs W) {five : List Value} (hown : W'.ownsRow B 26 5 v' (ts.length + 1) (flat hs ++ five)) (hg : W.grownBy W' vI.ownBlock) (hat : v'.ownBlock = vI.ownBlock ∨ ∃ k, v'.ownBlock = some k ∧ W.heap.size ≤ k)
    (hj : JN (fun x => E ≤ x) W t v) (hf : v.cells.toList = five) (hE : g < E) (hN : ∀ k, vN.ownBlock = some k → k < E) (hI : ∀ k, vI.ownBlock = some k → k < E) (hBE : B ≤ E) : St w0 b B g kk ns vN vH v' (ts ++ [t]) (hs ++ [v]) W' := by
  obtain ⟨h1, h2, h3, h4, h5, h6, h7, h8, h9, h10⟩ := h
  have hlt := Rv.lt_of_blk h2
  have new : ∀ x, Fr B g vN vI x → x < W.heap.size → Fr B g vN v' x := fun x hx hl => ⟨hx.1, hx.2.1, hx.2.2.1, fun e => by
    rcases hat with ha | ⟨k, hk, hk2⟩
    · exact hx.2.2.2 (e.trans ha)
    · rw [hk] at e; injection e with e; omega⟩
  have key : ∀ {p : Nat → Prop} {t : J} {v : Value}, JN p W t v → (∀ x, x < W.heap.size → p x → Fr B g vN vI x) → JN (Fr B g vN v') W' t v := fun {p t v} hj hp =>
    ((hj.weak (q := fun x => Fr B g vN vI x ∧ x < W.heap.size) (fun x hl hx => ⟨hp x hl hx, hl⟩)).grown hg (fun x hx => hx.1.2.2.2)).weak (fun x _ hx => new x hx.1 hx.2)
  have hjs : JNs (Fr B g vN v') W' ts hs := ((h5.weak (q := fun x => Fr B g vN vI x ∧ x < W.heap.size) (fun x hl hx => ⟨hx, hl⟩)).grown hg (fun x hx => hx.1.2.2.2)).weak (fun x _ hx => new x hx.1 hx.2)
  refine ⟨h1.grown hg (fun k hk => ?_), blk_grown h2 hg h7, own_other h3 h4 (by decide) hg, ?_, hjs.push (key hj fun x hl hx => ⟨Nat.le_trans hBE hx, fun e => by have hx : E ≤ x := hx; omega, fun e => by have := hN x e.symm; have hx : E ≤ x := hx; omega, fun e => by have := hI x e.symm; have hx : E ≤ x := hx; omega⟩), h6, ?_, h8, h9, h10⟩
  · have := (h4.lt k hk).1
    exact ⟨by omega, by omega⟩
  · have e : flat [v] = five := by rw [← hf]; simp
    rw [List.length_append, flat_app, e]
    exact hown
  · intro e
    rcases hat with ha | ⟨k, hk, hk2⟩
    · exact h7 (e.trans ha)
    · rw [hk] at e; injection e with e; omega
theorem St.keepg (h : St w0 b B g kk ns vN vH vI ts hs W) (j : Nat) (u : Value) : Mst w0 (W.setCell ⟨g, j, none⟩ u) b ∧ (W.setCell ⟨g, j, none⟩ u).ownsRow B 9 1 vN ns.length (strs ns) ∧ (W.setCell ⟨g, j, none⟩ u).ownsRow B 26 5 vI ts.length (flat hs) ∧ JNs (Fr B g vN vI) (W.setCell ⟨g, j, none⟩ u) ts hs := by
  obtain ⟨h1, h2, h3, h4, h5, h6, h7, h8, h9, h10⟩ := h
  have hg := grown_set (Below.refl _ W) g j u
  exact ⟨h1.grown hg (fun k hk => by injection hk with hk; omega), own_kept h3 hg (fun k hk e => h6 (by rw [← e, hk])), own_kept h4 hg (fun k hk e => h7 (by rw [← e, hk])), h5.grown hg (fun x hx e => by injection e with e; exact hx.2.1 e)⟩
theorem St.store4 (h : St w0 b B g kk ns vN vH vI ts hs W) : St w0 b B g kk ns vN vI vI ts hs (W.setCell ⟨g, 4, none⟩ vI) := by
  obtain ⟨k1, k2, k3, k4⟩ := h.keepg 4 vI
  obtain ⟨h1, h2, h3, h4, h5, h6⟩ := h
  exact ⟨k1, Rv.set_cell1 4 vI h2, k2, k3, k4, h6⟩
theorem St.name (h : St w0 b B g kk ns vN vI vI ts hs W) {x : ByteArray} (hown : W'.ownsRow B 9 1 v' (ns.length + 1) (strs ns ++ [.string x])) (hg : W.grownBy W' vN.ownBlock) (hat : v'.ownBlock = vN.ownBlock ∨ ∃ k, v'.ownBlock = some k ∧ W.heap.size ≤ k) :
    W'.heap[g]? = some (.cells #[.int .i64 kk, .int .i64 0, .string ⟨#[]⟩, vN, vI] 26 (0, 0)) ∧ St w0 b B g kk (ns ++ [x]) v' vI vI ts hs (W'.setCell ⟨g, 3, none⟩ v') := by
  obtain ⟨h1, h2, h3, h4, h5, h6, h7, h8, h9, h10⟩ := h
  have hlt := Rv.lt_of_blk h2
  have h2' := blk_grown h2 hg h6
  refine ⟨h2', ?_⟩
  have new : ∀ x, Fr B g vN vI x → x < W.heap.size → Fr B g v' vI x := fun x hx hl => ⟨hx.1, hx.2.1, fun e => by
    rcases hat with ha | ⟨k, hk, hk2⟩
    · exact hx.2.2.1 (e.trans ha)
    · rw [hk] at e; injection e with e; omega, hx.2.2.2⟩
  have hne : some g ≠ v'.ownBlock := fun e => by
    rcases hat with ha | ⟨k, hk, hk2⟩
    · exact h6 (e.trans ha)
    · rw [hk] at e; injection e with e; omega
  have hjs : JNs (Fr B g v' vI) W' ts hs := ((h5.weak (q := fun x => Fr B g vN vI x ∧ x < W.heap.size) (fun x hl hx => ⟨hx, hl⟩)).grown hg (fun x hx => hx.1.2.2.1)).weak (fun x _ hx => new x hx.1 hx.2)
  have hs2 := grown_set (Below.refl _ W') g 3 v'
  refine ⟨(h1.grown hg (fun k hk => by have := (h3.lt k hk).1; exact ⟨by omega, by omega⟩)).grown hs2 (fun k hk => by injection hk with hk; omega), Rv.set_cell1 3 v' h2', ?_, own_kept (own_other h4 h3 (by decide) hg) hs2 (fun k hk e => h7 (by rw [← e, hk])), hjs.grown hs2 (fun x hx e => by injection e with e; exact hx.2.1 e), hne, h7, h8, h9, h10⟩
  refine own_kept (v := v') ?_ hs2 (fun k hk e => hne (by rw [← e, hk]))
  rw [List.length_append]
  simpa [strs] using hown
/-- As a value that is done. -/
theorem St.done {A A2 : Option Addr} {c c2 : Nat} (h : St w0 b B g kk ns (.slice A ns.length c) vH (.slice A2 ts.length c2) ts hs W) : JN (fun x => B ≤ x) W (.mk kk 0 ⟨#[]⟩ ns ts) (.agg #[.int .i64 kk, .int .i64 0, .string ⟨#[]⟩, .slice A ns.length c, .slice A2 ts.length c2]) := by
  obtain ⟨h1, h2, h3, h4, h5, h6, h7, h8, h9, h10⟩ := h
  exact ⟨A, c, A2, c2, hs, rfl, (Rp.own h3).weak (fun x _ hx => hx.1), (Rp.own h4).weak (fun x _ hx => hx.1), h5.weak (fun x _ hx => hx.1)⟩
end
/-- The ghost of a region whose operation N alone turns what Pr speaks of. -/
def Jp (N : Nat) (Pr : World → Prop) (L : Nat → Bool) (f : Nat → Value) (w : World) : Prop := L N = false → Pr w
theorem Jp.loc {N s : Nat} (hN : N < s) {Pr : World → Prop} : ∀ (L L' : Nat → Bool) (f f' : Nat → Value) (w : World), (∀ k, k < s → L k = L' k) → (∀ k, k < s → f k = f' k) → Jp N Pr L f w → Jp N Pr L' f' w :=
  fun L L' f f' w h _ k h2 => k (by rw [h N hN]; exact h2)
theorem Jp.keep {N i : Nat} (hi : i ≠ N) {Pr : World → Prop} {w w' : World} {L : Nat → Bool} {f f' : Nat → Value} (h : Jp N Pr L f w) (hp : Pr w → Pr w') : Jp N Pr (Rv.put L i) f' w' := fun h2 =>
  hp (h (by unfold Rv.put at h2; rwa [if_neg (fun e => hi e.symm)] at h2))
theorem Jp.last {N : Nat} {Pr : World → Prop} {w : World} {L : Nat → Bool} {f : Nat → Value} : Jp N Pr (Rv.put L N) f w := fun h2 => by
  unfold Rv.put at h2
  rw [if_pos rfl] at h2
  cases h2
theorem info26 : (Tryz.prog.info? 26).map (fun i => (i.zero, i.size, i.bytes)) = some (some (.agg #[.int .i64 0, .int .i64 0, .string ⟨#[]⟩, .slice none 0 0, .slice none 0 0]), 5, 80) := by kernel_rfl
/-- A new node. -/
def Nd (E : Nat) (W : World) (t : J) (v : Value) : Prop := Wf t ∧ JN (fun x => E ≤ x) W t v
theorem Nd.below {E : Nat} {W W' : World} {t : J} {v : Value} (h : Nd E W t v) (hb : Below W.heap.size W W') : Nd E W' t v := ⟨h.1, h.2.below hb⟩
theorem five_cells {p : Nat → Prop} {W : World} {t : J} {v : Value} (h : JN p W t v) : ∃ a c d e f, v = .agg #[a, c, d, e, f] ∧ ∀ u ∈ [a, c, d, e, f], u.oneCell' = true := by
  obtain ⟨A, c, A2, c2, e, _⟩ := h.five
  exact ⟨_, _, _, _, _, e, by simp [Value.oneCell']⟩
end Go.Proofs.YtmelgankbegjaaaGreatDoor.Js

set_option linter.unusedVariables false
set_option linter.unusedSimpArgs false
namespace Go.Proofs.YtmelgankbegjaaaGreatDoor.Rv
open Go Go.RowKit
/-- As region_fin, what is told ahead of some operations (KA) apart from those that turn memory (KL). -/
theorem region_fin2 {P : Program} {id : Nat} {ops : Array Oper} {Q : Exit → Act → World → Prop} {a0 : Act} {w0 : World} (hm : P.follows .mixedOrders = true)
    (D : Array Nat) (G : Array (Option Bool)) (Good : Nat → (Nat → Value) → World → Prop) (K : Nat → Nat → Bool) (KL KA : Nat → Bool) (RelK : Nat → (Nat → Value) → World → World → Prop) (Tr TrA : World → Prop) (J : (Nat → Bool) → (Nat → Value) → World → Prop)
    (jloc : ∀ L L' f f' w, (∀ k, k < ops.size → L k = L' k) → (∀ k, k < ops.size → f k = f' k) → J L f w → J L' f' w)
    (loc : ∀ i f f' w, i < ops.size → f i = f' i → (∀ k, depends ops i k = true → f k = f' k) → Good i f w → Good i f' w)
    (mono : ∀ i j f w w', i < ops.size → j < ops.size → i ≠ j → K i j = false → depends ops j i = false → Good j f w → (KL i = true ∧ RelK i f w w') ∨ Below w.heap.size w w' → Good j f w')
    (hG : ∀ i (h : i < ops.size) g b, (ops[i]).guard = some (g, b) → ∀ f w, Good g f w → f g = gval (G.getD g none))
    (n : Nat) (hn : a0.tmps.size = n) (hchk : chk ops D n = true) (hgl : ∀ i (h : i < ops.size) g b, (ops[i]).guard = some (g, b) → alive ops K i g = true) (tr0 : Tr { w0 with drawn := w0.drawn + 1 }) (tra0 : TrA { w0 with drawn := w0.drawn + 1 }) (j0 : ∀ f, J (fun _ => false) f { w0 with drawn := w0.drawn + 1 })
    (skip : ∀ i (h : i < ops.size), runs G ops[i] = false → ∀ f w, f i = undef → Good i f w) (jskip : ∀ i (h : i < ops.size), runs G ops[i] = false → ∀ L f w, L i = false → J L f w → J (put L i) (upd f i undef) w)
    (step : ∀ i (h : i < ops.size) (a : Act) (w : World), runs G ops[i] = true → (∀ j, D.toList.contains j = false → a.tmps.getD j undef = a0.tmps.getD j undef) → (∀ k, k < ops.size → depends ops k i = true → a.tmps.getD (D.getD k 0) undef = a0.tmps.getD (D.getD k 0) undef) →
      (∀ k, ((ops[i]).after.toList.any fun e => e.on == k && Region.binds .any e) = true → alive ops K i k = true → Good k (vals D a) w) → Tr w → (ahead ops KA i = true → TrA w) → (∃ L : Nat → Bool, L i = false ∧ (∀ k, depends ops i k = true → L k = true) ∧ J L (vals D a) w) →
      (ops[i]).wp P a w (fun a' w' => ∃ v, a' = a.put (ops[i]).dst v ∧ Good i (upd (vals D a) i (slotv (ops[i]).dst v)) w' ∧ ((KL i = true ∧ RelK i (upd (vals D a) i (slotv (ops[i]).dst v)) w w') ∨ Below w.heap.size w w') ∧ Tr w' ∧ (KA i = false → TrA w → TrA w') ∧ (∀ L, L i = false → J L (vals D a) w → J (put L i) (upd (vals D a) i (slotv (ops[i]).dst v)) w')) Q)
    (done : ∀ (w : World) (f : Nat → Value), (∀ i, i < ops.size → dead ops K i = false → Good i f w) → Tr w → J (fun _ => true) f w → Q .normal (fin a0 ((List.range ops.size).map fun i => (D.getD i 0, f i))) w) :
    (Code.region id ops true).wp P Q a0 w0 := by
  have hchk0 := hchk
  unfold chk at hchk0
  rw [Bool.and_eq_true, decide_eq_true_iff, List.all_eq_true] at hchk0
  obtain ⟨hsz, hall⟩ := hchk0
  have hinj : ∀ i j, i < ops.size → j < ops.size → D.getD i 0 = D.getD j 0 → i = j := fun i j hi hj e => by
    have h1 := hall i (List.mem_range.2 hi)
    rw [Bool.and_eq_true] at h1
    have h2 := List.all_eq_true.1 h1.2 j (List.mem_range.2 hj)
    rw [e] at h2
    simpa using h2
  refine region_gen hm D G Good (fun i f w w' => (KL i = true ∧ RelK i f w w') ∨ Below w.heap.size w w') Tr K TrA KA J jloc loc mono hG n hn hchk hgl tr0 tra0 j0 (fun i h hr f w hf => ⟨skip i h hr f w hf, .inr (Below.refl _ _)⟩) jskip
    (fun i h a w hr hdf hbase hpre hdep htr hta hJ => step i h a w hr hbase hpre hdep htr hta hJ) (fun a w hs hdf hbase hg htr hJ => ?_)
  have hz : ∀ p ∈ (List.range ops.size).map fun i => (D.getD i 0, a.tmps.getD (D.getD i 0) undef), ∃ i, i < ops.size ∧ p.1 = D.getD i 0 ∧ p.2 = a.tmps.getD (D.getD i 0) undef := fun p hp => by
    obtain ⟨i, hi, rfl⟩ := List.mem_map.1 hp
    exact ⟨i, List.mem_range.1 hi, rfl, rfl⟩
  have e : a = fin a0 ((List.range ops.size).map fun i => (D.getD i 0, a.tmps.getD (D.getD i 0) undef)) := by
    have ht : a.tmps = (fin a0 ((List.range ops.size).map fun i => (D.getD i 0, a.tmps.getD (D.getD i 0) undef))).tmps := by
      refine tmps_ext (by rw [hs, fin_size, hn]) fun j hj => ?_
      rw [fin_size, hn] at hj
      by_cases hin : ∃ i, i < ops.size ∧ D.getD i 0 = j
      · obtain ⟨i, hi, rfl⟩ := hin
        refine (fin_in _ _ _ _ (by rw [hn]; exact hj) (fun p hp hpe => ?_) ⟨_, List.mem_map.2 ⟨i, List.mem_range.2 hi, rfl⟩, rfl⟩).symm
        obtain ⟨k, hk, h1, h2⟩ := hz p hp
        rw [h2, hinj k i hk hi (by rw [← h1, hpe])]
      · rw [fin_out _ _ _ (fun p hp e => by
          obtain ⟨k, hk, h1, _⟩ := hz p hp
          exact hin ⟨k, hk, by rw [← h1, e]⟩)]
        refine hbase j ?_
        rcases Bool.eq_false_or_eq_true (D.toList.contains j) with h | h
        · exfalso
          rw [List.contains_iff_mem] at h
          obtain ⟨i, hi, rfl⟩ := List.getElem_of_mem h
          have hi2 : i < D.size := by simpa using hi
          exact hin ⟨i, by omega, by rw [Array.getD_eq_getD_getElem?, Array.getElem?_eq_getElem hi2]; simp⟩
        · exact h
    have hd2 : a.defers = (fin a0 ((List.range ops.size).map fun i => (D.getD i 0, a.tmps.getD (D.getD i 0) undef))).defers := by rw [hdf, fin_defers]
    generalize hb2 : fin a0 ((List.range ops.size).map fun i => (D.getD i 0, a.tmps.getD (D.getD i 0) undef)) = b at *
    clear hb2
    cases a
    cases b
    simp only at ht hd2
    rw [ht, hd2]
  have hdone := done w (vals D a) hg htr hJ
  unfold vals at hdone
  rw [← e] at hdone
  exact hdone
end Go.Proofs.YtmelgankbegjaaaGreatDoor.Rv

/- Part e of the chain. Conditions: those written at each lemma. -/
import Derived.Test.YtmelgankbegjaaaGreatDoorGd
set_option linter.unusedVariables false
set_option linter.unusedSimpArgs false
set_option maxRecDepth 100000
set_option maxHeartbeats 8000000
namespace Go.Proofs.YtmelgankbegjaaaGreatDoor.Js
open Go.RowKit Go.Proofs.YtmelgankbegjaaaGreatDoor.B

theorem grown_above {X W W' : World} {r s : Option Nat} (h : X.grownBy W r) (hg : W.grownBy W' s) (hs : ∀ k, s = some k → X.heap.size ≤ k) : X.grownBy W' r :=
  ⟨hg.os.trans h.os, hg.tape.trans h.tape, hg.output.trans h.output, Nat.le_trans h.size hg.size, fun k hk hn => (hg.block k (Nat.lt_of_lt_of_le hk h.size) (fun e => by have := hs k e.symm; omega)).trans (h.block k hk hn)⟩
theorem te_eq (x : ByteArray) : x.toList.isEmpty = decide (x = ⟨#[]⟩) := by
  rw [← tl_eq, show (⟨#[]⟩ : ByteArray).toList = [] by decide +kernel]
  cases x.toList <;> rfl
theorem value_step (w0 w : World) (b : Nat) (hb : w0.heap.size ≤ b) (h : Mst w0 w b) (deep : Int) (hd0 : 0 ≤ deep) (hd6 : deep < 6) (IH : ∀ W, Mst w0 W b → Calls Tryz.prog 14 #[.pointer (some ⟨b, 0, none⟩), .int .i64 (deep + 1)] W fun e w' => VA w0 W w' b e) :
    Calls Tryz.prog 14 #[.pointer (some ⟨b, 0, none⟩), .int .i64 deep] w fun e w' => VA w0 w w' b e := by
  have IH := Lib.hid IH
  have BY := Lib.hid (fun W h => byte_any w0 W b hb h)
  have WO := Lib.hid (fun W h => word_any w0 W b hb h)
  have hbl := h.lt
  obtain ⟨A, n, c, left, xs, h1, h2, h3, h4⟩ := h
  obtain ⟨c0, c1⟩ := Rv.cells2 h1
  obtain ⟨f0, f1⟩ := Rv.frozen2 h1
  have HF := Lib.hid (fun l2 => show Mst w0 ((w.setCell ⟨b, 1, none⟩ (.int .i64 l2)).alloc jz) b ∧ w.grownBy ((w.setCell ⟨b, 1, none⟩ (.int .i64 l2)).alloc jz) (some b) ∧ ((w.setCell ⟨b, 1, none⟩ (.int .i64 l2)).alloc jz).heap[w.heap.size]? = some jz from by
    have e1 : (w.setCell ⟨b, 1, none⟩ (.int .i64 l2)).heap.size = w.heap.size := by simp
    have k1 := Rv.set_cell1 1 (.int .i64 l2) h1
    have hA : Below (w.setCell ⟨b, 1, none⟩ (.int .i64 l2)).heap.size (w.setCell ⟨b, 1, none⟩ (.int .i64 l2)) ((w.setCell ⟨b, 1, none⟩ (.int .i64 l2)).alloc jz) := (Below.refl _ _).alloc (Nat.le_refl _) _
    refine ⟨(Mst.less h1 h2 h3 h4 hb).below hA, grown_then (grown_set (Below.refl _ _) b 1 _) (grown_of_below hA _), ?_⟩
    have := heap_alloc_new (w.setCell ⟨b, 1, none⟩ (.int .i64 l2)) jz
    rwa [e1] at this)
  clear h1 h2 h3 h4
  go_enter Tryz.func14, Tryz.ntmps14
  go_upto_region 2 with fail
  obtain ⟨HM1, HG1, HR1⟩ := HF.out (wrap64 (left - 1))
  have hs1 := HG1.size
  have HM1 := Lib.hid HM1
  have HG1 := Lib.hid HG1
  have HR1 := Lib.hid HR1
  clear HF c0 c1 f0 f1
  generalize (w.setCell ⟨b, 1, none⟩ (.int .i64 (wrap64 (left - 1)))).alloc jz = w1 at *
  go_upto_region 3 with (go_at_call 15; (with_reducible refine (BY.out _ HM1.out).mono ?_); rintro e w2 ⟨x, rfl, hx0, hx1, hm, hg⟩; have HM2 := Lib.hid hm; have HG2 := Lib.hid (grown_then HG1.out hg); have HR2 := Lib.hid (blk_grown HR1.out hg (fun e => by injection e with e; omega)); clear hm hg)
  obtain ⟨left2, hb2⟩ : ∃ left2, w2.cell? ⟨b, 1, none⟩ = some (.int .i64 left2) := by
    obtain ⟨A', n', c', left', xs', k1, _⟩ := HM2.out
    exact ⟨left', (Rv.cells2 k1).2⟩
  have hbl2 := HM2.out.lt
  by_cases hl2 : left2 ≤ 0
  case pos =>
    go_upto_region 5 with fail
    clear hb2
    generalize hkk : x % 12 % 6 = k at *
    have hk0 : 0 ≤ k := by omega
    have hk5 : k ≤ 5 := by omega
    clear hkk
    rcases show k = 0 ∨ k = 1 ∨ k = 2 ∨ k = 3 ∨ k = 4 ∨ k = 5 by omega with rfl | rfl | rfl | rfl | rfl | rfl
    all_goals clear hk0 hk5
    · have hr := HR2.out
      obtain ⟨s0, s1, s2, s3, s4⟩ := Rv.cells5 hr
      obtain ⟨z0, z1, z2, z3, z4⟩ := Rv.frozen5 hr
      clear hr
      go_wp2
      obtain ⟨fm, fg, fr⟩ := fin5 HM2.out HG2.out HR2.out hbl hb (.int .i64 0) (.int .i64 (0)) (.string ⟨#[]⟩) (.slice none 0 0) (.slice none 0 0)
      obtain ⟨q0, q1, q2, q3, q4⟩ := Rv.cells5 fr
      have HFM := Lib.hid fm
      have HFG := Lib.hid fg
      clear fm fg fr s0 s1 s2 s3 s4 z0 z1 z2 z3 z4 HM2 HG2 HR2
      refine bodyPost_ret (v := .agg #[.int .i64 0, .int .i64 (0), .string ⟨#[]⟩, .slice none 0 0, .slice none 0 0]) ?_ rfl ⟨_, .mk 0 (0) ⟨#[]⟩ [] [], rfl, .inl ⟨rfl, rfl, rfl, rfl, rfl⟩, leafJ _ _ _ _ _, HFM.out, HFG.out⟩
      simp only [results, show Tryz.f14.results = #[.cell 4 26] by kernel_rfl]
      go_simp
    · go_wp2_with (go_at_call 15; (with_reducible refine (BY.out _ HM2.out).mono ?_); rintro e w3 ⟨y, rfl, hy0, hy1, hm, hg⟩; have HM3 := Lib.hid hm; have HG3 := Lib.hid (grown_then HG2.out hg); have hr := blk_grown HR2.out hg (fun e => by injection e with e; omega); have HR3 := Lib.hid hr; obtain ⟨s0, s1, s2, s3, s4⟩ := Rv.cells5 hr; obtain ⟨z0, z1, z2, z3, z4⟩ := Rv.frozen5 hr; clear hm hg hr)
      obtain ⟨fm, fg, fr⟩ := fin5 HM3.out HG3.out HR3.out hbl hb (.int .i64 1) (.int .i64 (y % 2)) (.string ⟨#[]⟩) (.slice none 0 0) (.slice none 0 0)
      obtain ⟨q0, q1, q2, q3, q4⟩ := Rv.cells5 fr
      have HFM := Lib.hid fm
      have HFG := Lib.hid fg
      clear fm fg fr s0 s1 s2 s3 s4 z0 z1 z2 z3 z4 HM3 HG3 HR3
      refine bodyPost_ret (v := .agg #[.int .i64 1, .int .i64 (y % 2), .string ⟨#[]⟩, .slice none 0 0, .slice none 0 0]) ?_ rfl ⟨_, .mk 1 (y % 2) ⟨#[]⟩ [] [], rfl, .inr (.inl ⟨rfl, by omega, rfl, rfl, rfl⟩), leafJ _ _ _ _ _, HFM.out, HFG.out⟩
      simp only [results, show Tryz.f14.results = #[.cell 4 26] by kernel_rfl]
      go_simp
    · go_wp2_with (go_at_call 15; (with_reducible refine (BY.out _ HM2.out).mono ?_); rintro e w3 ⟨y, rfl, hy0, hy1, hm, hg⟩; have HM3 := Lib.hid hm; have HG3 := Lib.hid (grown_then HG2.out hg); have hr := blk_grown HR2.out hg (fun e => by injection e with e; omega); have HR3 := Lib.hid hr; obtain ⟨s0, s1, s2, s3, s4⟩ := Rv.cells5 hr; obtain ⟨z0, z1, z2, z3, z4⟩ := Rv.frozen5 hr; clear hm hg hr)
      obtain ⟨fm, fg, fr⟩ := fin5 HM3.out HG3.out HR3.out hbl hb (.int .i64 2) (.int .i64 (wrap64 (IntKind.i8.wrap y))) (.string ⟨#[]⟩) (.slice none 0 0) (.slice none 0 0)
      obtain ⟨q0, q1, q2, q3, q4⟩ := Rv.cells5 fr
      have HFM := Lib.hid fm
      have HFG := Lib.hid fg
      clear fm fg fr s0 s1 s2 s3 s4 z0 z1 z2 z3 z4 HM3 HG3 HR3
      refine bodyPost_ret (v := .agg #[.int .i64 2, .int .i64 (wrap64 (IntKind.i8.wrap y)), .string ⟨#[]⟩, .slice none 0 0, .slice none 0 0]) ?_ rfl ⟨_, .mk 2 (wrap64 (IntKind.i8.wrap y)) ⟨#[]⟩ [] [], rfl, .inr (.inr (.inl ⟨rfl, (num2 y).1, (num2 y).2, rfl, rfl, rfl⟩)), leafJ _ _ _ _ _, HFM.out, HFG.out⟩
      simp only [results, show Tryz.f14.results = #[.cell 4 26] by kernel_rfl]
      go_simp
    · go_wp2_with (first
        | (go_at_call 15; (with_reducible refine (BY.out _ HM2.out).mono ?_); rintro e w3 ⟨y, rfl, hy0, hy1, hm, hg⟩; have HM3 := Lib.hid hm; have HG3 := Lib.hid (grown_then HG2.out hg); have hr := blk_grown HR2.out hg (fun e => by injection e with e; omega); have HR3 := Lib.hid hr; clear hm hg hr)
        | (go_at_call 15; (with_reducible refine (BY.out _ HM3.out).mono ?_); rintro e w4 ⟨y2, rfl, hy20, hy21, hm, hg⟩; have HM4 := Lib.hid hm; have HG4 := Lib.hid (grown_then HG3.out hg); have hr := blk_grown HR3.out hg (fun e => by injection e with e; omega); have HR4 := Lib.hid hr; clear hm hg hr)
        | (go_at_call 15; (with_reducible refine (BY.out _ HM4.out).mono ?_); rintro e w5 ⟨y3, rfl, hy30, hy31, hm, hg⟩; have HM5 := Lib.hid hm; have HG5 := Lib.hid (grown_then HG4.out hg); have hr := blk_grown HR4.out hg (fun e => by injection e with e; omega); have HR5 := Lib.hid hr; clear hm hg hr)
        | (go_at_call 15; (with_reducible refine (BY.out _ HM5.out).mono ?_); rintro e w6 ⟨y4, rfl, hy40, hy41, hm, hg⟩; have HM6 := Lib.hid hm; have HG6 := Lib.hid (grown_then HG5.out hg); have hr := blk_grown HR5.out hg (fun e => by injection e with e; omega); have HR6 := Lib.hid hr; obtain ⟨s0, s1, s2, s3, s4⟩ := Rv.cells5 hr; obtain ⟨z0, z1, z2, z3, z4⟩ := Rv.frozen5 hr; clear hm hg hr))
      obtain ⟨fm, fg, fr⟩ := fin5 HM6.out HG6.out HR6.out hbl hb (.int .i64 2) (.int .i64 (wrap64 (wrap64 (wrap64 (wrap64 (wrap64 (IntKind.i8.wrap y) * 16777216) + y2 * 65536) + y3 * 256) + y4))) (.string ⟨#[]⟩) (.slice none 0 0) (.slice none 0 0)
      obtain ⟨q0, q1, q2, q3, q4⟩ := Rv.cells5 fr
      have HFM := Lib.hid fm
      have HFG := Lib.hid fg
      clear fm fg fr s0 s1 s2 s3 s4 z0 z1 z2 z3 z4 HM6 HG6 HR6
      refine bodyPost_ret (v := .agg #[.int .i64 2, .int .i64 (wrap64 (wrap64 (wrap64 (wrap64 (wrap64 (IntKind.i8.wrap y) * 16777216) + y2 * 65536) + y3 * 256) + y4)), .string ⟨#[]⟩, .slice none 0 0, .slice none 0 0]) ?_ rfl ⟨_, .mk 2 (wrap64 (wrap64 (wrap64 (wrap64 (wrap64 (IntKind.i8.wrap y) * 16777216) + y2 * 65536) + y3 * 256) + y4)) ⟨#[]⟩ [] [], rfl, .inr (.inr (.inl ⟨rfl, (num3 y y2 y3 y4 ⟨hy20, hy21⟩ ⟨hy30, hy31⟩ ⟨hy40, hy41⟩).1, (num3 y y2 y3 y4 ⟨hy20, hy21⟩ ⟨hy30, hy31⟩ ⟨hy40, hy41⟩).2, rfl, rfl, rfl⟩)), leafJ _ _ _ _ _, HFM.out, HFG.out⟩
      simp only [results, show Tryz.f14.results = #[.cell 4 26] by kernel_rfl]
      go_simp
    · go_wp2_with (go_at_call 16; (with_reducible refine (WO.out _ HM2.out).mono ?_); rintro e w3 ⟨y, rfl, hy0, hm, hg⟩; have HM3 := Lib.hid hm; have HG3 := Lib.hid (grown_then HG2.out hg); have hr := blk_grown HR2.out hg (fun e => by injection e with e; omega); have HR3 := Lib.hid hr; obtain ⟨s0, s1, s2, s3, s4⟩ := Rv.cells5 hr; obtain ⟨z0, z1, z2, z3, z4⟩ := Rv.frozen5 hr; clear hm hg hr)
      obtain ⟨fm, fg, fr⟩ := fin5 HM3.out HG3.out HR3.out hbl hb (.int .i64 3) (.int .i64 (0)) (.string y) (.slice none 0 0) (.slice none 0 0)
      obtain ⟨q0, q1, q2, q3, q4⟩ := Rv.cells5 fr
      have HFM := Lib.hid fm
      have HFG := Lib.hid fg
      clear fm fg fr s0 s1 s2 s3 s4 z0 z1 z2 z3 z4 HM3 HG3 HR3
      refine bodyPost_ret (v := .agg #[.int .i64 3, .int .i64 (0), .string y, .slice none 0 0, .slice none 0 0]) ?_ rfl ⟨_, .mk 3 (0) y [] [], rfl, .inr (.inr (.inr (.inl ⟨rfl, rfl, hy0, rfl, rfl⟩))), leafJ _ _ _ _ _, HFM.out, HFG.out⟩
      simp only [results, show Tryz.f14.results = #[.cell 4 26] by kernel_rfl]
      go_simp
    · go_wp2_with (go_at_call 16; (with_reducible refine (WO.out _ HM2.out).mono ?_); rintro e w3 ⟨y, rfl, hy0, hm, hg⟩; have HM3 := Lib.hid hm; have HG3 := Lib.hid (grown_then HG2.out hg); have hr := blk_grown HR2.out hg (fun e => by injection e with e; omega); have HR3 := Lib.hid hr; obtain ⟨s0, s1, s2, s3, s4⟩ := Rv.cells5 hr; obtain ⟨z0, z1, z2, z3, z4⟩ := Rv.frozen5 hr; clear hm hg hr)
      obtain ⟨fm, fg, fr⟩ := fin5 HM3.out HG3.out HR3.out hbl hb (.int .i64 3) (.int .i64 (0)) (.string y) (.slice none 0 0) (.slice none 0 0)
      obtain ⟨q0, q1, q2, q3, q4⟩ := Rv.cells5 fr
      have HFM := Lib.hid fm
      have HFG := Lib.hid fg
      clear fm fg fr s0 s1 s2 s3 s4 z0 z1 z2 z3 z4 HM3 HG3 HR3
      refine bodyPost_ret (v := .agg #[.int .i64 3, .int .i64 (0), .string y, .slice none 0 0, .slice none 0 0]) ?_ rfl ⟨_, .mk 3 (0) y [] [], rfl, .inr (.inr (.inr (.inl ⟨rfl, rfl, hy0, rfl, rfl⟩))), leafJ _ _ _ _ _, HFM.out, HFG.out⟩
      simp only [results, show Tryz.f14.results = #[.cell 4 26] by kernel_rfl]
      go_simp
  case neg =>
    go_upto_region 5 with fail
    clear hb2
    have hx12 : 0 ≤ x % 12 ∧ x % 12 < 12 := ⟨Int.emod_nonneg _ (by omega), Int.emod_lt_of_pos _ (by omega)⟩
    generalize x % 12 = k at *
    by_cases hk6 : k < 6
    case pos =>
      have hk0 : 0 ≤ k := hx12.1
      have hk5 : k ≤ 5 := by omega
      clear hx12 hk6
      rcases show k = 0 ∨ k = 1 ∨ k = 2 ∨ k = 3 ∨ k = 4 ∨ k = 5 by omega with rfl | rfl | rfl | rfl | rfl | rfl
      all_goals clear hk0 hk5
      · have hr := HR2.out
        obtain ⟨s0, s1, s2, s3, s4⟩ := Rv.cells5 hr
        obtain ⟨z0, z1, z2, z3, z4⟩ := Rv.frozen5 hr
        clear hr
        go_wp2
        obtain ⟨fm, fg, fr⟩ := fin5 HM2.out HG2.out HR2.out hbl hb (.int .i64 0) (.int .i64 (0)) (.string ⟨#[]⟩) (.slice none 0 0) (.slice none 0 0)
        obtain ⟨q0, q1, q2, q3, q4⟩ := Rv.cells5 fr
        have HFM := Lib.hid fm
        have HFG := Lib.hid fg
        clear fm fg fr s0 s1 s2 s3 s4 z0 z1 z2 z3 z4 HM2 HG2 HR2
        refine bodyPost_ret (v := .agg #[.int .i64 0, .int .i64 (0), .string ⟨#[]⟩, .slice none 0 0, .slice none 0 0]) ?_ rfl ⟨_, .mk 0 (0) ⟨#[]⟩ [] [], rfl, .inl ⟨rfl, rfl, rfl, rfl, rfl⟩, leafJ _ _ _ _ _, HFM.out, HFG.out⟩
        simp only [results, show Tryz.f14.results = #[.cell 4 26] by kernel_rfl]
        go_simp
      · go_wp2_with (go_at_call 15; (with_reducible refine (BY.out _ HM2.out).mono ?_); rintro e w3 ⟨y, rfl, hy0, hy1, hm, hg⟩; have HM3 := Lib.hid hm; have HG3 := Lib.hid (grown_then HG2.out hg); have hr := blk_grown HR2.out hg (fun e => by injection e with e; omega); have HR3 := Lib.hid hr; obtain ⟨s0, s1, s2, s3, s4⟩ := Rv.cells5 hr; obtain ⟨z0, z1, z2, z3, z4⟩ := Rv.frozen5 hr; clear hm hg hr)
        obtain ⟨fm, fg, fr⟩ := fin5 HM3.out HG3.out HR3.out hbl hb (.int .i64 1) (.int .i64 (y % 2)) (.string ⟨#[]⟩) (.slice none 0 0) (.slice none 0 0)
        obtain ⟨q0, q1, q2, q3, q4⟩ := Rv.cells5 fr
        have HFM := Lib.hid fm
        have HFG := Lib.hid fg
        clear fm fg fr s0 s1 s2 s3 s4 z0 z1 z2 z3 z4 HM3 HG3 HR3
        refine bodyPost_ret (v := .agg #[.int .i64 1, .int .i64 (y % 2), .string ⟨#[]⟩, .slice none 0 0, .slice none 0 0]) ?_ rfl ⟨_, .mk 1 (y % 2) ⟨#[]⟩ [] [], rfl, .inr (.inl ⟨rfl, by omega, rfl, rfl, rfl⟩), leafJ _ _ _ _ _, HFM.out, HFG.out⟩
        simp only [results, show Tryz.f14.results = #[.cell 4 26] by kernel_rfl]
        go_simp
      · go_wp2_with (go_at_call 15; (with_reducible refine (BY.out _ HM2.out).mono ?_); rintro e w3 ⟨y, rfl, hy0, hy1, hm, hg⟩; have HM3 := Lib.hid hm; have HG3 := Lib.hid (grown_then HG2.out hg); have hr := blk_grown HR2.out hg (fun e => by injection e with e; omega); have HR3 := Lib.hid hr; obtain ⟨s0, s1, s2, s3, s4⟩ := Rv.cells5 hr; obtain ⟨z0, z1, z2, z3, z4⟩ := Rv.frozen5 hr; clear hm hg hr)
        obtain ⟨fm, fg, fr⟩ := fin5 HM3.out HG3.out HR3.out hbl hb (.int .i64 2) (.int .i64 (wrap64 (IntKind.i8.wrap y))) (.string ⟨#[]⟩) (.slice none 0 0) (.slice none 0 0)
        obtain ⟨q0, q1, q2, q3, q4⟩ := Rv.cells5 fr
        have HFM := Lib.hid fm
        have HFG := Lib.hid fg
        clear fm fg fr s0 s1 s2 s3 s4 z0 z1 z2 z3 z4 HM3 HG3 HR3
        refine bodyPost_ret (v := .agg #[.int .i64 2, .int .i64 (wrap64 (IntKind.i8.wrap y)), .string ⟨#[]⟩, .slice none 0 0, .slice none 0 0]) ?_ rfl ⟨_, .mk 2 (wrap64 (IntKind.i8.wrap y)) ⟨#[]⟩ [] [], rfl, .inr (.inr (.inl ⟨rfl, (num2 y).1, (num2 y).2, rfl, rfl, rfl⟩)), leafJ _ _ _ _ _, HFM.out, HFG.out⟩
        simp only [results, show Tryz.f14.results = #[.cell 4 26] by kernel_rfl]
        go_simp
      · go_wp2_with (first
          | (go_at_call 15; (with_reducible refine (BY.out _ HM2.out).mono ?_); rintro e w3 ⟨y, rfl, hy0, hy1, hm, hg⟩; have HM3 := Lib.hid hm; have HG3 := Lib.hid (grown_then HG2.out hg); have hr := blk_grown HR2.out hg (fun e => by injection e with e; omega); have HR3 := Lib.hid hr; clear hm hg hr)
          | (go_at_call 15; (with_reducible refine (BY.out _ HM3.out).mono ?_); rintro e w4 ⟨y2, rfl, hy20, hy21, hm, hg⟩; have HM4 := Lib.hid hm; have HG4 := Lib.hid (grown_then HG3.out hg); have hr := blk_grown HR3.out hg (fun e => by injection e with e; omega); have HR4 := Lib.hid hr; clear hm hg hr)
          | (go_at_call 15; (with_reducible refine (BY.out _ HM4.out).mono ?_); rintro e w5 ⟨y3, rfl, hy30, hy31, hm, hg⟩; have HM5 := Lib.hid hm; have HG5 := Lib.hid (grown_then HG4.out hg); have hr := blk_grown HR4.out hg (fun e => by injection e with e; omega); have HR5 := Lib.hid hr; clear hm hg hr)
          | (go_at_call 15; (with_reducible refine (BY.out _ HM5.out).mono ?_); rintro e w6 ⟨y4, rfl, hy40, hy41, hm, hg⟩; have HM6 := Lib.hid hm; have HG6 := Lib.hid (grown_then HG5.out hg); have hr := blk_grown HR5.out hg (fun e => by injection e with e; omega); have HR6 := Lib.hid hr; obtain ⟨s0, s1, s2, s3, s4⟩ := Rv.cells5 hr; obtain ⟨z0, z1, z2, z3, z4⟩ := Rv.frozen5 hr; clear hm hg hr))
        obtain ⟨fm, fg, fr⟩ := fin5 HM6.out HG6.out HR6.out hbl hb (.int .i64 2) (.int .i64 (wrap64 (wrap64 (wrap64 (wrap64 (wrap64 (IntKind.i8.wrap y) * 16777216) + y2 * 65536) + y3 * 256) + y4))) (.string ⟨#[]⟩) (.slice none 0 0) (.slice none 0 0)
        obtain ⟨q0, q1, q2, q3, q4⟩ := Rv.cells5 fr
        have HFM := Lib.hid fm
        have HFG := Lib.hid fg
        clear fm fg fr s0 s1 s2 s3 s4 z0 z1 z2 z3 z4 HM6 HG6 HR6
        refine bodyPost_ret (v := .agg #[.int .i64 2, .int .i64 (wrap64 (wrap64 (wrap64 (wrap64 (wrap64 (IntKind.i8.wrap y) * 16777216) + y2 * 65536) + y3 * 256) + y4)), .string ⟨#[]⟩, .slice none 0 0, .slice none 0 0]) ?_ rfl ⟨_, .mk 2 (wrap64 (wrap64 (wrap64 (wrap64 (wrap64 (IntKind.i8.wrap y) * 16777216) + y2 * 65536) + y3 * 256) + y4)) ⟨#[]⟩ [] [], rfl, .inr (.inr (.inl ⟨rfl, (num3 y y2 y3 y4 ⟨hy20, hy21⟩ ⟨hy30, hy31⟩ ⟨hy40, hy41⟩).1, (num3 y y2 y3 y4 ⟨hy20, hy21⟩ ⟨hy30, hy31⟩ ⟨hy40, hy41⟩).2, rfl, rfl, rfl⟩)), leafJ _ _ _ _ _, HFM.out, HFG.out⟩
        simp only [results, show Tryz.f14.results = #[.cell 4 26] by kernel_rfl]
        go_simp
      · go_wp2_with (go_at_call 16; (with_reducible refine (WO.out _ HM2.out).mono ?_); rintro e w3 ⟨y, rfl, hy0, hm, hg⟩; have HM3 := Lib.hid hm; have HG3 := Lib.hid (grown_then HG2.out hg); have hr := blk_grown HR2.out hg (fun e => by injection e with e; omega); have HR3 := Lib.hid hr; obtain ⟨s0, s1, s2, s3, s4⟩ := Rv.cells5 hr; obtain ⟨z0, z1, z2, z3, z4⟩ := Rv.frozen5 hr; clear hm hg hr)
        obtain ⟨fm, fg, fr⟩ := fin5 HM3.out HG3.out HR3.out hbl hb (.int .i64 3) (.int .i64 (0)) (.string y) (.slice none 0 0) (.slice none 0 0)
        obtain ⟨q0, q1, q2, q3, q4⟩ := Rv.cells5 fr
        have HFM := Lib.hid fm
        have HFG := Lib.hid fg
        clear fm fg fr s0 s1 s2 s3 s4 z0 z1 z2 z3 z4 HM3 HG3 HR3
        refine bodyPost_ret (v := .agg #[.int .i64 3, .int .i64 (0), .string y, .slice none 0 0, .slice none 0 0]) ?_ rfl ⟨_, .mk 3 (0) y [] [], rfl, .inr (.inr (.inr (.inl ⟨rfl, rfl, hy0, rfl, rfl⟩))), leafJ _ _ _ _ _, HFM.out, HFG.out⟩
        simp only [results, show Tryz.f14.results = #[.cell 4 26] by kernel_rfl]
        go_simp
      · go_wp2_with (go_at_call 16; (with_reducible refine (WO.out _ HM2.out).mono ?_); rintro e w3 ⟨y, rfl, hy0, hm, hg⟩; have HM3 := Lib.hid hm; have HG3 := Lib.hid (grown_then HG2.out hg); have hr := blk_grown HR2.out hg (fun e => by injection e with e; omega); have HR3 := Lib.hid hr; obtain ⟨s0, s1, s2, s3, s4⟩ := Rv.cells5 hr; obtain ⟨z0, z1, z2, z3, z4⟩ := Rv.frozen5 hr; clear hm hg hr)
        obtain ⟨fm, fg, fr⟩ := fin5 HM3.out HG3.out HR3.out hbl hb (.int .i64 3) (.int .i64 (0)) (.string y) (.slice none 0 0) (.slice none 0 0)
        obtain ⟨q0, q1, q2, q3, q4⟩ := Rv.cells5 fr
        have HFM := Lib.hid fm
        have HFG := Lib.hid fg
        clear fm fg fr s0 s1 s2 s3 s4 z0 z1 z2 z3 z4 HM3 HG3 HR3
        refine bodyPost_ret (v := .agg #[.int .i64 3, .int .i64 (0), .string y, .slice none 0 0, .slice none 0 0]) ?_ rfl ⟨_, .mk 3 (0) y [] [], rfl, .inr (.inr (.inr (.inl ⟨rfl, rfl, hy0, rfl, rfl⟩))), leafJ _ _ _ _ _, HFM.out, HFG.out⟩
        simp only [results, show Tryz.f14.results = #[.cell 4 26] by kernel_rfl]
        go_simp
    case neg =>
      have hs2 := HG2.out.size
      by_cases h9 : 9 ≤ k
      · go_upto_region 19 with fail
        have hR2 := Rv.lt_of_blk HR2.out
        have hal := (Below.refl w2.heap.size w2).alloc (Nat.le_refl _) (.cells #[.int .i64 5, .int .i64 0, .string ⟨#[]⟩, .slice none 0 0, .slice none 0 0] 26)
        have HS3 := Lib.hid (show St w0 b (w.heap.size + 1) w2.heap.size 5 [] (.slice none 0 0) (.slice none 0 0) (.slice none 0 0) [] [] (w2.alloc (.cells #[.int .i64 5, .int .i64 0, .string ⟨#[]⟩, .slice none 0 0, .slice none 0 0] 26)) from
          ⟨HM2.out.below hal, heap_alloc_new _ _, World.ownsRow_nil _ _ _ _, World.ownsRow_nil _ _ _ _, rfl, (by simp [Value.ownBlock]), (by simp [Value.ownBlock]), hR2, by omega, hb⟩)
        have HG3 := Lib.hid (show (w.grownBy (w2.alloc (.cells #[.int .i64 5, .int .i64 0, .string ⟨#[]⟩, .slice none 0 0, .slice none 0 0] 26)) (some b) ∧ (w2.alloc (.cells #[.int .i64 5, .int .i64 0, .string ⟨#[]⟩, .slice none 0 0, .slice none 0 0] 26)).heap[w.heap.size]? = some jz) from ⟨grown_then HG2.out (grown_of_below hal _), (hal.block _ hR2).trans HR2.out⟩)
        clear hal HR1 HR2 HG1 HG2 HM1 HM2 hs1 hs2
        generalize w2.alloc (.cells #[.int .i64 5, .int .i64 0, .string ⟨#[]⟩, .slice none 0 0, .slice none 0 0] 26) = w3 at *
        generalize w2.heap.size = g at *
        go_upto_region 20 with (go_at_call 15; ((with_reducible refine (BY.out _ HS3.out.mst).mono ?_); rintro e w4 ⟨y, rfl, hy0, hy1, hm, hg⟩; have HS4 := Lib.hid (HS3.out.call hg hm); have HG4 := Lib.hid (show (w.grownBy w4 (some b) ∧ w4.heap[w.heap.size]? = some jz) from ⟨grown_then HG3.out.1 hg, blk_grown HG3.out.2 hg (fun e => by injection e with e; omega)⟩); clear hm hg))
        have hn5 : 0 ≤ y % 5 ∧ y % 5 < 5 := ⟨Int.emod_nonneg _ (by omega), Int.emod_lt_of_pos _ (by omega)⟩
        generalize y % 5 = n0 at *
        clear HS3 HG3
        go_loopw [8, 9] (fun v8 v9 wr => ∃ (n : Int) (ns : List ByteArray) (A : Option Addr) (c : Nat) (A2 : Option Addr) (c2 : Nat) (ts : List J) (hs : List Value), v8 = .int .i64 n ∧ 0 ≤ n ∧ ts.length + n ≤ 4 ∧ Hid (St w0 b (w.heap.size + 1) g 5 ns (.slice A ns.length c) (.slice A2 ts.length c2) (.slice A2 ts.length c2) ts hs wr) ∧ Hid (w.grownBy wr (some b) ∧ wr.heap[w.heap.size]? = some jz) ∧ Hid (Wfs ts) ∧ Hid (ns.length = ts.length ∧ ns.Nodup ∧ ∀ x ∈ ns, Wd x ∧ x ≠ .empty)) (fun v8 _ _ => (intOf v8).toNat)
        case atStart => exact ⟨n0, [], none, 0, none, 0, [], [], rfl, hn5.1, by simp; omega, HS4, HG4, Lib.hid trivial, Lib.hid (⟨rfl, .nil, fun x hx => by cases hx⟩)⟩
        case round =>
          obtain ⟨n, ns, A, c, A2, c2, ts, hs, rfl, hn0, hn4, HS, HGR, HW, HN⟩ := hrel
          clear HS4 HG4
          by_cases hlt : 0 < n
          · obtain ⟨q0, q1, q2, q3, q4⟩ := Rv.cells5 HS.out.blk
            go_upto_region 24 with (go_at_call 16; (with_reducible refine (WO.out _ HS.out.mst).mono ?_); rintro e w5 ⟨x, rfl, hx0, hm, hg⟩; have HS5 := Lib.hid (HS.out.call hg hm); have HG5 := Lib.hid (show (w.grownBy w5 (some b) ∧ w5.heap[w.heap.size]? = some jz) from ⟨grown_then HGR.out.1 hg, blk_grown HGR.out.2 hg (fun e => by injection e with e; omega)⟩); clear hm hg)
            clear q0 q1 q2 q3 q4 HS HGR
            obtain ⟨q0, q1, q2, q3, q4⟩ := Rv.cells5 HS5.out.blk
            have AT := Lib.hid (at_any (.mk 5 0 ⟨#[]⟩ ns ts) _ _ x _ HS5.out.done (by have := HN.out.1; show ns.length ≤ 1000000; omega))
            have HI := Lib.hid (idx_range (x := x) (l := ns) (i := 0) (Int.le_refl 0))
            have HID := Lib.hid (rfl : idx x ns 0 = idx x ns 0)
            generalize hz : idx x ns 0 = z at HI
            have AT := Lib.hid (show Calls Tryz.prog 26 #[.agg #[.int .i64 5, .int .i64 0, .string ⟨#[]⟩, .slice A ns.length c, .slice A2 ts.length c2], .string x] w5 fun e w' => e = .returned (.int .i64 z) ∧ Below w5.heap.size w5 w' from by rw [← hz]; exact AT.out)
            clear hz HID
            by_cases hz0 : 0 ≤ z
            · go_upto_region 21 with (go_at_call 26; ((with_reducible refine AT.out.mono ?_); rintro e w6 ⟨rfl, hb6⟩; have HS6 := Lib.hid (HS5.out.below hb6); have HGX6 := Lib.hid (show (w.grownBy w6 (some b) ∧ w6.heap[w.heap.size]? = some jz) from ⟨grown_then HG5.out.1 (grown_of_below hb6 _), (hb6.block _ (Rv.lt_of_blk HG5.out.2)).trans HG5.out.2⟩); clear hb6))
              clear q0 q1 q2 q3 q4
              go_wp2
              go_roundw
              case rel => exact ⟨n - 1, ns, A, c, A2, c2, ts, hs, by go_num, by omega, by omega, HS6, HGX6, HW, HN⟩
              case measure => simp [intOf]; omega
            · obtain ⟨rfl, hnx⟩ : z = -1 ∧ x ∉ ns := by
                rcases HI.out with h | ⟨k, h, _⟩
                · exact h
                · exact absurd (by omega : 0 ≤ z) hz0
              have hne := te_eq x
              by_cases hxe : x = ⟨#[]⟩
              · rw [decide_eq_true hxe] at hne
                clear hxe
                go_upto_region 21 with (go_at_call 26; ((with_reducible refine AT.out.mono ?_); rintro e w6 ⟨rfl, hb6⟩; have HS6 := Lib.hid (HS5.out.below hb6); have HGX6 := Lib.hid (show (w.grownBy w6 (some b) ∧ w6.heap[w.heap.size]? = some jz) from ⟨grown_then HG5.out.1 (grown_of_below hb6 _), (hb6.block _ (Rv.lt_of_blk HG5.out.2)).trans HG5.out.2⟩); clear hb6))
                clear q0 q1 q2 q3 q4
                go_wp2
                go_roundw
                case rel => exact ⟨n - 1, ns, A, c, A2, c2, ts, hs, by go_num, by omega, by omega, HS6, HGX6, HW, HN⟩
                case measure => simp [intOf]; omega
              · rw [decide_eq_false hxe] at hne
                have HXE := Lib.hid hxe
                have HNX := Lib.hid hnx
                clear hxe hnx
                go_upto_region 25 with (go_at_call 26; ((with_reducible refine AT.out.mono ?_); rintro e w6 ⟨rfl, hb6⟩; have HS6 := Lib.hid (HS5.out.below hb6); have HGX6 := Lib.hid (show (w.grownBy w6 (some b) ∧ w6.heap[w.heap.size]? = some jz) from ⟨grown_then HG5.out.1 (grown_of_below hb6 _), (hb6.block _ (Rv.lt_of_blk HG5.out.2)).trans HG5.out.2⟩); clear hb6))
                clear q0 q1 q2 q3 q4
                obtain ⟨q0, q1, q2, q3, q4⟩ := Rv.cells5 HS6.out.blk
                have h6s := Rv.lt_of_blk HGX6.out.2
                go_upto_region 26 with (at_builtin; refine app1 (w0 := w6) (w.heap.size + 1) rfl (.tmp 97) (.tmp 99) 23 9 (.string ⟨#[]⟩) 1 16 rfl Tryz.underlying23 info9 rfl (by omega) (by omega) _ _ _ _ rfl rfl rfl (by intro u hu; simp at hu; subst hu; rfl) HS6.out.rowN (Below.refl _ _) (by omega) (by have := HN.out.1; omega) ?_; intro v7 w7 hown7 _ hg7 hat7; obtain ⟨A7, c7, rfl, _⟩ := (Rd.of_own hown7).shape; obtain ⟨hb7, hs7⟩ := HS6.out.name hown7 hg7 hat7; obtain ⟨p0, p1, p2, p3, p4⟩ := Rv.cells5 hb7; obtain ⟨z0, z1, z2, z3, z4⟩ := Rv.frozen5 hb7; have HS7 := Lib.hid hs7; have HG7 := Lib.hid (show (w.grownBy (w7.setCell ⟨g, 3, none⟩ (.slice A7 (ns.length + 1) c7)) (some b) ∧ (w7.setCell ⟨g, 3, none⟩ (.slice A7 (ns.length + 1) c7)).heap[w.heap.size]? = some jz) from ⟨grown_new (grown_above HGX6.out.1 hg7 (fun k hk => by have := (HS6.out.rowN.lt k hk).1; omega)) (by have := HS6.out.geB; omega) _ _, blk_grown (blk_grown HGX6.out.2 hg7 (fun e => by have := (HS6.out.rowN.lt _ e.symm).1; omega)) (grown_set (Below.refl _ _) g 3 _) (fun e => by injection e with e; have := HS6.out.geB; omega)⟩); clear hown7 hg7 hat7 hb7 hs7)
                clear q0 q1 q2 q3 q4 p0 p1 p2 p3 p4 z0 z1 z2 z3 z4 HS6 HGX6 HS5 HG5
                have HN7 := Lib.hid (show (ns ++ [x]).length = ts.length + 1 ∧ (ns ++ [x]).Nodup ∧ ∀ y ∈ ns ++ [x], Wd y ∧ y ≠ .empty from ⟨by simpa using HN.out.1, by
                  rw [List.nodup_append]
                  exact ⟨HN.out.2.1, by simp, fun u hu y hy e => HNX.out (by rw [List.mem_singleton.1 hy] at e; rw [← e]; exact hu)⟩, fun y hy => by
                  rcases List.mem_append.1 hy with hy | hy
                  · exact HN.out.2.2 y hy
                  · rw [List.mem_singleton.1 hy]; exact ⟨hx0, HXE.out⟩⟩)
                have HSX := Lib.hid (show St w0 b (w.heap.size + 1) g 5 (ns ++ [x]) (.slice A7 (ns ++ [x]).length c7) (.slice A2 ts.length c2) (.slice A2 ts.length c2) ts hs (w7.setCell ⟨g, 3, none⟩ (.slice A7 (ns.length + 1) c7)) from by rw [List.length_append]; exact HS7.out)
                have HGX0 := HG7
                clear HS7 HG7 hne HNX HXE HI AT hz0 hx0
                generalize w7.setCell ⟨g, 3, none⟩ (.slice A7 (ns.length + 1) c7) = X at *
                have hl7 : ns.length + 1 = (ns ++ [x]).length := by simp
                rw [hl7]
                clear hl7 HN
                generalize ns ++ [x] = ns at *
                rename_i A0 c0
                clear A0 c0
                generalize hVN : Value.slice A7 ns.length c7 = VN at *
                generalize hVI : Value.slice A2 ts.length c2 = VI at *
                have hsX : w.heap.size + 1 ≤ X.heap.size := Rv.lt_of_blk HGX0.out.2
                have hgB : w.heap.size + 1 ≤ g := HSX.out.geB
                have HGX : g < X.heap.size := Rv.lt_of_blk HSX.out.blk
                have HNX := Lib.hid (fun k (hk : VN.ownBlock = some k) => (HSX.out.rowN.lt k hk).2)
                have HIX := Lib.hid (fun k (hk : VI.ownBlock = some k) => (HSX.out.rowI.lt k hk).2)
                have hX0 : Below X.heap.size X { X with drawn := X.drawn + 1 } := (Below.refl _ _).drew
                have TRA0 := Lib.hid (show (fun W => St w0 b (w.heap.size + 1) g 5 ns VN VI VI ts hs W ∧ (w.grownBy W (some b) ∧ W.heap[w.heap.size]? = some jz)) { X with drawn := X.drawn + 1 } from show _ ∧ _ from ⟨HSX.out.below hX0, grown_then HGX0.out.1 (grown_of_below hX0 _), (hX0.block _ (Rv.lt_of_blk HGX0.out.2)).trans HGX0.out.2⟩)
                have hlen : ts.length ≤ 4 := by omega
                have HWR := Lib.hid (show IntKind.i64.wrap (deep + 1) = deep + 1 from by rw [IntKind.wrap_i64]; omega)
                refine Rv.region_fin2 (n := 112) (by kernel_rfl) #[102, 103, 104, 105, 106, 107, 108, 109, 110, 1009] #[] (fun i f W => if i = 9 then (fun f W => ∃ (A9 : Option Addr) (c9 : Nat) (v : Value) (t : J), f 7 = .slice A9 (ts.length + 1) c9 ∧ Wf t ∧ St w0 b (w.heap.size + 1) g 5 ns VN (.slice A9 (ts.length + 1) c9) (.slice A9 (ts.length + 1) c9) (ts ++ [t]) (hs ++ [v]) W ∧ (w.grownBy W (some b) ∧ W.heap[w.heap.size]? = some jz)) f W else if i = 7 then (fun f W => ∃ (A9 : Option Addr) (c9 : Nat) (v : Value) (t : J), f 7 = .slice A9 (ts.length + 1) c9 ∧ Wf t ∧ St w0 b (w.heap.size + 1) g 5 ns VN VI (.slice A9 (ts.length + 1) c9) (ts ++ [t]) (hs ++ [v]) W ∧ (w.grownBy W (some b) ∧ W.heap[w.heap.size]? = some jz)) f W else if i = 6 then (fun f W => ∃ (gl : Nat) (v : Value) (t : J), f 6 = .slice (some ⟨gl, 0, none⟩) 1 1 ∧ Rd W 5 (.slice (some ⟨gl, 0, none⟩) 1 1) 1 v.cells.toList ∧ Nd X.heap.size W t v) f W else if i = 5 then (fun f W => ∃ t : J, Nd X.heap.size W t (f 5)) f W else f i = (#[.pointer (some ⟨g, 4, none⟩), VI, .pointer (some ⟨b, 0, none⟩), .int .i64 deep, .int .i64 (deep + 1), undef, undef, undef, .pointer (some ⟨g, 4, none⟩), undef] : Array Value).getD i undef) (fun i j => (i == 7 && (j == 5 || j == 6)) || (i == 9 && (j == 5 || j == 6 || j == 7))) (fun i => i == 5 || i == 7 || i == 9) (fun i => i == 7 || i == 9) (fun i f W W' => True) (fun W => X.heap.size ≤ W.heap.size) (fun W => St w0 b (w.heap.size + 1) g 5 ns VN VI VI ts hs W ∧ (w.grownBy W (some b) ∧ W.heap[w.heap.size]? = some jz)) (fun _ _ _ => True) (fun _ _ _ _ _ _ _ _ => trivial) (fun i f f' w hi h hd hg => ?_) (fun i j f w w' hi hj hij hK hdp h hr => ?_) (fun i h g b hg => ?_) rfl (by kernel_rfl) (fun i h g b hg => ?_) (Nat.le_refl _) (TRA0.out) (fun _ => trivial) (fun i h hr f w hf => ?_) (fun _ _ _ _ _ _ _ _ => trivial) ?_ ?_
                · by_cases hi1009 : i = 9
                  · subst hi1009
                    rw [if_pos rfl] at hg ⊢
                    obtain ⟨A9, c9, v, t, q1, q2⟩ := hg
                    exact ⟨A9, c9, v, t, (hd 7 rfl).symm.trans q1, q2⟩
                  rw [if_neg hi1009] at hg ⊢
                  by_cases hi109 : i = 7
                  · subst hi109
                    rw [if_pos rfl] at hg ⊢
                    obtain ⟨A9, c9, v, t, q1, q2⟩ := hg
                    exact ⟨A9, c9, v, t, h.symm.trans q1, q2⟩
                  rw [if_neg hi109] at hg ⊢
                  by_cases hi108 : i = 6
                  · subst hi108
                    rw [if_pos rfl] at hg ⊢
                    obtain ⟨gl, v, t, q1, q2⟩ := hg
                    exact ⟨gl, v, t, h.symm.trans q1, q2⟩
                  rw [if_neg hi108] at hg ⊢
                  by_cases hi107 : i = 5
                  · subst hi107
                    rw [if_pos rfl] at hg ⊢
                    obtain ⟨t, q1⟩ := hg
                    exact ⟨t, by rw [← h]; exact q1⟩
                  rw [if_neg hi107] at hg ⊢
                  rw [← h]; exact hg
                · by_cases hj1009 : j = 9
                  · subst hj1009
                    rw [if_pos rfl] at h ⊢
                    rcases hr with ⟨hK1, hr⟩ | hr
                    · have hi2 : i = 5 ∨ i = 7 ∨ i = 9 := by simpa [or_assoc] using hK1
                      rcases hi2 with e | e | e
                      · subst e; exfalso; revert hdp; decide
                      · subst e; exfalso; revert hdp; decide
                      · exact absurd e hij
                    · obtain ⟨A9, c9, v, t, e, h1, h2, hG⟩ := h
                      exact ⟨A9, c9, v, t, e, h1, h2.below hr, ⟨grown_then hG.1 (grown_of_below hr _), (hr.block _ (Rv.lt_of_blk hG.2)).trans hG.2⟩⟩
                  rw [if_neg hj1009] at h ⊢
                  by_cases hj109 : j = 7
                  · subst hj109
                    rw [if_pos rfl] at h ⊢
                    rcases hr with ⟨hK1, hr⟩ | hr
                    · have hi2 : i = 5 ∨ i = 7 ∨ i = 9 := by simpa [or_assoc] using hK1
                      rcases hi2 with e | e | e
                      · subst e; exfalso; revert hdp; decide
                      · exact absurd e hij
                      · subst e; exfalso; revert hK; decide
                    · obtain ⟨A9, c9, v, t, e, h1, h2, hG⟩ := h
                      exact ⟨A9, c9, v, t, e, h1, h2.below hr, ⟨grown_then hG.1 (grown_of_below hr _), (hr.block _ (Rv.lt_of_blk hG.2)).trans hG.2⟩⟩
                  rw [if_neg hj109] at h ⊢
                  by_cases hj108 : j = 6
                  · subst hj108
                    rw [if_pos rfl] at h ⊢
                    rcases hr with ⟨hK1, hr⟩ | hr
                    · have hi2 : i = 5 ∨ i = 7 ∨ i = 9 := by simpa [or_assoc] using hK1
                      rcases hi2 with e | e | e
                      · subst e; exfalso; revert hdp; decide
                      · subst e; exfalso; revert hK; decide
                      · subst e; exfalso; revert hK; decide
                    · obtain ⟨gl, v, t, e, h1, h2⟩ := h
                      exact ⟨gl, v, t, e, h1.below hr, h2.below hr⟩
                  rw [if_neg hj108] at h ⊢
                  by_cases hj107 : j = 5
                  · subst hj107
                    rw [if_pos rfl] at h ⊢
                    rcases hr with ⟨hK1, hr⟩ | hr
                    · have hi2 : i = 5 ∨ i = 7 ∨ i = 9 := by simpa [or_assoc] using hK1
                      rcases hi2 with e | e | e
                      · exact absurd e hij
                      · subst e; exfalso; revert hK; decide
                      · subst e; exfalso; revert hK; decide
                    · obtain ⟨t, h1⟩ := h
                      exact ⟨t, h1.below hr⟩
                  rw [if_neg hj107] at h ⊢
                  exact h
                · match i, h, hg with
                  | 0, _, hg => cases hg
                  | 1, _, hg => cases hg
                  | 2, _, hg => cases hg
                  | 3, _, hg => cases hg
                  | 4, _, hg => cases hg
                  | 5, _, hg => cases hg
                  | 6, _, hg => cases hg
                  | 7, _, hg => cases hg
                  | 8, _, hg => cases hg
                  | 9, _, hg => cases hg
                  | m + 10, h, _ => exact absurd h (by show ¬ m + 10 < 10; omega)
                · match i, h, hg with
                  | 0, _, hg => cases hg
                  | 1, _, hg => cases hg
                  | 2, _, hg => cases hg
                  | 3, _, hg => cases hg
                  | 4, _, hg => cases hg
                  | 5, _, hg => cases hg
                  | 6, _, hg => cases hg
                  | 7, _, hg => cases hg
                  | 8, _, hg => cases hg
                  | 9, _, hg => cases hg
                  | m + 10, h, _ => exact absurd h (by show ¬ m + 10 < 10; omega)
                · match i, h, hr, hf with
                  | 0, _, hr, _ => exact Bool.noConfusion (show true = false from hr)
                  | 1, _, hr, _ => exact Bool.noConfusion (show true = false from hr)
                  | 2, _, hr, _ => exact Bool.noConfusion (show true = false from hr)
                  | 3, _, hr, _ => exact Bool.noConfusion (show true = false from hr)
                  | 4, _, hr, _ => exact Bool.noConfusion (show true = false from hr)
                  | 5, _, hr, _ => exact Bool.noConfusion (show true = false from hr)
                  | 6, _, hr, _ => exact Bool.noConfusion (show true = false from hr)
                  | 7, _, hr, _ => exact Bool.noConfusion (show true = false from hr)
                  | 8, _, hr, _ => exact Bool.noConfusion (show true = false from hr)
                  | 9, _, hr, _ => exact Bool.noConfusion (show true = false from hr)
                  | m + 10, h, _, _ => exact absurd h (by show ¬ m + 10 < 10; omega)
                · intro i h a W hrun hbase hpre hdep htr hta hJ
                  match i, h with
                  | 0, _ =>
                    obtain ⟨e7, x7⟩ := Rv.ev (show a.tmps.getD 7 undef = .pointer (some ⟨g, 0, none⟩) from hbase 7 rfl)
                    exact Rv.step_op (op := Go.Op.fieldAddr 26 (Go.Operand.tmp 7) 4) (v := .pointer (some ⟨g, 4, none⟩)) (w1 := W) rfl rfl (fun d pos aft g => by unfold execOp; go_simp) ⟨_, rfl, rfl, .inr (Below.refl _ _), htr, fun _ ht => ht, fun _ _ _ => trivial⟩
                  | 1, _ =>
                    obtain ⟨e102, x102⟩ := Rv.ev (show a.tmps.getD 102 undef = .pointer (some ⟨g, 4, none⟩) from hdep 0 rfl rfl)
                    have hh := (hta (by decide)).1.blk
                    obtain ⟨y0, y1, y2, y3, y4⟩ := Rv.cells5 hh
                    exact Rv.step_op (op := Go.Op.load 24 (Go.Operand.tmp 102)) (v := VI) (w1 := W) rfl rfl (fun d pos aft g => by unfold execOp; go_simp) ⟨_, rfl, rfl, .inr (Below.refl _ _), htr, fun _ ht => ht, fun _ _ _ => trivial⟩
                  | 2, _ =>
                    obtain ⟨e0, x0⟩ := Rv.ev (show a.tmps.getD 0 undef = .pointer (some ⟨b, 0, none⟩) from hbase 0 rfl)
                    exact Rv.step_op (op := Go.Op.move (Go.Operand.tmp 0)) (v := .pointer (some ⟨b, 0, none⟩)) (w1 := W) rfl rfl (fun d pos aft g => by unfold execOp; go_simp) ⟨_, rfl, rfl, .inr (Below.refl _ _), htr, fun _ ht => ht, fun _ _ _ => trivial⟩
                  | 3, _ =>
                    obtain ⟨e1, x1⟩ := Rv.ev (show a.tmps.getD 1 undef = .int .i64 deep from hbase 1 rfl)
                    exact Rv.step_op (op := Go.Op.move (Go.Operand.tmp 1)) (v := .int .i64 deep) (w1 := W) rfl rfl (fun d pos aft g => by unfold execOp; go_simp) ⟨_, rfl, rfl, .inr (Below.refl _ _), htr, fun _ ht => ht, fun _ _ _ => trivial⟩
                  | 4, _ =>
                    obtain ⟨e105, x105⟩ := Rv.ev (show a.tmps.getD 105 undef = .int .i64 deep from hdep 3 rfl rfl)
                    exact Rv.step_op (op := Go.Op.binOp Go.BinOp.add 3 (Go.Operand.tmp 105) (Go.Operand.const (Go.Value.int Go.IntKind.i64 1)) 3) (ty := 3) (v := .int .i64 (deep + 1)) (w1 := W) rfl rfl (fun d pos aft g => by unfold execOp; go_simp; exact HWR.out) ⟨_, rfl, rfl, .inr (Below.refl _ _), htr, (fun _ ht => ht), fun _ _ _ => trivial⟩
                  | 5, _ =>
                    obtain ⟨e104, x104⟩ := Rv.ev (show a.tmps.getD 104 undef = .pointer (some ⟨b, 0, none⟩) from hdep 2 rfl rfl)
                    obtain ⟨e106, x106⟩ := Rv.ev (show a.tmps.getD 106 undef = .int .i64 (deep + 1) from hdep 4 rfl rfl)
                    obtain ⟨hsw, hGW⟩ := hta (by decide)
                    have cf : ∀ x0 x1 W, (callFunc 14 #[x0, x1]).run Tryz.prog W = .ok (.enter 14 #[x0, x1]) W := fun _ _ _ => by kernel_rfl
                    refine Rv.step_fn (op := Go.Op.call { callee := Go.Callee.value (Go.Operand.func 14), args := #[Go.Operand.tmp 104, Go.Operand.tmp 106], argTypes := #[44, 3] }) (ty := 26) (f := 14) (args := #[.pointer (some ⟨b, 0, none⟩), .int .i64 (deep + 1)]) (R := fun v W' => (∃ t, Nd X.heap.size W' t v) ∧ X.heap.size ≤ W'.heap.size ∧ St w0 b (w.heap.size + 1) g 5 ns VN VI VI ts hs W' ∧ (w.grownBy W' (some b) ∧ W'.heap[w.heap.size]? = some jz)) rfl rfl (fun d pos aft g => by unfold execOp; go_simp) ((IH.out W hsw.mst).mono ?_) ?_
                    · (rintro e W' ⟨v, t, rfl, hw, hj, hm, hg⟩; exact ⟨_, rfl, ⟨t, hw, hj.weak (fun x _ hx => Nat.le_trans htr hx)⟩, Nat.le_trans htr hg.size, hsw.call hg hm, grown_then hGW.1 hg, blk_grown hGW.2 hg (fun e => by injection e with e; omega)⟩)
                    · (rintro v W' ⟨hv, hs, hp⟩; exact ⟨_, rfl, hv, .inl ⟨rfl, trivial⟩, hs, (fun _ _ => hp), fun _ _ _ => trivial⟩)
                  | 6, _ =>
                    obtain ⟨t7, n7⟩ : ∃ t : J, Nd X.heap.size W t (a.tmps.getD 107 undef) := hdep 5 rfl rfl
                    obtain ⟨v7, q7⟩ : ∃ v, a.tmps.getD 107 undef = v := ⟨_, rfl⟩
                    rw [q7] at n7
                    obtain ⟨e107, x107⟩ := Rv.ev q7
                    obtain ⟨z0, z1, z2, z3, z4, ez, hz⟩ := five_cells n7.2
                    subst ez
                    have hal : Below W.heap.size W (W.alloc (.cells #[z0, z1, z2, z3, z4] 26)) := (Below.refl _ _).alloc (Nat.le_refl _) _
                    exact Rv.step_op (op := Go.Op.buildSlice 24 1 #[(0, Go.Operand.tmp 107)]) (ty := 24) (v := .slice (some ⟨W.heap.size, 0, none⟩) 1 1) (w1 := W.alloc (.cells #[z0, z1, z2, z3, z4] 26)) rfl rfl (fun d pos aft g => by unfold execOp; go_simp) ⟨_, rfl, ⟨W.heap.size, .agg #[z0, z1, z2, z3, z4], t7, rfl, Rd.of_own (World.ownsRow_lit (base := W.heap.size) (e := 26) (size := 5) W #[z0, z1, z2, z3, z4] 1 (Nat.le_refl _) (by simp [maxLen]) rfl), n7.below hal⟩, .inr hal, Nat.le_trans htr hal.size, (fun _ ht => ⟨ht.1.below hal, grown_then ht.2.1 (grown_of_below hal _), (hal.block _ (Rv.lt_of_blk ht.2.2)).trans ht.2.2⟩), fun _ _ _ => trivial⟩
                  | 7, _ =>
                    obtain ⟨e103, x103⟩ := Rv.ev (show a.tmps.getD 103 undef = VI from hdep 1 rfl rfl)
                    obtain ⟨gl, v8, t8, q8, r8, n8⟩ : ∃ (gl : Nat) (v : Value) (t : J), a.tmps.getD 108 undef = .slice (some ⟨gl, 0, none⟩) 1 1 ∧ Rd W 5 (.slice (some ⟨gl, 0, none⟩) 1 1) 1 v.cells.toList ∧ Nd X.heap.size W t v := hdep 6 rfl rfl
                    obtain ⟨e108, x108⟩ := Rv.ev q8
                    obtain ⟨s8, g8⟩ := hta (by decide)
                    obtain ⟨z0, z1, z2, z3, z4, ez, hz⟩ := five_cells n8.2
                    subst ez
                    have hown := s8.rowI
                    obtain ⟨v', w', hrun, k2, k3, k4⟩ := run_append_rd (P := Tryz.prog) W (w.heap.size + 1) 24 24 26 (.agg #[.int .i64 0, .int .i64 0, .string ⟨#[]⟩, .slice none 0 0, .slice none 0 0]) 5 80 Tryz.underlying24 info26 rfl (by omega) (by omega) _ _ _ hown _ _ _ r8 (by intro u hu; exact hz u hu) (by omega) (Nat.le_trans hsX htr)
                    obtain ⟨A9, c9, rfl, _⟩ := (Rd.of_own k2).shape
                    have hs' := s8.push k2 k3 (k4.imp id (fun e => ⟨_, e, Nat.le_refl _⟩)) n8.2 rfl HGX HNX.out HIX.out hsX
                    have hhb : ∀ k, VI.ownBlock = some k → w.heap.size + 1 ≤ k := fun k hk => (hown.lt k hk).1
                    have hGG := grown_above g8.1 k3 (fun k hk => by have := hhb k hk; omega)
                    have hRR := blk_grown g8.2 k3 (fun e => by have := hhb _ e.symm; omega)
                    exact Rv.step_op (op := Go.Op.call { callee := Go.Callee.builtin Go.Builtin.append, args := #[Go.Operand.tmp 103, Go.Operand.tmp 108], argTypes := #[24, 24] }) (ty := 24) (v := .slice A9 (ts.length + 1) c9) (w1 := w') rfl rfl (fun d pos aft g => by unfold execOp; simp only [resolve, invoke, builtin, Sem.run_bind, Sem.run_pure, Result.andThen_ok, List.map_toArray, List.map_cons, List.map_nil, e103, e108, hrun]) ⟨_, rfl, ⟨A9, c9, _, t8, rfl, n8.1, hs', hGG, hRR⟩, .inl ⟨rfl, trivial⟩, Nat.le_trans htr k3.size, (fun h _ => by cases h), fun _ _ _ => trivial⟩
                  | 8, _ =>
                    obtain ⟨e7, x7⟩ := Rv.ev (show a.tmps.getD 7 undef = .pointer (some ⟨g, 0, none⟩) from hbase 7 rfl)
                    exact Rv.step_op (op := Go.Op.fieldAddr 26 (Go.Operand.tmp 7) 4) (v := .pointer (some ⟨g, 4, none⟩)) (w1 := W) rfl rfl (fun d pos aft g => by unfold execOp; go_simp) ⟨_, rfl, rfl, .inr (Below.refl _ _), htr, fun _ ht => ht, fun _ _ _ => trivial⟩
                  | 9, _ =>
                    obtain ⟨e110, x110⟩ := Rv.ev (show a.tmps.getD 110 undef = .pointer (some ⟨g, 4, none⟩) from hdep 8 rfl rfl)
                    obtain ⟨A9, c9, v9, t9, q9, w9, s9, g9⟩ : ∃ (A9 : Option Addr) (c9 : Nat) (v : Value) (t : J), a.tmps.getD 109 undef = .slice A9 (ts.length + 1) c9 ∧ Wf t ∧ St w0 b (w.heap.size + 1) g 5 ns VN VI (.slice A9 (ts.length + 1) c9) (ts ++ [t]) (hs ++ [v]) W ∧ (w.grownBy W (some b) ∧ W.heap[w.heap.size]? = some jz) := hdep 7 rfl rfl
                    obtain ⟨e109, x109⟩ := Rv.ev q9
                    obtain ⟨y0, y1, y2, y3, y4⟩ := Rv.cells5 s9.blk
                    obtain ⟨f0, f1, f2, f3, f4⟩ := Rv.frozen5 s9.blk
                    have hgB := s9.geB
                    exact Rv.step_skip (op := Go.Op.store 24 (Go.Operand.tmp 110) (Go.Operand.tmp 109)) (ty := 0) (w1 := W.setCell ⟨g, 4, none⟩ (.slice A9 (ts.length + 1) c9)) rfl rfl (fun d pos aft g => by unfold execOp; go_simp) ⟨undef, rfl, ⟨A9, c9, v9, t9, q9, w9, s9.store4, grown_new g9.1 (by omega) _ _, blk_grown g9.2 (grown_set (Below.refl _ _) g 4 _) (fun e => by injection e with e; omega)⟩, .inl ⟨rfl, trivial⟩, (by simpa using htr), (fun h _ => by cases h), fun _ _ _ => trivial⟩
                  | m + 10, h => exact absurd h (by show ¬ m + 10 < 10; omega)
                intro W f hf htr hJ
                have f0 : f 0 = .pointer (some ⟨g, 4, none⟩) := hf 0 (by show 0 < 10; omega) rfl
                have f1 : f 1 = VI := hf 1 (by show 1 < 10; omega) rfl
                have f2 : f 2 = .pointer (some ⟨b, 0, none⟩) := hf 2 (by show 2 < 10; omega) rfl
                have f3 : f 3 = .int .i64 deep := hf 3 (by show 3 < 10; omega) rfl
                have f4 : f 4 = .int .i64 (deep + 1) := hf 4 (by show 4 < 10; omega) rfl
                have f8 : f 8 = .pointer (some ⟨g, 4, none⟩) := hf 8 (by show 8 < 10; omega) rfl
                have HS9 := Lib.hid (show (fun f W => ∃ (A9 : Option Addr) (c9 : Nat) (v : Value) (t : J), f 7 = .slice A9 (ts.length + 1) c9 ∧ Wf t ∧ St w0 b (w.heap.size + 1) g 5 ns VN (.slice A9 (ts.length + 1) c9) (.slice A9 (ts.length + 1) c9) (ts ++ [t]) (hs ++ [v]) W ∧ (w.grownBy W (some b) ∧ W.heap[w.heap.size]? = some jz)) f W from hf 9 (by show 9 < 10; omega) rfl)
                clear hf
                refine (show ∀ (a : Act) (w : World), Code.wp _ _ _ a w → _ from by assumption) _ _ ?_
                refine Rv.fin_swap (L' := [(102, f 0), (103, f 1), (104, f 2), (105, f 3), (106, f 4), (107, f 5), (108, f 6), (109, f 7), (110, f 8), (1009, f 9)]) rfl ?_
                rw [f0, f1, f2, f3, f4, f8]
                clear f0 f1 f2 f3 f4 f8
                simp only [Rv.fin, List.foldl_cons, List.foldl_nil, Act.put, List.setIfInBounds_toArray, List.set_cons_succ, List.set_cons_zero, List.set_nil]
                obtain ⟨A9, c9, v9, t9, q9, w9, HS9, HG9⟩ := HS9.out
                have HS9 := Lib.hid HS9
                have HG9 := Lib.hid HG9
                subst hVN
                rw [q9]
                generalize f 5 = u5
                generalize f 6 = u6
                clear htr
                rename_i W9
                go_wp2
                go_roundw
                case rel => exact ⟨n - 1, ns, A7, c7, A9, c9, ts ++ [t9], hs ++ [v9], by go_num, by omega, by simp; omega, Lib.hid (by rw [List.length_append]; exact HS9.out), HG9, Lib.hid (HW.out.push w9), Lib.hid (⟨by rw [HN7.out.1]; simp, HN7.out.2⟩)⟩
                case measure => simp [intOf]; omega
          · obtain rfl : n = 0 := by omega
            obtain ⟨q0, q1, q2, q3, q4⟩ := Rv.cells5 HS.out.blk
            obtain ⟨s0, s1, s2, s3, s4⟩ := Rv.cells5 HGR.out.2
            obtain ⟨z0, z1, z2, z3, z4⟩ := Rv.frozen5 HGR.out.2
            go_wp2
            obtain ⟨fm, fg, fr⟩ := fin5 HS.out.mst HGR.out.1 HGR.out.2 hbl hb (.int .i64 5) (.int .i64 0) (.string ⟨#[]⟩) (.slice A ns.length c) (.slice A2 ts.length c2)
            have gs := fun (W : World) j u => grown_set (Below.refl _ W) w.heap.size j u
            have HJ := Lib.hid ((HS.out.done.grown (grown_then (grown_then (grown_then (grown_then (gs wr 0 (.int .i64 5)) (gs _ 1 (.int .i64 0))) (gs _ 2 (.string ⟨#[]⟩))) (gs _ 3 (.slice A ns.length c))) (gs _ 4 (.slice A2 ts.length c2))) (fun x hx e => by injection e with e; omega)).weak (q := fun x => w.heap.size ≤ x) (fun x _ hx => by omega))
            clear q0 q1 q2 q3 q4 s0 s1 s2 s3 s4 z0 z1 z2 z3 z4 gs
            obtain ⟨q0, q1, q2, q3, q4⟩ := Rv.cells5 fr
            have HFM := Lib.hid fm
            have HFG := Lib.hid fg
            clear fm fg fr
            refine bodyPost_ret (v := .agg #[.int .i64 5, .int .i64 0, .string ⟨#[]⟩, .slice A ns.length c, .slice A2 ts.length c2]) ?_ rfl ⟨_, .mk 5 0 ⟨#[]⟩ ns ts, rfl, .inr (.inr (.inr (.inr (.inr ⟨rfl, rfl, rfl, HN.out.1, by omega, HN.out.2.1, HN.out.2.2, HW.out⟩)))), HJ.out, HFM.out, HFG.out⟩
            simp only [results, show Tryz.f14.results = #[.cell 4 26] by kernel_rfl]
            go_simp
      · go_upto_region 19 with fail
        have hR2 := Rv.lt_of_blk HR2.out
        have hal := (Below.refl w2.heap.size w2).alloc (Nat.le_refl _) (.cells #[.int .i64 4, .int .i64 0, .string ⟨#[]⟩, .slice none 0 0, .slice none 0 0] 26)
        have HS3 := Lib.hid (show St w0 b (w.heap.size + 1) w2.heap.size 4 [] (.slice none 0 0) (.slice none 0 0) (.slice none 0 0) [] [] (w2.alloc (.cells #[.int .i64 4, .int .i64 0, .string ⟨#[]⟩, .slice none 0 0, .slice none 0 0] 26)) from
          ⟨HM2.out.below hal, heap_alloc_new _ _, World.ownsRow_nil _ _ _ _, World.ownsRow_nil _ _ _ _, rfl, (by simp [Value.ownBlock]), (by simp [Value.ownBlock]), hR2, by omega, hb⟩)
        have HG3 := Lib.hid (show (w.grownBy (w2.alloc (.cells #[.int .i64 4, .int .i64 0, .string ⟨#[]⟩, .slice none 0 0, .slice none 0 0] 26)) (some b) ∧ (w2.alloc (.cells #[.int .i64 4, .int .i64 0, .string ⟨#[]⟩, .slice none 0 0, .slice none 0 0] 26)).heap[w.heap.size]? = some jz) from ⟨grown_then HG2.out (grown_of_below hal _), (hal.block _ hR2).trans HR2.out⟩)
        clear hal HR1 HR2 HG1 HG2 HM1 HM2 hs1 hs2
        generalize w2.alloc (.cells #[.int .i64 4, .int .i64 0, .string ⟨#[]⟩, .slice none 0 0, .slice none 0 0] 26) = w3 at *
        generalize w2.heap.size = g at *
        go_upto_region 20 with (go_at_call 15; ((with_reducible refine (BY.out _ HS3.out.mst).mono ?_); rintro e w4 ⟨y, rfl, hy0, hy1, hm, hg⟩; have HS4 := Lib.hid (HS3.out.call hg hm); have HG4 := Lib.hid (show (w.grownBy w4 (some b) ∧ w4.heap[w.heap.size]? = some jz) from ⟨grown_then HG3.out.1 hg, blk_grown HG3.out.2 hg (fun e => by injection e with e; omega)⟩); clear hm hg))
        have hn5 : 0 ≤ y % 5 ∧ y % 5 < 5 := ⟨Int.emod_nonneg _ (by omega), Int.emod_lt_of_pos _ (by omega)⟩
        generalize y % 5 = n0 at *
        clear HS3 HG3
        go_loopw [8, 9] (fun v8 v9 wr => ∃ (n : Int) (ns : List ByteArray) (A : Option Addr) (c : Nat) (A2 : Option Addr) (c2 : Nat) (ts : List J) (hs : List Value), v8 = .int .i64 n ∧ 0 ≤ n ∧ ts.length + n ≤ 4 ∧ Hid (St w0 b (w.heap.size + 1) g 4 ns (.slice A ns.length c) (.slice A2 ts.length c2) (.slice A2 ts.length c2) ts hs wr) ∧ Hid (w.grownBy wr (some b) ∧ wr.heap[w.heap.size]? = some jz) ∧ Hid (Wfs ts) ∧ Hid (ns = [])) (fun v8 _ _ => (intOf v8).toNat)
        case atStart => exact ⟨n0, [], none, 0, none, 0, [], [], rfl, hn5.1, by simp; omega, HS4, HG4, Lib.hid trivial, Lib.hid (rfl)⟩
        case round =>
          obtain ⟨n, ns, A, c, A2, c2, ts, hs, rfl, hn0, hn4, HS, HGR, HW, HN⟩ := hrel
          clear HS4 HG4
          by_cases hlt : 0 < n
          · obtain ⟨q0, q1, q2, q3, q4⟩ := Rv.cells5 HS.out.blk
            go_upto_region 26 with fail
            clear q0 q1 q2 q3 q4
            have HSX := HS
            have HGX0 := HGR
            generalize wr = X at *
            generalize hVN : Value.slice A ns.length c = VN at *
            generalize hVI : Value.slice A2 ts.length c2 = VI at *
            have hsX : w.heap.size + 1 ≤ X.heap.size := Rv.lt_of_blk HGX0.out.2
            have hgB : w.heap.size + 1 ≤ g := HSX.out.geB
            have HGX : g < X.heap.size := Rv.lt_of_blk HSX.out.blk
            have HNX := Lib.hid (fun k (hk : VN.ownBlock = some k) => (HSX.out.rowN.lt k hk).2)
            have HIX := Lib.hid (fun k (hk : VI.ownBlock = some k) => (HSX.out.rowI.lt k hk).2)
            have hX0 : Below X.heap.size X { X with drawn := X.drawn + 1 } := (Below.refl _ _).drew
            have TRA0 := Lib.hid (show (fun W => St w0 b (w.heap.size + 1) g 4 ns VN VI VI ts hs W ∧ (w.grownBy W (some b) ∧ W.heap[w.heap.size]? = some jz)) { X with drawn := X.drawn + 1 } from show _ ∧ _ from ⟨HSX.out.below hX0, grown_then HGX0.out.1 (grown_of_below hX0 _), (hX0.block _ (Rv.lt_of_blk HGX0.out.2)).trans HGX0.out.2⟩)
            have hlen : ts.length ≤ 4 := by omega
            have HWR := Lib.hid (show IntKind.i64.wrap (deep + 1) = deep + 1 from by rw [IntKind.wrap_i64]; omega)
            refine Rv.region_fin2 (n := 112) (by kernel_rfl) #[102, 103, 104, 105, 106, 107, 108, 109, 110, 1009] #[] (fun i f W => if i = 9 then (fun f W => ∃ (A9 : Option Addr) (c9 : Nat) (v : Value) (t : J), f 7 = .slice A9 (ts.length + 1) c9 ∧ Wf t ∧ St w0 b (w.heap.size + 1) g 4 ns VN (.slice A9 (ts.length + 1) c9) (.slice A9 (ts.length + 1) c9) (ts ++ [t]) (hs ++ [v]) W ∧ (w.grownBy W (some b) ∧ W.heap[w.heap.size]? = some jz)) f W else if i = 7 then (fun f W => ∃ (A9 : Option Addr) (c9 : Nat) (v : Value) (t : J), f 7 = .slice A9 (ts.length + 1) c9 ∧ Wf t ∧ St w0 b (w.heap.size + 1) g 4 ns VN VI (.slice A9 (ts.length + 1) c9) (ts ++ [t]) (hs ++ [v]) W ∧ (w.grownBy W (some b) ∧ W.heap[w.heap.size]? = some jz)) f W else if i = 6 then (fun f W => ∃ (gl : Nat) (v : Value) (t : J), f 6 = .slice (some ⟨gl, 0, none⟩) 1 1 ∧ Rd W 5 (.slice (some ⟨gl, 0, none⟩) 1 1) 1 v.cells.toList ∧ Nd X.heap.size W t v) f W else if i = 5 then (fun f W => ∃ t : J, Nd X.heap.size W t (f 5)) f W else f i = (#[.pointer (some ⟨g, 4, none⟩), VI, .pointer (some ⟨b, 0, none⟩), .int .i64 deep, .int .i64 (deep + 1), undef, undef, undef, .pointer (some ⟨g, 4, none⟩), undef] : Array Value).getD i undef) (fun i j => (i == 7 && (j == 5 || j == 6)) || (i == 9 && (j == 5 || j == 6 || j == 7))) (fun i => i == 5 || i == 7 || i == 9) (fun i => i == 7 || i == 9) (fun i f W W' => True) (fun W => X.heap.size ≤ W.heap.size) (fun W => St w0 b (w.heap.size + 1) g 4 ns VN VI VI ts hs W ∧ (w.grownBy W (some b) ∧ W.heap[w.heap.size]? = some jz)) (fun _ _ _ => True) (fun _ _ _ _ _ _ _ _ => trivial) (fun i f f' w hi h hd hg => ?_) (fun i j f w w' hi hj hij hK hdp h hr => ?_) (fun i h g b hg => ?_) rfl (by kernel_rfl) (fun i h g b hg => ?_) (Nat.le_refl _) (TRA0.out) (fun _ => trivial) (fun i h hr f w hf => ?_) (fun _ _ _ _ _ _ _ _ => trivial) ?_ ?_
            · by_cases hi1009 : i = 9
              · subst hi1009
                rw [if_pos rfl] at hg ⊢
                obtain ⟨A9, c9, v, t, q1, q2⟩ := hg
                exact ⟨A9, c9, v, t, (hd 7 rfl).symm.trans q1, q2⟩
              rw [if_neg hi1009] at hg ⊢
              by_cases hi109 : i = 7
              · subst hi109
                rw [if_pos rfl] at hg ⊢
                obtain ⟨A9, c9, v, t, q1, q2⟩ := hg
                exact ⟨A9, c9, v, t, h.symm.trans q1, q2⟩
              rw [if_neg hi109] at hg ⊢
              by_cases hi108 : i = 6
              · subst hi108
                rw [if_pos rfl] at hg ⊢
                obtain ⟨gl, v, t, q1, q2⟩ := hg
                exact ⟨gl, v, t, h.symm.trans q1, q2⟩
              rw [if_neg hi108] at hg ⊢
              by_cases hi107 : i = 5
              · subst hi107
                rw [if_pos rfl] at hg ⊢
                obtain ⟨t, q1⟩ := hg
                exact ⟨t, by rw [← h]; exact q1⟩
              rw [if_neg hi107] at hg ⊢
              rw [← h]; exact hg
            · by_cases hj1009 : j = 9
              · subst hj1009
                rw [if_pos rfl] at h ⊢
                rcases hr with ⟨hK1, hr⟩ | hr
                · have hi2 : i = 5 ∨ i = 7 ∨ i = 9 := by simpa [or_assoc] using hK1
                  rcases hi2 with e | e | e
                  · subst e; exfalso; revert hdp; decide
                  · subst e; exfalso; revert hdp; decide
                  · exact absurd e hij
                · obtain ⟨A9, c9, v, t, e, h1, h2, hG⟩ := h
                  exact ⟨A9, c9, v, t, e, h1, h2.below hr, ⟨grown_then hG.1 (grown_of_below hr _), (hr.block _ (Rv.lt_of_blk hG.2)).trans hG.2⟩⟩
              rw [if_neg hj1009] at h ⊢
              by_cases hj109 : j = 7
              · subst hj109
                rw [if_pos rfl] at h ⊢
                rcases hr with ⟨hK1, hr⟩ | hr
                · have hi2 : i = 5 ∨ i = 7 ∨ i = 9 := by simpa [or_assoc] using hK1
                  rcases hi2 with e | e | e
                  · subst e; exfalso; revert hdp; decide
                  · exact absurd e hij
                  · subst e; exfalso; revert hK; decide
                · obtain ⟨A9, c9, v, t, e, h1, h2, hG⟩ := h
                  exact ⟨A9, c9, v, t, e, h1, h2.below hr, ⟨grown_then hG.1 (grown_of_below hr _), (hr.block _ (Rv.lt_of_blk hG.2)).trans hG.2⟩⟩
              rw [if_neg hj109] at h ⊢
              by_cases hj108 : j = 6
              · subst hj108
                rw [if_pos rfl] at h ⊢
                rcases hr with ⟨hK1, hr⟩ | hr
                · have hi2 : i = 5 ∨ i = 7 ∨ i = 9 := by simpa [or_assoc] using hK1
                  rcases hi2 with e | e | e
                  · subst e; exfalso; revert hdp; decide
                  · subst e; exfalso; revert hK; decide
                  · subst e; exfalso; revert hK; decide
                · obtain ⟨gl, v, t, e, h1, h2⟩ := h
                  exact ⟨gl, v, t, e, h1.below hr, h2.below hr⟩
              rw [if_neg hj108] at h ⊢
              by_cases hj107 : j = 5
              · subst hj107
                rw [if_pos rfl] at h ⊢
                rcases hr with ⟨hK1, hr⟩ | hr
                · have hi2 : i = 5 ∨ i = 7 ∨ i = 9 := by simpa [or_assoc] using hK1
                  rcases hi2 with e | e | e
                  · exact absurd e hij
                  · subst e; exfalso; revert hK; decide
                  · subst e; exfalso; revert hK; decide
                · obtain ⟨t, h1⟩ := h
                  exact ⟨t, h1.below hr⟩
              rw [if_neg hj107] at h ⊢
              exact h
            · match i, h, hg with
              | 0, _, hg => cases hg
              | 1, _, hg => cases hg
              | 2, _, hg => cases hg
              | 3, _, hg => cases hg
              | 4, _, hg => cases hg
              | 5, _, hg => cases hg
              | 6, _, hg => cases hg
              | 7, _, hg => cases hg
              | 8, _, hg => cases hg
              | 9, _, hg => cases hg
              | m + 10, h, _ => exact absurd h (by show ¬ m + 10 < 10; omega)
            · match i, h, hg with
              | 0, _, hg => cases hg
              | 1, _, hg => cases hg
              | 2, _, hg => cases hg
              | 3, _, hg => cases hg
              | 4, _, hg => cases hg
              | 5, _, hg => cases hg
              | 6, _, hg => cases hg
              | 7, _, hg => cases hg
              | 8, _, hg => cases hg
              | 9, _, hg => cases hg
              | m + 10, h, _ => exact absurd h (by show ¬ m + 10 < 10; omega)
            · match i, h, hr, hf with
              | 0, _, hr, _ => exact Bool.noConfusion (show true = false from hr)
              | 1, _, hr, _ => exact Bool.noConfusion (show true = false from hr)
              | 2, _, hr, _ => exact Bool.noConfusion (show true = false from hr)
              | 3, _, hr, _ => exact Bool.noConfusion (show true = false from hr)
              | 4, _, hr, _ => exact Bool.noConfusion (show true = false from hr)
              | 5, _, hr, _ => exact Bool.noConfusion (show true = false from hr)
              | 6, _, hr, _ => exact Bool.noConfusion (show true = false from hr)
              | 7, _, hr, _ => exact Bool.noConfusion (show true = false from hr)
              | 8, _, hr, _ => exact Bool.noConfusion (show true = false from hr)
              | 9, _, hr, _ => exact Bool.noConfusion (show true = false from hr)
              | m + 10, h, _, _ => exact absurd h (by show ¬ m + 10 < 10; omega)
            · intro i h a W hrun hbase hpre hdep htr hta hJ
              match i, h with
              | 0, _ =>
                obtain ⟨e7, x7⟩ := Rv.ev (show a.tmps.getD 7 undef = .pointer (some ⟨g, 0, none⟩) from hbase 7 rfl)
                exact Rv.step_op (op := Go.Op.fieldAddr 26 (Go.Operand.tmp 7) 4) (v := .pointer (some ⟨g, 4, none⟩)) (w1 := W) rfl rfl (fun d pos aft g => by unfold execOp; go_simp) ⟨_, rfl, rfl, .inr (Below.refl _ _), htr, fun _ ht => ht, fun _ _ _ => trivial⟩
              | 1, _ =>
                obtain ⟨e102, x102⟩ := Rv.ev (show a.tmps.getD 102 undef = .pointer (some ⟨g, 4, none⟩) from hdep 0 rfl rfl)
                have hh := (hta (by decide)).1.blk
                obtain ⟨y0, y1, y2, y3, y4⟩ := Rv.cells5 hh
                exact Rv.step_op (op := Go.Op.load 24 (Go.Operand.tmp 102)) (v := VI) (w1 := W) rfl rfl (fun d pos aft g => by unfold execOp; go_simp) ⟨_, rfl, rfl, .inr (Below.refl _ _), htr, fun _ ht => ht, fun _ _ _ => trivial⟩
              | 2, _ =>
                obtain ⟨e0, x0⟩ := Rv.ev (show a.tmps.getD 0 undef = .pointer (some ⟨b, 0, none⟩) from hbase 0 rfl)
                exact Rv.step_op (op := Go.Op.move (Go.Operand.tmp 0)) (v := .pointer (some ⟨b, 0, none⟩)) (w1 := W) rfl rfl (fun d pos aft g => by unfold execOp; go_simp) ⟨_, rfl, rfl, .inr (Below.refl _ _), htr, fun _ ht => ht, fun _ _ _ => trivial⟩
              | 3, _ =>
                obtain ⟨e1, x1⟩ := Rv.ev (show a.tmps.getD 1 undef = .int .i64 deep from hbase 1 rfl)
                exact Rv.step_op (op := Go.Op.move (Go.Operand.tmp 1)) (v := .int .i64 deep) (w1 := W) rfl rfl (fun d pos aft g => by unfold execOp; go_simp) ⟨_, rfl, rfl, .inr (Below.refl _ _), htr, fun _ ht => ht, fun _ _ _ => trivial⟩
              | 4, _ =>
                obtain ⟨e105, x105⟩ := Rv.ev (show a.tmps.getD 105 undef = .int .i64 deep from hdep 3 rfl rfl)
                exact Rv.step_op (op := Go.Op.binOp Go.BinOp.add 3 (Go.Operand.tmp 105) (Go.Operand.const (Go.Value.int Go.IntKind.i64 1)) 3) (ty := 3) (v := .int .i64 (deep + 1)) (w1 := W) rfl rfl (fun d pos aft g => by unfold execOp; go_simp; exact HWR.out) ⟨_, rfl, rfl, .inr (Below.refl _ _), htr, (fun _ ht => ht), fun _ _ _ => trivial⟩
              | 5, _ =>
                obtain ⟨e104, x104⟩ := Rv.ev (show a.tmps.getD 104 undef = .pointer (some ⟨b, 0, none⟩) from hdep 2 rfl rfl)
                obtain ⟨e106, x106⟩ := Rv.ev (show a.tmps.getD 106 undef = .int .i64 (deep + 1) from hdep 4 rfl rfl)
                obtain ⟨hsw, hGW⟩ := hta (by decide)
                have cf : ∀ x0 x1 W, (callFunc 14 #[x0, x1]).run Tryz.prog W = .ok (.enter 14 #[x0, x1]) W := fun _ _ _ => by kernel_rfl
                refine Rv.step_fn (op := Go.Op.call { callee := Go.Callee.value (Go.Operand.func 14), args := #[Go.Operand.tmp 104, Go.Operand.tmp 106], argTypes := #[44, 3] }) (ty := 26) (f := 14) (args := #[.pointer (some ⟨b, 0, none⟩), .int .i64 (deep + 1)]) (R := fun v W' => (∃ t, Nd X.heap.size W' t v) ∧ X.heap.size ≤ W'.heap.size ∧ St w0 b (w.heap.size + 1) g 4 ns VN VI VI ts hs W' ∧ (w.grownBy W' (some b) ∧ W'.heap[w.heap.size]? = some jz)) rfl rfl (fun d pos aft g => by unfold execOp; go_simp) ((IH.out W hsw.mst).mono ?_) ?_
                · (rintro e W' ⟨v, t, rfl, hw, hj, hm, hg⟩; exact ⟨_, rfl, ⟨t, hw, hj.weak (fun x _ hx => Nat.le_trans htr hx)⟩, Nat.le_trans htr hg.size, hsw.call hg hm, grown_then hGW.1 hg, blk_grown hGW.2 hg (fun e => by injection e with e; omega)⟩)
                · (rintro v W' ⟨hv, hs, hp⟩; exact ⟨_, rfl, hv, .inl ⟨rfl, trivial⟩, hs, (fun _ _ => hp), fun _ _ _ => trivial⟩)
              | 6, _ =>
                obtain ⟨t7, n7⟩ : ∃ t : J, Nd X.heap.size W t (a.tmps.getD 107 undef) := hdep 5 rfl rfl
                obtain ⟨v7, q7⟩ : ∃ v, a.tmps.getD 107 undef = v := ⟨_, rfl⟩
                rw [q7] at n7
                obtain ⟨e107, x107⟩ := Rv.ev q7
                obtain ⟨z0, z1, z2, z3, z4, ez, hz⟩ := five_cells n7.2
                subst ez
                have hal : Below W.heap.size W (W.alloc (.cells #[z0, z1, z2, z3, z4] 26)) := (Below.refl _ _).alloc (Nat.le_refl _) _
                exact Rv.step_op (op := Go.Op.buildSlice 24 1 #[(0, Go.Operand.tmp 107)]) (ty := 24) (v := .slice (some ⟨W.heap.size, 0, none⟩) 1 1) (w1 := W.alloc (.cells #[z0, z1, z2, z3, z4] 26)) rfl rfl (fun d pos aft g => by unfold execOp; go_simp) ⟨_, rfl, ⟨W.heap.size, .agg #[z0, z1, z2, z3, z4], t7, rfl, Rd.of_own (World.ownsRow_lit (base := W.heap.size) (e := 26) (size := 5) W #[z0, z1, z2, z3, z4] 1 (Nat.le_refl _) (by simp [maxLen]) rfl), n7.below hal⟩, .inr hal, Nat.le_trans htr hal.size, (fun _ ht => ⟨ht.1.below hal, grown_then ht.2.1 (grown_of_below hal _), (hal.block _ (Rv.lt_of_blk ht.2.2)).trans ht.2.2⟩), fun _ _ _ => trivial⟩
              | 7, _ =>
                obtain ⟨e103, x103⟩ := Rv.ev (show a.tmps.getD 103 undef = VI from hdep 1 rfl rfl)
                obtain ⟨gl, v8, t8, q8, r8, n8⟩ : ∃ (gl : Nat) (v : Value) (t : J), a.tmps.getD 108 undef = .slice (some ⟨gl, 0, none⟩) 1 1 ∧ Rd W 5 (.slice (some ⟨gl, 0, none⟩) 1 1) 1 v.cells.toList ∧ Nd X.heap.size W t v := hdep 6 rfl rfl
                obtain ⟨e108, x108⟩ := Rv.ev q8
                obtain ⟨s8, g8⟩ := hta (by decide)
                obtain ⟨z0, z1, z2, z3, z4, ez, hz⟩ := five_cells n8.2
                subst ez
                have hown := s8.rowI
                obtain ⟨v', w', hrun, k2, k3, k4⟩ := run_append_rd (P := Tryz.prog) W (w.heap.size + 1) 24 24 26 (.agg #[.int .i64 0, .int .i64 0, .string ⟨#[]⟩, .slice none 0 0, .slice none 0 0]) 5 80 Tryz.underlying24 info26 rfl (by omega) (by omega) _ _ _ hown _ _ _ r8 (by intro u hu; exact hz u hu) (by omega) (Nat.le_trans hsX htr)
                obtain ⟨A9, c9, rfl, _⟩ := (Rd.of_own k2).shape
                have hs' := s8.push k2 k3 (k4.imp id (fun e => ⟨_, e, Nat.le_refl _⟩)) n8.2 rfl HGX HNX.out HIX.out hsX
                have hhb : ∀ k, VI.ownBlock = some k → w.heap.size + 1 ≤ k := fun k hk => (hown.lt k hk).1
                have hGG := grown_above g8.1 k3 (fun k hk => by have := hhb k hk; omega)
                have hRR := blk_grown g8.2 k3 (fun e => by have := hhb _ e.symm; omega)
                exact Rv.step_op (op := Go.Op.call { callee := Go.Callee.builtin Go.Builtin.append, args := #[Go.Operand.tmp 103, Go.Operand.tmp 108], argTypes := #[24, 24] }) (ty := 24) (v := .slice A9 (ts.length + 1) c9) (w1 := w') rfl rfl (fun d pos aft g => by unfold execOp; simp only [resolve, invoke, builtin, Sem.run_bind, Sem.run_pure, Result.andThen_ok, List.map_toArray, List.map_cons, List.map_nil, e103, e108, hrun]) ⟨_, rfl, ⟨A9, c9, _, t8, rfl, n8.1, hs', hGG, hRR⟩, .inl ⟨rfl, trivial⟩, Nat.le_trans htr k3.size, (fun h _ => by cases h), fun _ _ _ => trivial⟩
              | 8, _ =>
                obtain ⟨e7, x7⟩ := Rv.ev (show a.tmps.getD 7 undef = .pointer (some ⟨g, 0, none⟩) from hbase 7 rfl)
                exact Rv.step_op (op := Go.Op.fieldAddr 26 (Go.Operand.tmp 7) 4) (v := .pointer (some ⟨g, 4, none⟩)) (w1 := W) rfl rfl (fun d pos aft g => by unfold execOp; go_simp) ⟨_, rfl, rfl, .inr (Below.refl _ _), htr, fun _ ht => ht, fun _ _ _ => trivial⟩
              | 9, _ =>
                obtain ⟨e110, x110⟩ := Rv.ev (show a.tmps.getD 110 undef = .pointer (some ⟨g, 4, none⟩) from hdep 8 rfl rfl)
                obtain ⟨A9, c9, v9, t9, q9, w9, s9, g9⟩ : ∃ (A9 : Option Addr) (c9 : Nat) (v : Value) (t : J), a.tmps.getD 109 undef = .slice A9 (ts.length + 1) c9 ∧ Wf t ∧ St w0 b (w.heap.size + 1) g 4 ns VN VI (.slice A9 (ts.length + 1) c9) (ts ++ [t]) (hs ++ [v]) W ∧ (w.grownBy W (some b) ∧ W.heap[w.heap.size]? = some jz) := hdep 7 rfl rfl
                obtain ⟨e109, x109⟩ := Rv.ev q9
                obtain ⟨y0, y1, y2, y3, y4⟩ := Rv.cells5 s9.blk
                obtain ⟨f0, f1, f2, f3, f4⟩ := Rv.frozen5 s9.blk
                have hgB := s9.geB
                exact Rv.step_skip (op := Go.Op.store 24 (Go.Operand.tmp 110) (Go.Operand.tmp 109)) (ty := 0) (w1 := W.setCell ⟨g, 4, none⟩ (.slice A9 (ts.length + 1) c9)) rfl rfl (fun d pos aft g => by unfold execOp; go_simp) ⟨undef, rfl, ⟨A9, c9, v9, t9, q9, w9, s9.store4, grown_new g9.1 (by omega) _ _, blk_grown g9.2 (grown_set (Below.refl _ _) g 4 _) (fun e => by injection e with e; omega)⟩, .inl ⟨rfl, trivial⟩, (by simpa using htr), (fun h _ => by cases h), fun _ _ _ => trivial⟩
              | m + 10, h => exact absurd h (by show ¬ m + 10 < 10; omega)
            intro W f hf htr hJ
            have f0 : f 0 = .pointer (some ⟨g, 4, none⟩) := hf 0 (by show 0 < 10; omega) rfl
            have f1 : f 1 = VI := hf 1 (by show 1 < 10; omega) rfl
            have f2 : f 2 = .pointer (some ⟨b, 0, none⟩) := hf 2 (by show 2 < 10; omega) rfl
            have f3 : f 3 = .int .i64 deep := hf 3 (by show 3 < 10; omega) rfl
            have f4 : f 4 = .int .i64 (deep + 1) := hf 4 (by show 4 < 10; omega) rfl
            have f8 : f 8 = .pointer (some ⟨g, 4, none⟩) := hf 8 (by show 8 < 10; omega) rfl
            have HS9 := Lib.hid (show (fun f W => ∃ (A9 : Option Addr) (c9 : Nat) (v : Value) (t : J), f 7 = .slice A9 (ts.length + 1) c9 ∧ Wf t ∧ St w0 b (w.heap.size + 1) g 4 ns VN (.slice A9 (ts.length + 1) c9) (.slice A9 (ts.length + 1) c9) (ts ++ [t]) (hs ++ [v]) W ∧ (w.grownBy W (some b) ∧ W.heap[w.heap.size]? = some jz)) f W from hf 9 (by show 9 < 10; omega) rfl)
            clear hf
            refine (show ∀ (a : Act) (w : World), Code.wp _ _ _ a w → _ from by assumption) _ _ ?_
            refine Rv.fin_swap (L' := [(102, f 0), (103, f 1), (104, f 2), (105, f 3), (106, f 4), (107, f 5), (108, f 6), (109, f 7), (110, f 8), (1009, f 9)]) rfl ?_
            rw [f0, f1, f2, f3, f4, f8]
            clear f0 f1 f2 f3 f4 f8
            simp only [Rv.fin, List.foldl_cons, List.foldl_nil, Act.put, List.setIfInBounds_toArray, List.set_cons_succ, List.set_cons_zero, List.set_nil]
            obtain ⟨A9, c9, v9, t9, q9, w9, HS9, HG9⟩ := HS9.out
            have HS9 := Lib.hid HS9
            have HG9 := Lib.hid HG9
            subst hVN
            rw [q9]
            generalize f 5 = u5
            generalize f 6 = u6
            clear htr
            rename_i W9
            go_wp2
            go_roundw
            case rel => exact ⟨n - 1, ns, A, c, A9, c9, ts ++ [t9], hs ++ [v9], by go_num, by omega, by simp; omega, Lib.hid (by rw [List.length_append]; exact HS9.out), HG9, Lib.hid (HW.out.push w9), Lib.hid (HN.out)⟩
            case measure => simp [intOf]; omega
          · obtain rfl : n = 0 := by omega
            obtain ⟨q0, q1, q2, q3, q4⟩ := Rv.cells5 HS.out.blk
            obtain ⟨s0, s1, s2, s3, s4⟩ := Rv.cells5 HGR.out.2
            obtain ⟨z0, z1, z2, z3, z4⟩ := Rv.frozen5 HGR.out.2
            go_wp2
            obtain ⟨fm, fg, fr⟩ := fin5 HS.out.mst HGR.out.1 HGR.out.2 hbl hb (.int .i64 4) (.int .i64 0) (.string ⟨#[]⟩) (.slice A ns.length c) (.slice A2 ts.length c2)
            have gs := fun (W : World) j u => grown_set (Below.refl _ W) w.heap.size j u
            have HJ := Lib.hid ((HS.out.done.grown (grown_then (grown_then (grown_then (grown_then (gs wr 0 (.int .i64 4)) (gs _ 1 (.int .i64 0))) (gs _ 2 (.string ⟨#[]⟩))) (gs _ 3 (.slice A ns.length c))) (gs _ 4 (.slice A2 ts.length c2))) (fun x hx e => by injection e with e; omega)).weak (q := fun x => w.heap.size ≤ x) (fun x _ hx => by omega))
            clear q0 q1 q2 q3 q4 s0 s1 s2 s3 s4 z0 z1 z2 z3 z4 gs
            obtain ⟨q0, q1, q2, q3, q4⟩ := Rv.cells5 fr
            have HFM := Lib.hid fm
            have HFG := Lib.hid fg
            clear fm fg fr
            refine bodyPost_ret (v := .agg #[.int .i64 4, .int .i64 0, .string ⟨#[]⟩, .slice A ns.length c, .slice A2 ts.length c2]) ?_ rfl ⟨_, .mk 4 0 ⟨#[]⟩ ns ts, rfl, .inr (.inr (.inr (.inr (.inl ⟨rfl, rfl, rfl, HN.out, by omega, HW.out⟩)))), HJ.out, HFM.out, HFG.out⟩
            simp only [results, show Tryz.f14.results = #[.cell 4 26] by kernel_rfl]
            go_simp
theorem value_any (w0 : World) (b : Nat) (hb : w0.heap.size ≤ b) : ∀ (N : Nat) (deep : Int), 0 ≤ deep → deep + N = 6 → ∀ w, Mst w0 w b → Calls Tryz.prog 14 #[.pointer (some ⟨b, 0, none⟩), .int .i64 deep] w fun e w' => VA w0 w w' b e := by
  intro N
  induction N with
  | zero => intro deep h0 h6 w hm; exact value_deep w0 w b hb hm deep (by omega) (by omega)
  | succ N ih => intro deep h0 h6 w hm; exact value_step w0 w b hb hm deep h0 (by omega) (fun W hW => ih (deep + 1) (by omega) (by omega) W hW)
end Go.Proofs.YtmelgankbegjaaaGreatDoor.Js

/- Points that are moved; one point as a geometry, its value; equal ones. Conditions: those written at each lemma. -/
import Derived.Test.YtfelbaibbanllaaGreatGem
import Derived.Test.YtfelbaibbanllaaGreatGeg
import Derived.Recover
set_option linter.unusedVariables false
set_option linter.unusedSimpArgs false
set_option maxRecDepth 100000
set_option maxHeartbeats 8000000
namespace Go.Proofs.YtfelbaibbanllaaGreat.Ge
open Go.RowKit Go.Proofs.YtfelbaibbanllaaGreat.B
attribute [local go_sem] run_store_float

theorem points_any (A : Option Addr) (c : Nat) (l : List (Nat × Nat)) (w : World) (hr : Rd w 2 (.slice A l.length c) l.length (pc l)) (hl : l.length ≤ 100000) :
    Calls Tryz.prog 29 #[.slice A l.length c, .int .u32 0] w fun e w' => ∃ A c, e = .returned (.slice A l.length c) ∧ w'.ownsRow w.heap.size 56 3 (.slice A l.length c) l.length (qc l) ∧ Below w.heap.size w w' := by
  have hX := (Below.refl w.heap.size w).alloc (Nat.le_refl _) (.cells #[.int .u32 0] 28)
  have T := Lib.hid (turned_any A c l w.heap.size (w.alloc (.cells #[.int .u32 0] 28)) (hr.below hX) (cell1 (heap_alloc_new w (.cells #[.int .u32 0] 28))).1 (by simp) hl)
  have HX := Lib.hid hX
  have mk := mkf
  clear hr hX
  go_enter Tryz.func29, Tryz.ntmps29
  go_wp2_with (go_at_call 40; go_loud ((with_reducible refine T.out.mono ?_); rintro e w2 ⟨A2, c2, rfl, ho, hb⟩; have HO := Lib.hid (ho.mono HX.out.size); have HB := Lib.hid (HX.out.trans (hb.mono HX.out.size)); clear ho hb))
  go_ret
  exact ⟨A2, c2, rfl, HO.out, HB.out⟩
theorem caught_idle (p : Addr) (w : World) :
    CallsD Tryz.prog 17 #[.pointer (some p)] .returning w fun e u' w' => e = .returned (.tuple #[]) ∧ u' = .returning ∧ w' = w := by
  refine callsD_of_wpS Tryz.func17 rfl fun c₀ cs hu => ?_
  apply wpS_seq
  apply wpS_region
  simp [wpOpsS, go_sem, recoverD, hu, Tryz.ntmps17, Exit.thenS]
  refine wpS_cond (t := false) (by simp [Act.eval, Array.replicate]) ?_
  simp only [Bool.false_eq_true, if_false]
  refine wpS_of_wp (wp_skip ?_)
  cases c₀
  simp_all [bodyPostS, results, Tryz.results17]
theorem choose_list {α : Type} {n : Nat} {p : Nat → α → Prop} (h : ∀ i, i < n → ∃ a, p i a) : ∃ l : List α, l.length = n ∧ ∀ i (hi : i < l.length), p i l[i] := by
  induction n with
  | zero => exact ⟨[], rfl, fun i hi => by simp at hi⟩
  | succ n ih =>
    obtain ⟨l, hl, hp⟩ := ih (fun i hi => h i (by omega))
    obtain ⟨a, ha⟩ := h n (by omega)
    refine ⟨l ++ [a], by simp [hl], fun i hi => ?_⟩
    by_cases hlt : i < l.length
    · rw [List.getElem_append_left hlt]
      exact hp i hlt
    · have e : i = n := by simp at hi; omega
      subst e
      rw [List.getElem_append_right (by omega)]
      simpa [hl] using ha
/-- Points that are moved, in memory of the call's own. -/
def Moved (zs : List (Int × Int)) (a b : Int) (w : World) (e : Ending) (w' : World) : Prop := ∃ A c l, e = .returned (.slice A zs.length c) ∧ w'.ownsRow w.heap.size 24 2 (.slice A zs.length c) zs.length (pc l) ∧ Fp l (zs.map (mv a b)) ∧ Below w.heap.size w w'
theorem moved_any (A : Option Addr) (c : Nat) (l : List (Nat × Nat)) (zs : List (Int × Int)) (a b : Int) (w : World) (hr : Rd w 2 (.slice A zs.length c) zs.length (pc l)) (hz : Fp l zs) (hbd : Bd 1000 zs) (hl : zs.length ≤ 100) (ha : -128 ≤ a ∧ a ≤ 127) (hb : -128 ≤ b ∧ b ≤ 127) :
    Calls Tryz.prog 7 #[.slice A zs.length c, .int .i8 a, .int .i8 b] w fun e w' => Moved zs a b w e w' := by
  have HR := Lib.hid hr
  have HZ := Lib.hid hz
  have HBD := Lib.hid hbd
  have FA := Lib.hid (F.of_int a (by omega))
  have FB := Lib.hid (F.of_int b (by omega))
  unfold Moved
  obtain ⟨N, hN⟩ : ∃ N, N = zs.length := ⟨_, rfl⟩
  have HN := Lib.hid hN
  rw [← hN]
  rw [← hN] at HR
  have hNl : N ≤ 100 := by omega
  clear hr hz hbd hN hl
  go_enter Tryz.func7, Tryz.ntmps7
  go_wp2
  go_loopw [7, 9, 12] (fun v7 v9 v12 wr => ∃ (k : Nat) (l' : List (Nat × Nat)), v12 = .int .i64 k ∧ k ≤ N ∧ Hid (wr.ownsRow w.heap.size 24 2 v7 k (pc l')) ∧ Hid (Fp l' ((zs.take k).map (mv a b))) ∧ Hid (Below w.heap.size w wr)) (fun _ _ v12 _ => (N - (intOf v12)).toNat)
  case atStart => exact ⟨0, [], rfl, Nat.zero_le _, Lib.hid (World.ownsRow_nil _ _ _ _), Lib.hid ⟨rfl, fun i h => by simp at h⟩, Lib.hid (Below.refl _ _)⟩
  case round =>
    obtain ⟨k, l', rfl, hk, HO, HF, HB⟩ := hrel
    by_cases hlt : k < N
    · have hlz : k < zs.length := by rw [← HN.out]; exact hlt
      have hll : k < l.length := by rw [HZ.out.1]; exact hlz
      obtain ⟨b', o, rfl, hb', h0, h1⟩ := pc_at HR.out k hll
      have c0 := (HB.out.cell (p := ⟨b', o + k * 2, none⟩) hb').trans h0
      have c1 := (HB.out.cell (p := ⟨b', o + k * 2 + 1, none⟩) hb').trans h1
      have hbs := HB.out.size
      obtain ⟨f1, f2⟩ := HZ.out.2 k hll hlz
      obtain ⟨b1, b2, b3, b4⟩ := HBD.out _ (List.getElem_mem hlz)
      obtain ⟨d1, e1, g1⟩ := f1.add FA.out (by omega)
      obtain ⟨d2, e2, g2⟩ := f2.add FB.out (by omega)
      have HT := Lib.hid (show (zs.take (k + 1)).map (mv a b) = (zs.take k).map (mv a b) ++ [mv a b zs[k]] from by rw [take_snoc zs k hlz, List.map_append]; rfl)
      have HF2 : Hid (Fp (l' ++ [(d1, d2)]) ((zs.take (k + 1)).map (mv a b))) := Lib.hid (by rw [HT.out]; exact HF.out.snoc ⟨g1, g2⟩)
      have HPC := Lib.hid (show pc (l' ++ [(d1, d2)]) = pc l' ++ [.float .f64 d1, .float .f64 d2] from pc_append _ _)
      clear h0 h1 f1 f2 g1 g2 b1 b2 b3 b4
      generalize l[k] = p at *
      obtain ⟨x, y⟩ := p
      simp only at c0 c1 e1 e2
      have t1 : ∀ W, (binOp .add 22 (.float .f64 x) (.float .f64 (floatOfInt .f64 a))).run Tryz.prog W = .ok (.float .f64 d1) W := fun W => run_float_arith (P := Tryz.prog) W .add 22 .f64 _ _ d1 e1
      have t2 : ∀ W, (binOp .add 22 (.float .f64 y) (.float .f64 (floatOfInt .f64 b))).run Tryz.prog W = .ok (.float .f64 d2) W := fun W => run_float_arith (P := Tryz.prog) W .add 22 .f64 _ _ d2 e2
      have HB1 := Lib.hid (HB.out.alloc hbs (.cells #[.float .f64 x, .float .f64 y] 24))
      have HO1 := Lib.hid (own_below HO.out ((Below.refl _ _).alloc (Nat.le_refl _) (.cells #[.float .f64 x, .float .f64 y] 24)))
      clear e1 e2
      go_wp2_with (at_builtin; go_loud (refine app1s (w0 := w) (W := wr.alloc (.cells #[.float .f64 x, .float .f64 y] 24)) w.heap.size rfl (.tmp 16) (.tmp 28) 27 24 (.agg #[.float .f64 0, .float .f64 0]) 2 16 rfl Tryz.underlying27 info28 rfl (by omega) (by omega) u7 _ _ _ rfl (by simp [Act.eval]) rfl (one2 rfl rfl) HO1.out HB1.out HB1.out.size (by omega) ?_); intro A9 c9 w3 hown3 hb3 hg3; have HO3 := Lib.hid hown3; have HB3 := Lib.hid hb3; clear hown3 hb3 hg3)
      go_roundw
      case rel => exact ⟨k + 1, l' ++ [(d1, d2)], by go_num, by omega, Lib.hid (by rw [HPC.out]; exact HO3.out), HF2, HB3⟩
      case measure => simp [intOf]; omega
    · have hkN : k = N := by omega
      subst hkN
      have HFF : Hid (Fp l' (zs.map (mv a b))) := Lib.hid (by have h := HF.out; rwa [HN.out, List.take_length] at h)
      obtain ⟨A3, c3, rfl, _⟩ := (Rd.of_own HO.out).shape
      go_wp2
      go_ret
      exact ⟨A3, c3, l', rfl, HO.out, HFF.out, HB.out⟩
end Go.Proofs.YtfelbaibbanllaaGreat.Ge

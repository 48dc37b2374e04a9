/- The law FnGEArea for whatever points. Conditions: those written at each lemma. -/
import Derived.Test.YtfelbaibbanllaaGep
import Derived.Test.YtfelbaibbanllaaGeo
import Derived.Test.YtfelbaibbanllaaGel
set_option linter.unusedVariables false
set_option linter.unusedSimpArgs false
set_option maxRecDepth 100000
set_option maxHeartbeats 8000000
namespace Go.Proofs.Ytfelbaibbanllaa.Ge
open Go.RowKit Go.Proofs.Ytfelbaibbanllaa.B Go.ChangeShapes Go.WideShapes

abbrev two : Nat := 4611686018427387904
abbrev three : Nat := 4613937818241073152
def box : List (Nat × Nat) := [(0, 0), (two, 0), (two, three), (0, three), (0, 0)]
def boxz : List (Int × Int) := [(0, 0), (2, 0), (2, 3), (0, 3), (0, 0)]
theorem FI_two : F.FI two 2 := F.of_int 2 (by decide)
theorem FI_three : F.FI three 3 := F.of_int 3 (by decide)
theorem box_fp : Fp box boxz := by
  refine ⟨rfl, fun i h1 h2 => ?_⟩
  match i, h1 with
  | 0, _ => exact ⟨FI_zero, FI_zero⟩
  | 1, _ => exact ⟨FI_two, FI_zero⟩
  | 2, _ => exact ⟨FI_two, FI_three⟩
  | 3, _ => exact ⟨FI_zero, FI_three⟩
  | 4, _ => exact ⟨FI_zero, FI_zero⟩
  | n + 5, h => exact absurd h (by simp [box])
theorem box_bd : Bd 1128 boxz := fun p hp => by
  simp only [boxz, List.mem_cons, List.not_mem_nil, or_false] at hp
  rcases hp with rfl | rfl | rfl | rfl | rfl <;> decide
theorem FH_six : F.FH 4618441417868443648 12 := by
  have h : F.FI 4618441417868443648 6 := F.of_int 6 (by decide)
  have e : (6 : Int) * 2 ^ 1074 = 12 * 2 ^ 1073 := by rw [F.pow_int 1074 1073 rfl]; generalize (2 : Int) ^ 1073 = u; omega
  unfold F.FI at h
  rw [e] at h
  exact h
theorem area_box (A : Option Addr) (c : Nat) (w : World) (hr : Rd w 2 (.slice A 5 c) 5 (pc box)) : Calls Try.prog 12 #[.slice A 5 c] w fun e w' => ∃ x, e = .returned (.float .f64 x) ∧ (FloatKind.f64.format.order x 4618441417868443648 == some .eq) = true ∧ Below w.heap.size w w' := by
  refine (geArea_any A c 4 box boxz w hr rfl box_fp box_bd (by decide)).mono ?_
  rintro e w' ⟨x, rfl, hx, hb⟩
  exact ⟨x, rfl, (hx.eq FH_six).trans (by decide), hb⟩
/-- Whole numbers for points. -/
theorem zs_of {l : List (Nat × Nat)} (h : ∀ p ∈ l, Whole 1000 p) : ∃ zs, Fp l zs ∧ Bd 1000 zs := by
  obtain ⟨zs, hl, hp⟩ := choose_list (n := l.length) (p := fun i (z : Int × Int) => ∀ h : i < l.length, F.FI l[i].1 z.1 ∧ F.FI l[i].2 z.2 ∧ -1000 ≤ z.1 ∧ z.1 ≤ 1000 ∧ -1000 ≤ z.2 ∧ z.2 ≤ 1000) (fun i hi => by
    obtain ⟨m, n, h1, h2, h3, h4, h5, h6⟩ := h _ (List.getElem_mem hi)
    exact ⟨(m, n), fun _ => ⟨h1, h2, h3, h4, h5, h6⟩⟩)
  refine ⟨zs, ⟨hl.symm, fun i h1 h2 => ?_⟩, fun z hz => ?_⟩
  · have := hp i h2 h1
    exact ⟨this.1, this.2.1⟩
  · obtain ⟨i, hi, rfl⟩ := List.getElem_of_mem hz
    exact (hp i hi (by omega)).2.2
theorem Bd.up {l : List (Int × Int)} (h : Bd 1000 l) : Bd 1128 l := fun p hp => by
  have := h p hp
  omega
theorem Bd.mv {l : List (Int × Int)} {a b : Int} (h : Bd 1000 l) (ha : -128 ≤ a ∧ a ≤ 127) (hb : -128 ≤ b ∧ b ≤ 127) : Bd 1128 (l.map (mv a b)) := fun p hp => by
  obtain ⟨q, hq, rfl⟩ := List.mem_map.1 hp
  have := h q hq
  unfold Ge.mv
  simp only
  omega
theorem own_some {W : World} {B n cap : Nat} {A : Option Addr} {xs : List Value} (h : W.ownsRow B 28 2 (.slice A (n + 1) cap) (n + 1) xs) : ∃ g, A = some ⟨g, 0, none⟩ := by
  rcases h.2 with ⟨h2, h3⟩ | ⟨g, _, _, h1, _⟩
  · exact absurd h3 (by omega)
  · injection h1 with h1
    exact ⟨g, h1⟩

theorem law3_any (A : Option Addr) (c : Nat) (l : List (Nat × Nat)) (a b : Int) (w : World) (hr : Rd w 2 (.slice A l.length c) l.length (pc l)) (h64 : W64 l) (ha : -128 ≤ a ∧ a ≤ 127) (hb : -128 ≤ b ∧ b ≤ 127) :
    Calls Try.prog 3 #[.slice A l.length c, .int .i8 a, .int .i8 b] w fun e w' => e = .returned (.bool true) ∧ Below w.heap.size w w' := by
  have hmx := hr.le
  by_cases hbig : l.length ≤ 2147483647
  · have SM := Lib.hid (small_any A c l 3 w hr h64 (by omega))
    have HR := Lib.hid hr
    clear hr h64
    go_enter Try.func3, Try.ntmps3
    go_wp2_with fail
    refine SM.out.mono ?_
    rintro e w1 ⟨ok, rfl, hok, hb1⟩
    have HB1 := Lib.hid hb1
    clear hb1
    rcases ok with _ | _
    · clear hok
      go_wp2
      go_ret
      exact ⟨rfl, HB1.out⟩
    · obtain ⟨h2, h12, hw⟩ := hok rfl
      obtain ⟨p, l', hpl⟩ := cons_of (l := l) (by omega)
      subst hpl
      obtain ⟨zs0, hz0, hbd0⟩ := zs_of hw
      have hzl : zs0.length = (p :: l').length := hz0.1.symm
      obtain ⟨z, r, hzr⟩ := cons_of (l := zs0) (by rw [hzl]; simp)
      subst hzr
      have hfp : Fp (p :: l' ++ [p]) (z :: r ++ [z]) := hz0.snoc (hz0.2 0 (by simp) (by simp))
      have hbd : Bd 1000 (z :: r ++ [z]) := fun q hq => by
        rcases List.mem_append.1 hq with h | h
        · exact hbd0 q h
        · rw [List.mem_singleton.1 h]; exact hbd0 z List.mem_cons_self
      have hS := Sl_ring a b z r
      have hSr := Sl_reverse (z :: r ++ [z])
      have RG := Lib.hid (geRing_any A c p l' w1 (HR.out.below HB1.out) (by omega))
      unfold Copy at RG
      obtain ⟨m, hm⟩ : ∃ m, (p :: l' ++ [p]).length = m + 1 := ⟨(p :: l').length, by simp⟩
      have hm12 : m ≤ 12 := by simp at hm h12; omega
      rw [hm] at RG
      have hzm : (z :: r ++ [z]).length = m + 1 := by rw [← hfp.1]; exact hm
      generalize p :: l' ++ [p] = L at *
      generalize z :: r ++ [z] = zs at *
      have HFP := Lib.hid hfp
      have HBD := Lib.hid hbd
      have HLm := Lib.hid hm
      have HZm := Lib.hid hzm
      have HS := Lib.hid hS
      have HSR := Lib.hid hSr
      have CL := Lib.hid (fun W A2 c2 (h : Rd W 2 (.slice A2 (m + 1) c2) (m + 1) (pc L)) => show Calls Try.prog 9 #[.slice A2 (m + 1) c2] W fun e w' => ∃ g c, e = .returned (.slice (some ⟨g, 0, none⟩) (m + 1) c) ∧ w'.ownsRow W.heap.size 28 2 (.slice (some ⟨g, 0, none⟩) (m + 1) c) (m + 1) (pc L) ∧ Below W.heap.size W w' from by
        have hc := clone_any A2 c2 L W (by rw [hm]; exact h) (by omega)
        rw [hm] at hc
        refine hc.mono ?_
        rintro e w' ⟨A3, c3, rfl, ho, hb⟩
        rw [hm] at ho
        obtain ⟨g, rfl⟩ := own_some ho
        exact ⟨g, c3, by rw [hm], ho, hb⟩)
      have TU := Lib.hid (fun W B g c (h : W.ownsRow B 28 2 (.slice (some ⟨g, 0, none⟩) (m + 1) c) (m + 1) (pc L)) => turn_any g c m B L W h hm (by omega))
      have TW := Lib.hid (fun W A2 c2 (h : Rd W 2 (.slice A2 (m + 1) c2) (m + 1) (pc L)) => twice_any A2 c2 m L zs W h hm hfp hbd.up (by omega))
      have AR := Lib.hid (fun W A2 c2 (h : Rd W 2 (.slice A2 (m + 1) c2) (m + 1) (pc L)) => geArea_any A2 c2 m L zs W h hm hfp hbd.up (by omega))
      have AT := Lib.hid (fun W A2 c2 (h : Rd W 2 (.slice A2 (m + 1) c2) (m + 1) (pc L.reverse)) => geArea_any A2 c2 m L.reverse zs.reverse W h (by simpa using hm) hfp.reverse (fun q hq => hbd.up q (List.mem_reverse.1 hq)) (by omega))
      have MV := Lib.hid (fun W A2 c2 (h : Rd W 2 (.slice A2 (m + 1) c2) (m + 1) (pc L)) => show Calls Try.prog 13 #[.slice A2 (m + 1) c2, .int .i8 a, .int .i8 b] W fun e w' => ∃ A c l2, e = .returned (.slice A (m + 1) c) ∧ Rd w' 2 (.slice A (m + 1) c) (m + 1) (pc l2) ∧ Fp l2 (zs.map (mv a b)) ∧ Below W.heap.size W w' from by
        have hc := moved_any A2 c2 L zs a b W (by rw [hzm]; exact h) hfp hbd (by omega) ha hb
        rw [hzm] at hc
        refine hc.mono ?_
        rintro e w' ⟨A3, c3, l2, rfl, ho, hf, hb⟩
        rw [hzm] at ho
        exact ⟨A3, c3, l2, by rw [hzm], Rd.of_own ho, hf, hb⟩)
      have AM := Lib.hid (fun W A2 c2 l2 (h : Rd W 2 (.slice A2 (m + 1) c2) (m + 1) (pc l2)) (hf : Fp l2 (zs.map (mv a b))) => geArea_any A2 c2 m l2 (zs.map (mv a b)) W h (by rw [hf.1, List.length_map]; exact hzm) hf (hbd.mv ha hb) (by omega))
      have BX := Lib.hid (fun (W : World) => area_box (some ⟨W.heap.size, 0, none⟩) 5 (W.alloc (.cells #[.float .f64 0, .float .f64 0, .float .f64 two, .float .f64 0, .float .f64 two, .float .f64 three, .float .f64 0, .float .f64 three, .float .f64 0, .float .f64 0] 28)) (Rd.of_own (World.ownsRow_lit (base := W.heap.size) (e := 28) (size := 2) W #[.float .f64 0, .float .f64 0, .float .f64 two, .float .f64 0, .float .f64 two, .float .f64 three, .float .f64 0, .float .f64 three, .float .f64 0, .float .f64 0] 5 (Nat.le_refl _) (by simp [maxLen]) rfl)))
      have hSB := Sl_bd zs hbd.up
      rw [hzm] at hSB
      obtain ⟨S, hSS⟩ : ∃ S : Nat, S = (Sl zs).natAbs := ⟨_, rfl⟩
      have HSS := Lib.hid hSS
      have hS53 : S < 9007199254740992 := by omega
      clear hok hw hbig hmx hz0 hbd0 hzl hfp hbd hm hzm hS hSr hSS hSB h2 h12 SM HR
      generalize (p :: l').length = N at *
      go_wp2_with (first
        | (go_at_call 8; go_loud (with_reducible refine RG.out.mono ?_); rintro e w2 ⟨A2, c2, rfl, ho, hb⟩; go_loud (have HR2 := Lib.hid (Rd.of_own ho); have HB2 := Lib.hid (HB1.out.trans (hb.mono HB1.out.size)); clear ho hb))
        | (go_at_call 9; go_loud (with_reducible refine (CL.out _ _ _ HR2.out).mono ?_); rintro e w3 ⟨g, c3, rfl, ho, hb⟩; go_loud (have HO3 := Lib.hid ho; have HB3 := Lib.hid hb; clear ho hb))
        | (go_at_call 10; go_loud (with_reducible refine (TU.out _ _ _ _ HO3.out).mono ?_); rintro e w4 ⟨rfl, ho, hb⟩; go_loud (have HR4 := Lib.hid (Rd.of_own ho); have HB4 := Lib.hid (HB3.out.trans hb); have HRL4 := Lib.hid (HR2.out.below HB4.out); clear ho hb))
        | (go_at_call 11; go_loud (with_reducible refine (TW.out _ _ _ HRL4.out).mono ?_); rintro e w5 ⟨x, rfl, hx, hx64, hb⟩; go_loud (obtain ⟨d, hd, hh⟩ := F.half_FI hx (by have := HSS.out; omega); have HD := Lib.hid (show F.FH d (S : Int) from by rw [HSS.out]; exact hh); have t1 : ∀ W, (binOp .quo 26 (.float .f64 x) (.float .f64 4611686018427387904)).run Try.prog W = .ok (.float .f64 d) W := fun W => run_float_arith (P := Try.prog) W .quo 26 .f64 _ _ d hd; have HB5 := Lib.hid (HB4.out.trans (hb.mono HB4.out.size)); have HR5 := Lib.hid (HR4.out.below hb); clear hx hx64 hd hh hb))
        | (go_at_call 12; (with_reducible refine (AR.out _ _ _ (HR2.out.below HB5.out)).mono ?_); rintro e w6 ⟨y, rfl, hy, hb⟩; go_loud (have q1 : (FloatKind.f64.format.order y d == some .eq) = true := (hy.eq HD.out).trans (decide_eq_true (by rw [HSS.out])); have HB6 := Lib.hid (HB5.out.trans (hb.mono HB5.out.size)); have HR6 := Lib.hid (HR5.out.below hb); clear hy hb))
        | (go_at_call 12; (with_reducible refine (AT.out _ _ _ HR6.out).mono ?_); rintro e w7 ⟨y2, rfl, hy, hb⟩; go_loud (have q2 : (FloatKind.f64.format.order y2 d == some .eq) = true := (hy.eq HD.out).trans (decide_eq_true (by rw [HSS.out, HSR.out]; omega)); have HB7 := Lib.hid (HB6.out.trans (hb.mono HB6.out.size)); clear hy hb))
        | (go_at_call 13; go_loud (with_reducible refine (MV.out _ _ _ (HR2.out.below HB7.out)).mono ?_); rintro e w8 ⟨A8, c8, l8, rfl, hr8, hf8, hb⟩; go_loud (have HR8 := Lib.hid hr8; have HF8 := Lib.hid hf8; have HB8 := Lib.hid (HB7.out.trans (hb.mono HB7.out.size)); clear hr8 hf8 hb))
        | (go_at_call 12; (with_reducible refine (AM.out _ _ _ _ HR8.out HF8.out).mono ?_); rintro e w9 ⟨y3, rfl, hy, hb⟩; go_loud (have q3 : (FloatKind.f64.format.order y3 d == some .eq) = true := (hy.eq HD.out).trans (decide_eq_true (by rw [HSS.out, HS.out])); have HB9 := Lib.hid (HB8.out.trans (hb.mono HB8.out.size)); clear hy hb))
        | (go_at_call 12; (with_reducible refine (BX.out _).mono ?_); rintro e wa ⟨y4, rfl, q4, hb⟩; go_loud (have HBa := Lib.hid (((HB9.out.alloc HB9.out.size _).trans (hb.mono (by have := HB9.out.size; simp; omega)))); clear hb)))
      go_ret
      exact ⟨rfl, HB2.out.trans (HBa.out.mono HB2.out.size)⟩
  · clear hr h64
    go_enter Try.func3, Try.ntmps3
    go_wp2
    go_ret
    exact ⟨rfl, Below.refl _ _⟩
theorem law3_raw {H : Type} {enc : TypeId × Value → H} {b0 : Nat} {d : DataW H} {p : List MemPlace} (v : Value) (a b : Int) (W : World) (hok : Value.okWide Try.prog W .any b0 22 v) (h : DataW.Trod enc Try.prog W 0 (fun _ => true) true 22 v d p) (wa : (Lit.int .i8 a).wf = true) (wb : (Lit.int .i8 b).wf = true) :
    Calls Try.prog 3 #[v, .int .i8 a, .int .i8 b] W fun e w' => e = .returned (.bool true) ∧ Below W.heap.size W w' := by
  obtain ⟨A, c, l, rfl, hr, hw⟩ := pts_raw hok h
  have h1 : -128 ≤ a ∧ a ≤ 127 := bounds_i8 wa
  have h2 : -128 ≤ b ∧ b ≤ 127 := bounds_i8 wb
  exact law3_any A c l a b W hr hw h1 h2
end Go.Proofs.Ytfelbaibbanllaa.Ge

/- The walk of eqSets. Conditions: those written at each lemma. -/
import Derived.Test.YtbhlhgfgkiclgaaDoorSgj
set_option linter.unusedVariables false
set_option linter.unusedSimpArgs false
set_option maxRecDepth 100000
set_option maxHeartbeats 8000000
namespace Go.Proofs.YtbhlhgfgkiclgaaDoor.Set
open Go.RowKit Go.Proofs.YtbhlhgfgkiclgaaDoor.B

def m30 (y : Int) : Int := y.tmod 30 % 30
theorem m30_bd (y : Int) : 0 ≤ m30 y ∧ m30 y < 30 ∧ -30 < y.tmod 30 ∧ y.tmod 30 < 30 := by
  have h1 := Int.natAbs_tmod y 30
  rw [show Int.natAbs 30 = 30 from rfl] at h1
  unfold m30
  omega
theorem ins_up {xs : List Int} (h : Srt xs) (z : Int) : ins (up xs) (z + 1) = up (ins xs z) := by
  refine srt_ext (srt_ins (srt_up h) _) (srt_up (srt_ins h z)) fun u => ?_
  rw [mem_ins (srt_up h), mem_up, mem_up, mem_ins h]
  constructor
  · rintro (h | h)
    · exact .inl h
    · exact .inr (by omega)
  · rintro (h | h)
    · exact .inl h
    · exact .inr (by omega)
def Good30 (xs : List Int) : Prop := Srt xs ∧ xs ≠ [] ∧ ∀ u ∈ xs, 0 ≤ u ∧ u < 30
/-- What eqSets hands back. -/
def Sets30 (w : World) (e : Ending) (w' : World) : Prop := ∃ (A : Option Addr) (c : Nat) (xss : List (List Int)) (vs : List Value), e = .returned (.slice A xss.length c) ∧ w'.ownsRow w.heap.size 22 1 (.slice A xss.length c) xss.length vs ∧ All1 (O1 w' w.heap.size) vs (xss.map up) ∧ (∀ xs ∈ xss, Good30 xs) ∧ xss ≠ [] ∧ xss.length ≤ 13 ∧ Below w.heap.size w w'

theorem eqs_any (v : Value) (ls : List (List Int)) (w : World) (hr : RL w v ls) (hl : ls.length ≤ 2147483647) (hll : ∀ l ∈ ls, l.length ≤ 2147483647) :
    Calls Tryd.prog 12 #[v] w fun e w' => Sets30 w e w' := by
  obtain ⟨vs1, A1, c1, rfl, hrd1, hall1⟩ := hr
  have G1 := Lib.hid (fun k hk => RL.get hrd1 hall1 k hk)
  have HLL := Lib.hid hll
  clear hrd1 hall1 hll
  go_enter Tryd.func12, Tryd.ntmps12
  go_wp2
  go_loopw [3, 4, 5, 6] (fun v3 v4 v5 v6 wr => ∃ (i : Nat) (xss : List (List Int)) (vs : List Value), v4 = .int .i64 i ∧ i ≤ ls.length ∧ i ≤ 12 ∧ xss.length ≤ i ∧ Hid (wr.ownsRow w.heap.size 22 1 v3 xss.length vs) ∧ Hid (All1 (O1 wr w.heap.size) vs (xss.map up)) ∧ Hid (∀ xs ∈ xss, Good30 xs) ∧ Hid (Below w.heap.size w wr)) (fun _ v4 _ _ _ => (ls.length - (intOf v4)).toNat)
  case atStart => exact ⟨0, [], [], rfl, Nat.zero_le _, Nat.zero_le _, Nat.le_refl _, Lib.hid (World.ownsRow_nil _ _ _ _), Lib.hid (All1.nil _), Lib.hid (by simp), Lib.hid (Below.refl _ _)⟩
  case round =>
    obtain ⟨i, xss, vs, rfl, hi, hi12, hxl, HO, HA, HG, HB⟩ := hrel
    by_cases hcont : i < ls.length ∧ i < 12
    · obtain ⟨hlt, h12⟩ := hcont
      have d12 : decide ((i : Int) < 12) = true := decide_eq_true (by omega)
      have dl : decide ((i : Int) < (ls.length : Int)) = true := decide_eq_true (by omega)
      obtain ⟨b, o, A3, c3, rfl, hb, hc, hR⟩ := G1.out i hlt
      have hsl := HLL.out _ (List.getElem_mem hlt)
      have HC1 := Lib.hid (fun W (hW : Below w.heap.size w W) => (hW.cell (p := ⟨b, o + i, none⟩) hb).trans hc)
      have HR1 := Lib.hid hR
      generalize ls[i] = s at *
      clear hb hc hR
      obtain ⟨wq, e⟩ : ∃ wq, wq = wr := ⟨_, rfl⟩
      subst e
      obtain ⟨v3', e3⟩ : ∃ v3', v3' = u3 := ⟨_, rfl⟩
      subst e3
      have hbs := HB.out.size
      go_wp2
      go_loopw [5, 6] (fun v5 v6 wr => ∃ (j : Nat) (xs : List Int), v6 = .int .i64 j ∧ j ≤ s.length ∧ j ≤ 5 ∧ xs.length ≤ j ∧ Hid (Srt xs ∧ ∀ u ∈ xs, 0 ≤ u ∧ u < 30) ∧ Hid (wr.ownsRow wq.heap.size 3 1 v5 (up xs).length (nums (up xs))) ∧ Hid (Below wq.heap.size wq wr)) (fun _ v6 _ => (s.length - (intOf v6)).toNat)
      case atStart => exact ⟨0, [], rfl, Nat.zero_le _, Nat.zero_le _, Nat.le_refl _, Lib.hid ⟨List.Pairwise.nil, by simp⟩, Lib.hid (World.ownsRow_nil _ _ _ _), Lib.hid (Below.refl _ _)⟩
      case round =>
        obtain ⟨j, xs, rfl, hj, hj5, hxj, HX, HOx, HBx⟩ := hrel
        have HBr := Lib.hid (HB.out.trans (HBx.out.mono hbs))
        have hcw := HC1.out _ HBr.out
        have HUL := Lib.hid (up_len xs)
        by_cases hcj : j < s.length ∧ j < 5
        · obtain ⟨hjt, hj5'⟩ := hcj
          have d5 : decide ((j : Int) < 5) = true := decide_eq_true (by omega)
          have dj : decide ((j : Int) < (s.length : Int)) = true := decide_eq_true (by omega)
          obtain ⟨b2, o2, rfl, hb2, hc2⟩ := rd_num HR1.out j hjt
          have hcw2 : wr.cell? ⟨b2, o2 + j, none⟩ = some (.int .i64 s[j]) := (HBr.out.cell (p := ⟨b2, o2 + j, none⟩) hb2).trans hc2
          obtain ⟨z0, z1, z2, z3⟩ := m30_bd s[j]
          have PU := isPut_any u5 (up xs) (1 + m30 s[j]) wr (Rd.of_own HOx.out) (by rw [up_len]; omega)
          rw [putR_ins _ _ (srt_up HX.out.1), show 1 + m30 s[j] = m30 s[j] + 1 by omega, ins_up HX.out.1, show m30 s[j] + 1 = 1 + m30 s[j] by omega] at PU
          have HX2 := Lib.hid (show Srt (ins xs (m30 s[j])) ∧ ∀ u ∈ ins xs (m30 s[j]), 0 ≤ u ∧ u < 30 from ⟨srt_ins HX.out.1 _, fun u hu => by
            rcases (mem_ins HX.out.1 _ u).1 hu with h | h
            · exact HX.out.2 u h
            · omega⟩)
          have hil := ins_len xs (m30 s[j])
          generalize hzz : ins xs (m30 s[j]) = xs2 at *
          clear hzz hc2
          unfold m30 at PU
          have PU := Lib.hid PU
          generalize s[j] = y at *
          go_wp2_with (first
            | (go_at_call 6; go_loud (with_reducible refine PU.out.mono ?_); rintro e w1 ⟨v1, rfl, hown, hb1⟩; have HO1 := Lib.hid (hown.mono HBx.out.size); have HB1 := Lib.hid (HBx.out.trans (hb1.mono HBx.out.size)); clear hown hb1))
          go_roundw
          case rel => exact ⟨j + 1, xs2, by go_num, by omega, by omega, by omega, HX2, HO1, HB1⟩
          case measure => simp [intOf]; omega
        · have hex : ¬ ((j : Int) < s.length ∧ (j : Int) < 5) := fun h => hcj ⟨by omega, by omega⟩
          obtain ⟨A5, c5, rfl, _⟩ := (Rd.of_own HOx.out).shape
          have HO2 := Lib.hid (own_below HO.out HBx.out)
          have HA2 := Lib.hid (HA.out.imp fun _ _ h => h.below HBx.out)
          have HO5 := Lib.hid (HOx.out.mono hbs)
          have hbr := HBr.out.size
          by_cases h2 : 1 < xs.length
          · have hu2 : 1 < (up xs).length := by rw [up_len]; exact h2
            have HGN : Hid (∀ ys ∈ xss ++ [xs], Good30 ys) := Lib.hid (fun ys hys => by
              rcases List.mem_append.1 hys with h | h
              · exact HG.out ys h
              · rw [List.mem_singleton.1 h]; exact ⟨HX.out.1, fun e => by rw [e] at h2; simp at h2, HX.out.2⟩)
            have HM := Lib.hid (show (xss ++ [xs]).map up = xss.map up ++ [up xs] from List.map_append ..)
            have HLN := Lib.hid (show (xss ++ [xs]).length = xss.length + 1 by simp)
            by_cases hj1 : j < s.length
            all_goals
              go_wp2_with (first
                | (at_builtin; go_loud (refine app1 (w0 := w) w.heap.size rfl (.tmp 46) (.tmp 48) 29 22 (.slice none 0 0) 1 24 rfl Tryd.underlying29 info22 rfl (by omega) (by omega) v3' _ _ _ rfl rfl rfl (one1 rfl) HO2.out HBr.out hbr (by omega) ?_); intro v3 w3 hown3 hb3 hg3 _; have HO3 := Lib.hid hown3; have HB3 := Lib.hid hb3; have HG3 := Lib.hid hg3; clear hown3 hb3 hg3))
              go_roundw
              case rel => exact ⟨i + 1, xss ++ [xs], vs ++ [.slice A5 (up xs).length c5], by go_num, by omega, by omega, by rw [HLN.out]; omega, Lib.hid (by rw [HLN.out]; exact HO3.out), Lib.hid (by rw [HM.out]; exact (HA2.out.push ⟨A5, c5, rfl, HO5.out⟩).imp fun _ _ h => h.grown HO2.out HG3.out), HGN, HB3⟩
              case measure => simp [intOf]; omega
          · have hu2 : ¬ 1 < (up xs).length := by rw [up_len]; exact h2
            by_cases hj1 : j < s.length
            all_goals
              go_wp2
              go_roundw
              case rel => exact ⟨i + 1, xss, vs, by go_num, by omega, by omega, by omega, HO2, HA2, HG, HBr⟩
              case measure => simp [intOf]; omega
    · have hbs := HB.out.size
      have hal : Below wr.heap.size wr (wr.alloc (.cells #[.int .i64 2, .int .i64 7] 3)) := (Below.refl _ _).alloc (Nat.le_refl _) _
      have HO1 := Lib.hid (own_below HO.out hal)
      have HA1 := Lib.hid (HA.out.imp fun _ _ h => h.below hal)
      have HB1 := Lib.hid (HB.out.alloc hbs (.cells #[.int .i64 2, .int .i64 7] 3))
      have HN := Lib.hid (World.ownsRow_lit (base := w.heap.size) (e := 3) (size := 1) wr #[.int .i64 2, .int .i64 7] 2 hbs (by simp [maxLen]) rfl)
      have HON : Hid (O1 (wr.alloc (.cells #[.int .i64 2, .int .i64 7] 3)) w.heap.size (.slice (some ⟨wr.heap.size, 0, none⟩) 2 2) (up [1, 6])) := Lib.hid ⟨_, 2, rfl, HN.out⟩
      have HGN : Hid (∀ ys ∈ xss ++ [[1, 6]], Good30 ys) := Lib.hid (fun ys hys => by
        rcases List.mem_append.1 hys with h | h
        · exact HG.out ys h
        · rw [List.mem_singleton.1 h]
          refine ⟨?_, by simp, ?_⟩
          · unfold Srt; simp
          · intro u hu
            simp at hu
            omega)
      have HM := Lib.hid (show (xss ++ [[1, 6]]).map up = xss.map up ++ [up [1, 6]] from List.map_append ..)
      have HLN := Lib.hid (show (xss ++ [[(1 : Int), 6]]).length = xss.length + 1 by simp)
      have hz1 : w.heap.size ≤ (wr.alloc (.cells #[.int .i64 2, .int .i64 7] 3)).heap.size := HB1.out.size
      have HSZ1 := Lib.hid (show wr.heap.size + 1 = (wr.alloc (.cells #[.int .i64 2, .int .i64 7] 3)).heap.size by simp)
      clear hal
      by_cases hi1 : i < ls.length
      · have d12 : decide ((i : Int) < 12) = false := decide_eq_false (fun h => hcont ⟨hi1, by omega⟩)
        have hi2 : i = 12 := by have := fun h => hcont ⟨hi1, h⟩; omega
        clear hcont
        go_wp2_with (first
          | (at_builtin; go_loud (refine app1s (w0 := w) (W := wr.alloc (.cells #[.int .i64 2, .int .i64 7] 3)) w.heap.size rfl (.tmp 50) (.tmp 52) 29 22 (.slice none 0 0) 1 24 rfl Tryd.underlying29 info22 rfl (by omega) (by omega) u3 _ _ _ rfl (congrArg (fun n => Value.slice (some ⟨n, 0, none⟩) 1 1) HSZ1.out) rfl (one1 rfl) HO1.out HB1.out hz1 (by omega) ?_); intro A9 c9 w3 hown3 hb3 hg3; have HO3 := Lib.hid hown3; have HB3 := Lib.hid hb3; have HG3 := Lib.hid hg3; clear hown3 hb3 hg3))
        go_ret
        refine ⟨A9, c9, xss ++ [[1, 6]], _, (by rw [HLN.out]; rfl), by rw [HLN.out]; exact HO3.out, ?_, HGN.out, by simp, by rw [HLN.out]; omega, HB3.out⟩
        rw [HM.out]
        exact (HA1.out.push HON.out).imp fun _ _ h => h.grown HO1.out HG3.out
      · have hi2 : i = ls.length := by omega
        clear hcont
        go_wp2_with (first
          | (at_builtin; go_loud (refine app1s (w0 := w) (W := wr.alloc (.cells #[.int .i64 2, .int .i64 7] 3)) w.heap.size rfl (.tmp 50) (.tmp 52) 29 22 (.slice none 0 0) 1 24 rfl Tryd.underlying29 info22 rfl (by omega) (by omega) u3 _ _ _ rfl (congrArg (fun n => Value.slice (some ⟨n, 0, none⟩) 1 1) HSZ1.out) rfl (one1 rfl) HO1.out HB1.out hz1 (by omega) ?_); intro A9 c9 w3 hown3 hb3 hg3; have HO3 := Lib.hid hown3; have HB3 := Lib.hid hb3; have HG3 := Lib.hid hg3; clear hown3 hb3 hg3))
        go_ret
        refine ⟨A9, c9, xss ++ [[1, 6]], _, (by rw [HLN.out]; rfl), by rw [HLN.out]; exact HO3.out, ?_, HGN.out, by simp, by rw [HLN.out]; omega, HB3.out⟩
        rw [HM.out]
        exact (HA1.out.push HON.out).imp fun _ _ h => h.grown HO1.out HG3.out
end Go.Proofs.YtbhlhgfgkiclgaaDoor.Set

/- RRIntersect; how the law makes its lists of ranges. Conditions: those written at each lemma. -/
import Derived.Test.YtfnogpelaoofbaaGreatDoorRrd
set_option linter.unusedVariables false
set_option linter.unusedSimpArgs false
set_option maxRecDepth 100000
set_option maxHeartbeats 8000000
namespace Go.Proofs.YtfnogpelaoofbaaGreatDoor.Rg
open Go.RowKit Go.Proofs.YtfnogpelaoofbaaGreatDoor.B Go.Proofs.YtfnogpelaoofbaaGreatDoor.Sp

/-- The lists that rrList makes. -/
def rrl (ls : List (List Cl)) (n m : Nat) : List (List Cl) := ((ls.take m).map fun l => fullN l n) ++ [fullN [⟨2, 1, 3, 4⟩] n]
theorem list_any (v : Value) (ls : List (List Cl)) (cc : Int) (n m : Nat) (w : World) (hr : RL w v ls) (h0 : 0 ≤ cc) (h1 : cc ≤ 255) (hn : (n : Int) = 1 + cc % 3) (hm : m ≤ 100) :
    Calls Tryz.prog 14 #[v, .int .u8 cc, .int .i64 (m : Int)] w fun e w' => ∃ A c, e = .returned (.tuple #[.slice A (rrl ls n m).length c, .int .i64 (n : Int)]) ∧ RL w' (.slice A (rrl ls n m).length c) (rrl ls n m) ∧ Below w.heap.size w w' := by
  obtain ⟨A, c, rfl, hlc, hcm⟩ : ∃ A c, v = .slice A ls.length c ∧ ls.length ≤ c ∧ c ≤ 9223372036854775807 := by
    obtain ⟨vs, A, c, h1, h2, _⟩ := hr
    subst h1
    obtain ⟨A', c', e, h3, h4⟩ := h2.shape
    injection e with e1 e2 e3
    subst e3
    exact ⟨A, c, rfl, h3, h4⟩
  have HR := Lib.hid hr
  have hn3 : n ≤ 1000 := by omega
  have HN := Lib.hid hn
  have HNN := Lib.hid hn.symm
  clear hn
  go_enter Tryz.func14, Tryz.ntmps14
  go_wp2
  rw [HNN.out]
  go_loopw [9, 10] (fun v9 v10 wr => ∃ (k : Nat) (vs : List Value), v10 = .int .i64 k ∧ k ≤ ls.length ∧ k ≤ m ∧ Hid (wr.ownsRow w.heap.size 22 1 v9 k vs) ∧ Hid (All1 (O1 wr w.heap.size) vs ((ls.take k).map fun l => fullN l n)) ∧ Hid (Below w.heap.size w wr)) (fun _ v10 _ => (ls.length - (intOf v10)).toNat)
  case atStart => exact ⟨0, [], rfl, Nat.zero_le _, Nat.zero_le _, Lib.hid (World.ownsRow_nil _ _ _ _), Lib.hid (All1.nil _), Lib.hid (Below.refl _ _)⟩
  case round =>
    obtain ⟨k, vs, rfl, hk, hkm, HO, HA, HB⟩ := hrel
    have hbs := HB.out.size
    by_cases hgo : k < ls.length ∧ k < m
    · obtain ⟨hlt, hltm⟩ := hgo
      obtain ⟨b, o, A3, c3, rfl, hb, hc, hr3⟩ := HR.out.get k hlt
      have hcw := (HB.out.cell (p := ⟨b, o + k, none⟩) hb).trans hc
      have R3 := Lib.hid (hr3.below HB.out)
      have HM := Lib.hid (show (ls.take (k + 1)).map (fun l => fullN l n) = (ls.take k).map (fun l => fullN l n) ++ [fullN ls[k] n] from by rw [take_snocA ls k hlt, List.map_append]; rfl)
      have hl3 := hr3.le
      clear hc hr3
      generalize ls[k] = L at *
      have FL := Lib.hid (fullN_len L n)
      go_wp2_with (first
        | (go_at_call 6; (with_reducible refine (rrfull_any (.slice A3 L.length c3) L n _ R3.out hn3).mono ?_); rintro e w4 ⟨A4, c4, rfl, ho4, hb4⟩; have O4 := Lib.hid (show O1 w4 w.heap.size (.slice A4 n c4) (fullN L n) from by (obtain ⟨A', c', e', ho'⟩ := O1.of (by rw [FL.out]; exact ho4); exact ⟨A', c', e', ho'.mono hbs⟩)); have HO4 := Lib.hid (own_below HO.out hb4); have HA4 := Lib.hid (HA.out.imp fun _ _ h => h.below hb4); have HB4 := Lib.hid (HB.out.trans (hb4.mono hbs)); clear ho4 hb4)
        | (at_builtin; go_loud (refine app1 (w0 := w) w.heap.size rfl (.tmp 26) (.tmp 33) 24 22 (.slice none 0 0) 1 24 rfl Tryz.underlying24 info28 rfl (by omega) (by omega) u9 _ _ _ rfl rfl rfl (one1 rfl) HO4.out HB4.out HB4.out.size (by omega) ?_); intro v5 w5 hown5 hb5 hg5 _; have HO5 := Lib.hid hown5; have HB5 := Lib.hid hb5; have HG5 := Lib.hid hg5; clear hown5 hb5 hg5))
      go_roundw
      case rel => exact ⟨k + 1, vs ++ [.slice A4 n c4], by go_num, by omega, by omega, Lib.hid HO5.out, Lib.hid (by rw [HM.out]; exact (HA4.out.push (l := fullN L n) O4.out).imp fun _ _ h => h.grown HO4.out HG5.out), HB5⟩
      case measure => simp [intOf]; omega
    · have HK : Hid (ls.take k = ls.take m) := Lib.hid (by
        rcases Nat.lt_or_ge k ls.length with h | h
        · rw [show k = m by omega]
        · rw [List.take_of_length_le h, List.take_of_length_le (by omega)])
      rw [HK.out] at HA
      have hlen : (rrl ls n m).length = k + 1 := by
        have h := congrArg List.length HK.out
        unfold rrl
        rw [List.length_append, List.length_map, ← h, List.length_take]
        simp; omega
      have HLEN := Lib.hid hlen
      have FL := Lib.hid (fullN_len [⟨2, 1, 3, 4⟩] n)
      have HA0 := Lib.hid ((Below.refl wr.heap.size wr).alloc (Nat.le_refl _) (cl4 ⟨2, 1, 3, 4⟩))
      have RN : Hid (Rd (wr.alloc (cl4 ⟨2, 1, 3, 4⟩)) 4 (.slice (some ⟨wr.heap.size, 0, none⟩) 1 1) 1 (clc [⟨2, 1, 3, 4⟩])) := Lib.hid (rd_new (size := 4) (n := 1) rfl (by omega))
      have hbs2 : w.heap.size ≤ (wr.alloc (cl4 ⟨2, 1, 3, 4⟩)).heap.size := Nat.le_trans hbs HA0.out.size
      have HOA := Lib.hid (own_below HO.out HA0.out)
      have HAA := Lib.hid (HA.out.imp fun _ _ h => h.below HA0.out)
      have HBA := Lib.hid (HB.out.trans (HA0.out.mono hbs))
      clear hlen
      rcases Nat.lt_or_ge k ls.length with hlt | hlt
      all_goals
        try (have hkm2 : ¬ k < m := fun h => hgo ⟨hlt, h⟩)
        clear hgo
        go_wp2_with (first
          | (go_at_call 6; go_loud (refine (rrfull_any (.slice (some ⟨wr.heap.size, 0, none⟩) 1 1) [⟨2, 1, 3, 4⟩] n _ RN.out hn3).mono ?_); rintro e w4 ⟨A4, c4, rfl, ho4, hb4⟩; have O4 := Lib.hid (show O1 w4 w.heap.size (.slice A4 n c4) (fullN [⟨2, 1, 3, 4⟩] n) from by (obtain ⟨A', c', e', ho'⟩ := O1.of (by rw [FL.out]; exact ho4); exact ⟨A', c', e', ho'.mono hbs2⟩)); have HO4 := Lib.hid (own_below HOA.out hb4); have HA4 := Lib.hid (HAA.out.imp fun _ _ h => h.below hb4); have HB4 := Lib.hid (HBA.out.trans (hb4.mono hbs2)); clear ho4 hb4)
          | (at_builtin; go_loud (refine app1 (w0 := w) w.heap.size rfl (.tmp 35) (.tmp 42) 24 22 (.slice none 0 0) 1 24 rfl Tryz.underlying24 info28 rfl (by omega) (by omega) u9 _ _ _ rfl rfl rfl (one1 rfl) HO4.out HB4.out HB4.out.size (by omega) ?_); intro v5 w5 hown5 hb5 hg5 _; have HO5 := Lib.hid hown5; have HB5 := Lib.hid hb5; have HG5 := Lib.hid hg5; clear hown5 hb5 hg5))
        obtain ⟨A5, c5, e5, _⟩ := (Rd.of_own HO5.out).shape
        subst e5
        go_ret2
        refine ⟨A5, c5, by rw [HLEN.out]; rfl, ?_, HB5.out⟩
        exact OL.rl ⟨vs ++ [.slice A4 n c4], by rw [HLEN.out]; exact HO5.out, (HA4.out.push (l := fullN [⟨2, 1, 3, 4⟩] n) O4.out).imp fun _ _ h => h.grown HO4.out HG5.out⟩
end Go.Proofs.YtfnogpelaoofbaaGreatDoor.Rg

/- RRIntersect; how the law makes its lists of ranges. Conditions: those written at each lemma. -/
import Derived.Test.YtfnogpelaoofbaaDoorRrd
set_option linter.unusedVariables false
set_option linter.unusedSimpArgs false
set_option maxRecDepth 100000
set_option maxHeartbeats 8000000
namespace Go.Proofs.YtfnogpelaoofbaaDoor.Rg
open Go.RowKit Go.Proofs.YtfnogpelaoofbaaDoor.B Go.Proofs.YtfnogpelaoofbaaDoor.Sp

theorem rrinter_any (v u : Value) (p q : List Cl) (w : World) (hr : Rd w 4 v p.length (clc p)) (hu : Rd w 4 u q.length (clc q)) (ha : ∀ c ∈ p, Pcl c) (hb : ∀ c ∈ q, Pcl c) (hlen : p.length = q.length) (hl : p.length ≤ 100000) :
    Calls Tryd.prog 31 #[v, u] w fun e w' => ∃ A c, e = .returned (.tuple #[.slice A p.length c, .bool true]) ∧ Rd w' 4 (.slice A p.length c) p.length (clc (isect p q)) ∧ Below w.heap.size w w' := by
  have HU := Lib.hid hu
  have PA := Lib.hid ha
  have PB := Lib.hid hb
  have HL := Lib.hid hlen
  have hA : Below w.heap.size w (w.alloc (fb false)) := (Below.refl _ _).alloc (Nat.le_refl _) _
  have HR0 := Lib.hid (hr.below hA)
  have HU0 := Lib.hid (hu.below hA)
  have HA := Lib.hid hA
  have H0 := Lib.hid (heap_alloc_new w (fb false))
  have hlq : q.length ≤ 100000 := by omega
  have hil := isect_len hlen
  have HP := Lib.hid (isect_pcl (p := p) (q := q) ha hb)
  have HIL := Lib.hid hil
  clear hr hu ha hb hlen hA hil
  go_enter_defers Tryd.func31, Tryd.ntmps31
  go_wp2_with (first
    | (go_at_call 58; (with_reducible refine (exprs_any v p _ HR0.out PA.out hl).mono ?_); rintro e w1 ⟨A1, c1, rfl, hr1, hb1⟩; have R1' := Lib.hid hr1; have U1 := Lib.hid (HU0.out.below hb1); have B1 := Lib.hid (HA.out.trans (hb1.mono HA.out.size)); have H1 := Lib.hid (blk_keep H0.out hb1); clear hr1 hb1)
    | (go_at_call 58; (with_reducible refine (exprs_any u q _ U1.out PB.out hlq).mono ?_); rintro e w2 ⟨A2, c2, rfl, hr2, hb2⟩; have R2' := Lib.hid (R1'.out.below hb2); have U2 := Lib.hid hr2; have B2 := Lib.hid (B1.out.trans (hb2.mono B1.out.size)); have H2 := Lib.hid (blk_keep H1.out hb2); clear hr2 hb2)
    | (go_at_call 59; (with_reducible refine (inter_any (.slice A1 p.length c1) (.slice A2 q.length c2) p q _ R2'.out U2.out PA.out PB.out HL.out hl).mono ?_); rintro e w3 ⟨A3, c3, rfl, hr3, hb3⟩; have R3 := Lib.hid hr3; have B3 := Lib.hid (B2.out.trans (hb3.mono B2.out.size)); have H3 := Lib.hid (blk_keep H2.out hb3); clear hr3 hb3)
    | (go_at_call 60; (with_reducible refine (cols_any (.slice A3 p.length c3) (isect p q) _ (by rw [HIL.out]; exact R3.out) HP.out (by rw [HIL.out]; exact hl)).mono ?_); rintro e w4 ⟨v4, rfl, ho4, hb4⟩; have O4 := Lib.hid ho4; have B4 := Lib.hid (B3.out.trans (hb4.mono B3.out.size)); have H4 := Lib.hid (blk_keep H3.out hb4); have hz := Rv.lt_of_blk H3.out; have s0 := Rv.cells1 H4.out; have t0 := Rv.frozen1 H4.out; clear ho4 hb4))
  have HF := Lib.hid (fun u => Rd.of_own (own_grown_lt O4.out (fun k (hk : some w.heap.size = some k) => by injection hk with hk; omega) (grown_set (Below.refl _ w4) w.heap.size 0 u)))
  rw [HIL.out] at HF O4
  obtain ⟨A4, c4, e4, _⟩ := (Rd.of_own O4.out).shape
  subst e4
  refine leaves_cons (f := 48) (args := #[.pointer (some ⟨w.heap.size, 0, none⟩)]) (by simp) (by simp [go_sem]) ?_
  refine (caught_idle ⟨w.heap.size, 0, none⟩ _).mono ?_
  rintro e u' w'' ⟨rfl, rfl, rfl⟩
  have q4 : (w4.setCell ⟨w.heap.size, 0, none⟩ (.bool true)).cell? ⟨w.heap.size, 0, none⟩ = some (.bool true) := by go_simp
  have BF := Lib.hid (Rv.belows1 B4.out (Nat.le_refl _) (.bool true))
  have RF := Lib.hid (HF.out (.bool true))
  simp [Leaves, settle, results, go_sem, q4]
  exact ⟨A4, c4, ⟨rfl, rfl⟩, RF.out, BF.out⟩

/-- The lists that rrList makes. -/
def rrl (ls : List (List Cl)) (n m : Nat) : List (List Cl) := ((ls.take m).map fun l => fullN l n) ++ [fullN [⟨2, 1, 3, 4⟩] n]
theorem list_any (v : Value) (ls : List (List Cl)) (cc : Int) (n m : Nat) (w : World) (hr : RL w v ls) (h0 : 0 ≤ cc) (h1 : cc ≤ 255) (hn : (n : Int) = 1 + cc % 3) (hm : m ≤ 100) :
    Calls Tryd.prog 29 #[v, .int .u8 cc, .int .i64 (m : Int)] w fun e w' => ∃ A c, e = .returned (.tuple #[.slice A (rrl ls n m).length c, .int .i64 (n : Int)]) ∧ RL w' (.slice A (rrl ls n m).length c) (rrl ls n m) ∧ Below w.heap.size w w' := by
  obtain ⟨A, c, rfl, hlc, hcm⟩ : ∃ A c, v = .slice A ls.length c ∧ ls.length ≤ c ∧ c ≤ 9223372036854775807 := by
    obtain ⟨vs, A, c, h1, h2, _⟩ := hr
    subst h1
    obtain ⟨A', c', e, h3, h4⟩ := h2.shape
    injection e with e1 e2 e3
    subst e3
    exact ⟨A, c, rfl, h3, h4⟩
  have HR := Lib.hid hr
  have hn3 : n ≤ 1000 := by omega
  have HN := Lib.hid hn
  have HNN := Lib.hid hn.symm
  clear hn
  go_enter Tryd.func29, Tryd.ntmps29
  go_wp2
  rw [HNN.out]
  go_loopw [9, 10] (fun v9 v10 wr => ∃ (k : Nat) (vs : List Value), v10 = .int .i64 k ∧ k ≤ ls.length ∧ k ≤ m ∧ Hid (wr.ownsRow w.heap.size 28 1 v9 k vs) ∧ Hid (All1 (O1 wr w.heap.size) vs ((ls.take k).map fun l => fullN l n)) ∧ Hid (Below w.heap.size w wr)) (fun _ v10 _ => (ls.length - (intOf v10)).toNat)
  case atStart => exact ⟨0, [], rfl, Nat.zero_le _, Nat.zero_le _, Lib.hid (World.ownsRow_nil _ _ _ _), Lib.hid (All1.nil _), Lib.hid (Below.refl _ _)⟩
  case round =>
    obtain ⟨k, vs, rfl, hk, hkm, HO, HA, HB⟩ := hrel
    have hbs := HB.out.size
    by_cases hgo : k < ls.length ∧ k < m
    · obtain ⟨hlt, hltm⟩ := hgo
      obtain ⟨b, o, A3, c3, rfl, hb, hc, hr3⟩ := HR.out.get k hlt
      have hcw := (HB.out.cell (p := ⟨b, o + k, none⟩) hb).trans hc
      have R3 := Lib.hid (hr3.below HB.out)
      have HM := Lib.hid (show (ls.take (k + 1)).map (fun l => fullN l n) = (ls.take k).map (fun l => fullN l n) ++ [fullN ls[k] n] from by rw [take_snocA ls k hlt, List.map_append]; rfl)
      have hl3 := hr3.le
      clear hc hr3
      generalize ls[k] = L at *
      have FL := Lib.hid (fullN_len L n)
      go_wp2_with (first
        | (go_at_call 57; (with_reducible refine (rrfull_any (.slice A3 L.length c3) L n _ R3.out hn3).mono ?_); rintro e w4 ⟨A4, c4, rfl, ho4, hb4⟩; have O4 := Lib.hid (show O1 w4 w.heap.size (.slice A4 n c4) (fullN L n) from by (obtain ⟨A', c', e', ho'⟩ := O1.of (by rw [FL.out]; exact ho4); exact ⟨A', c', e', ho'.mono hbs⟩)); have HO4 := Lib.hid (own_below HO.out hb4); have HA4 := Lib.hid (HA.out.imp fun _ _ h => h.below hb4); have HB4 := Lib.hid (HB.out.trans (hb4.mono hbs)); clear ho4 hb4)
        | (at_builtin; go_loud (refine app1 (w0 := w) w.heap.size rfl (.tmp 26) (.tmp 33) 46 28 (.slice none 0 0) 1 24 rfl Tryd.underlying46 info28 rfl (by omega) (by omega) u9 _ _ _ rfl rfl rfl (one1 rfl) HO4.out HB4.out HB4.out.size (by omega) ?_); intro v5 w5 hown5 hb5 hg5 _; have HO5 := Lib.hid hown5; have HB5 := Lib.hid hb5; have HG5 := Lib.hid hg5; clear hown5 hb5 hg5))
      go_roundw
      case rel => exact ⟨k + 1, vs ++ [.slice A4 n c4], by go_num, by omega, by omega, Lib.hid HO5.out, Lib.hid (by rw [HM.out]; exact (HA4.out.push (l := fullN L n) O4.out).imp fun _ _ h => h.grown HO4.out HG5.out), HB5⟩
      case measure => simp [intOf]; omega
    · have HK : Hid (ls.take k = ls.take m) := Lib.hid (by
        rcases Nat.lt_or_ge k ls.length with h | h
        · rw [show k = m by omega]
        · rw [List.take_of_length_le h, List.take_of_length_le (by omega)])
      rw [HK.out] at HA
      have hlen : (rrl ls n m).length = k + 1 := by
        have h := congrArg List.length HK.out
        unfold rrl
        rw [List.length_append, List.length_map, ← h, List.length_take]
        simp; omega
      have HLEN := Lib.hid hlen
      have FL := Lib.hid (fullN_len [⟨2, 1, 3, 4⟩] n)
      have HA0 := Lib.hid ((Below.refl wr.heap.size wr).alloc (Nat.le_refl _) (cl4 ⟨2, 1, 3, 4⟩))
      have RN : Hid (Rd (wr.alloc (cl4 ⟨2, 1, 3, 4⟩)) 4 (.slice (some ⟨wr.heap.size, 0, none⟩) 1 1) 1 (clc [⟨2, 1, 3, 4⟩])) := Lib.hid (rd_new (size := 4) (n := 1) rfl (by omega))
      have hbs2 : w.heap.size ≤ (wr.alloc (cl4 ⟨2, 1, 3, 4⟩)).heap.size := Nat.le_trans hbs HA0.out.size
      have HOA := Lib.hid (own_below HO.out HA0.out)
      have HAA := Lib.hid (HA.out.imp fun _ _ h => h.below HA0.out)
      have HBA := Lib.hid (HB.out.trans (HA0.out.mono hbs))
      clear hlen
      rcases Nat.lt_or_ge k ls.length with hlt | hlt
      all_goals
        try (have hkm2 : ¬ k < m := fun h => hgo ⟨hlt, h⟩)
        clear hgo
        go_wp2_with (first
          | (go_at_call 57; go_loud (refine (rrfull_any (.slice (some ⟨wr.heap.size, 0, none⟩) 1 1) [⟨2, 1, 3, 4⟩] n _ RN.out hn3).mono ?_); rintro e w4 ⟨A4, c4, rfl, ho4, hb4⟩; have O4 := Lib.hid (show O1 w4 w.heap.size (.slice A4 n c4) (fullN [⟨2, 1, 3, 4⟩] n) from by (obtain ⟨A', c', e', ho'⟩ := O1.of (by rw [FL.out]; exact ho4); exact ⟨A', c', e', ho'.mono hbs2⟩)); have HO4 := Lib.hid (own_below HOA.out hb4); have HA4 := Lib.hid (HAA.out.imp fun _ _ h => h.below hb4); have HB4 := Lib.hid (HBA.out.trans (hb4.mono hbs2)); clear ho4 hb4)
          | (at_builtin; go_loud (refine app1 (w0 := w) w.heap.size rfl (.tmp 35) (.tmp 42) 46 28 (.slice none 0 0) 1 24 rfl Tryd.underlying46 info28 rfl (by omega) (by omega) u9 _ _ _ rfl rfl rfl (one1 rfl) HO4.out HB4.out HB4.out.size (by omega) ?_); intro v5 w5 hown5 hb5 hg5 _; have HO5 := Lib.hid hown5; have HB5 := Lib.hid hb5; have HG5 := Lib.hid hg5; clear hown5 hb5 hg5))
        obtain ⟨A5, c5, e5, _⟩ := (Rd.of_own HO5.out).shape
        subst e5
        go_ret2
        refine ⟨A5, c5, by rw [HLEN.out]; rfl, ?_, HB5.out⟩
        exact OL.rl ⟨vs ++ [.slice A4 n c4], by rw [HLEN.out]; exact HO5.out, (HA4.out.push (l := fullN [⟨2, 1, 3, 4⟩] n) O4.out).imp fun _ _ h => h.grown HO4.out HG5.out⟩
end Go.Proofs.YtfnogpelaoofbaaDoor.Rg

/- The walks of a set gone through: the list of its columns. Conditions: the listed table of math/bits reads as listed; those written at each lemma. -/
import Derived.Test.YtbhlhgfgkiclgaaDoorSfl
set_option linter.unusedVariables false
set_option linter.unusedSimpArgs false
set_option maxRecDepth 100000
set_option maxHeartbeats 4000000
namespace Go.Proofs.YtbhlhgfgkiclgaaDoor.Set
open Go.RowKit Go.Proofs.YtbhlhgfgkiclgaaDoor.B

def up (xs : List Int) : List Int := xs.map (· + 1)
theorem up_snoc (xs : List Int) (k : Nat) (h : k < xs.length) : up (xs.take (k + 1)) = up (xs.take k) ++ [xs[k] + 1] := by unfold up; rw [take_snoc xs k h, List.map_append]; rfl
theorem up_len (xs : List Int) : (up xs).length = xs.length := by unfold up; simp
theorem shl_one (c : Nat) (hc : c < 64) : IntKind.u64.wrap (2 ^ c) = ((2 ^ c : Nat) : Int) ∧ 2 ^ c < 18446744073709551616 := by
  have h1 : (2 : Nat) ^ c < 18446744073709551616 := Nat.lt_of_lt_of_le (Nat.pow_lt_pow_right (by omega) hc) (by decide)
  have h2 : ((2 : Int) ^ c) = ((2 ^ c : Nat) : Int) := by rw [Int.natCast_pow]; rfl
  exact ⟨by rw [h2]; exact wrap_nat _ h1, h1⟩

theorem each_any (w0 : World) (B0 : Nat) (s L : Value) (xs : List Int) (B q f : Nat) (w : World) (hT : Tab w0) (hv : Fv w0 B0 s L xs) (hb : Below w0.heap.size w0 w) (hq : w0.heap.size ≤ q) (hf : w.heap[f]? = some (.cells #[.func (.func 42) #[] #[.pointer (some ⟨q, 0, none⟩)]] 66 (0, 0))) (hfq : f ≠ q) (hA : Ac w B q []) (hB : B ≤ w.heap.size) (hlen : xs.length ≤ 1000000) (hbd : ∀ u ∈ xs, 0 ≤ u ∧ u ≤ 60000) :
    Calls Tryd.prog 54 #[.agg #[s, L], .func (.func 55) #[] #[.pointer (some ⟨f, 0, none⟩)]] w fun e w' => e = .returned (.tuple #[]) ∧ Ac w' B q (up xs) ∧ Kp q w w' := by
  have hqw := lt_of_block hA.2.choose_spec.1
  have hfw := lt_of_block hf
  have hqB := hA.1
  obtain ⟨hsr, _, h3⟩ := hv
  have HS := Lib.hid hsr
  have HD := Lib.hid hbd
  rcases h3 with ⟨n, hn, rfl, rfl, rfl⟩ | ⟨p, rfl, rfl, hsp⟩
  · have hb0 : Below w.heap.size w (w.alloc (.cells #[.int .u64 n, .pointer none] 42)) := (Below.refl _ _).alloc (Nat.le_refl _) _
    have KX := Lib.hid (fun W (hW : Kp q (w.alloc (.cells #[.int .u64 n, .pointer none] 42)) W) => (show Tab W ∧ W.heap[f]? = some (.cells #[.func (.func 42) #[] #[.pointer (some ⟨q, 0, none⟩)]] 66 (0, 0)) ∧ B ≤ W.heap.size from ⟨tab_below hT (hb.trans ((hb0.mono (show w0.heap.size ≤ w.heap.size from hb.size)).trans (hW.1.mono hq))), hW.2 f _ _ _ hfq (by decide) ((hb0.block f hfw).trans hf), Nat.le_trans hB (Nat.le_trans hb0.size hW.1.size)⟩))
    have HK0 := Lib.hid (Kp.below (q := q) hb0 (by omega))
    have HA0 := Lib.hid (hA.below hb0)
    generalize hxs : bitsL n = xs at *
    have HX := Lib.hid hxs
    clear hT hb hf hA hsr hbd hxs hb0
    go_enter Tryd.func54, Tryd.ntmps54
    go_wp2
    go_loopg [5, 6] xs.length (fun kq v5 v6 wr => ∃ k n' : Nat, kq + k = xs.length ∧ v5 = .int .u64 n' ∧ n' < 18446744073709551616 ∧ Hid (bitsL n' = xs.drop k) ∧ Hid (Ac wr B q (up (xs.take k))) ∧ Hid (Kp q (w.alloc (.cells #[.int .u64 n, .pointer none] 42)) wr))
    case atStart => exact ⟨0, n, by omega, rfl, hn, HX, HA0, Lib.hid (Kp.refl _ _)⟩
    case round =>
      obtain ⟨k, n', hk, rfl, hn', HN, HA, HK⟩ := hrel
      by_cases hz : n' = 0
      · subst hz
        have hkl : ¬ k < xs.length := fun h => by
          have h1 := HN.out
          rw [bitsL_zero] at h1
          have := congrArg List.length h1
          simp at this
          omega
        have e : xs.take k = xs := List.take_of_length_le (by omega)
        have HA1 : Hid (Ac wr B q (up xs)) := Lib.hid (by have h := HA.out; rwa [e] at h)
        clear e
        go_wp2
        first | go_end0 | refine bodyPost_ret (results_none rfl _ _ _) rfl ?_
        exact ⟨rfl, HA1.out, HK0.out.trans HK.out⟩
      · obtain ⟨c, tl, hc, hct, hbt, htl⟩ := bits_head n' hn' hz
        have hkl : k < xs.length := by
          rcases Nat.lt_or_ge k xs.length with h | h
          · exact h
          · have h1 := HN.out
            rw [hbt, List.drop_eq_nil_of_le h] at h1
            cases h1
        obtain ⟨gk, rfl⟩ : ∃ g, gk = g + 1 := ⟨gk - 1, by omega⟩
        have h1 := HN.out
        rw [hbt, List.drop_eq_getElem_cons hkl] at h1
        have hx : xs[k] = (c : Int) := by injection h1 with h1 _; exact h1.symm
        have HT1 : Hid (bitsL (n' &&& (18446744073709551615 - 2 ^ c)) = xs.drop (k + 1)) := Lib.hid (by rw [htl]; injection h1)
        obtain ⟨hT1, hf1, hB1⟩ := KX.out wr HK.out
        have TZ := tz_any n' hn' wr hT1
        rw [hct] at TZ
        have TZ := Lib.hid TZ
        have TU := Lib.hid (turn_any B q f (up (xs.take k)) (c : Int) wr hf1 HA.out hB1 (by rw [up_len, List.length_take]; omega) (by omega) (by omega))
        have HU : Hid (up (xs.take (k + 1)) = up (xs.take k) ++ [(c : Int) + 1]) := Lib.hid (by rw [up_snoc xs k hkl, hx])
        obtain ⟨hs1, hs2⟩ := shl_one c hc
        have HNN := Lib.hid (not_nat n' (2 ^ c) hn' hs2)
        have hz2 : (n' : Int) ≠ 0 := by omega
        have HS1 := Lib.hid hs1
        clear hct hbt htl h1 hx hT1 hf1 hB1 hz hs1 hs2
        go_wp2_with (first
          | (go_at_call 38; go_loud (with_reducible refine TZ.out.mono ?_); rintro e w1 ⟨rfl, rfl⟩)
          | (go_at_call 55; go_loud (with_reducible refine TU.out.mono ?_); rintro e w2 ⟨rfl, h1, h2⟩; have HA2 := Lib.hid h1; have HK2 := Lib.hid (HK.out.trans h2); clear h1 h2))
        skip
        rw [HS1.out, HNN.out.1]
        go_roundg gk
        case measure => omega
        case rel => exact ⟨k + 1, _, by omega, rfl, HNN.out.2, HT1, Lib.hid (by rw [HU.out]; exact HA2.out), HK2⟩
  · have hb0 : Below w.heap.size w (w.alloc (.cells #[.int .u64 0, .pointer (some ⟨p, 0, none⟩)] 42)) := (Below.refl _ _).alloc (Nat.le_refl _) _
    have KX := Lib.hid (fun W (hW : Kp q (w.alloc (.cells #[.int .u64 0, .pointer (some ⟨p, 0, none⟩)] 42)) W) => (show Sp W B0 p xs ∧ W.heap[f]? = some (.cells #[.func (.func 42) #[] #[.pointer (some ⟨q, 0, none⟩)]] 66 (0, 0)) ∧ W.heap[w.heap.size]? = some (.cells #[.int .u64 0, .pointer (some ⟨p, 0, none⟩)] 42 (0, 0)) ∧ B ≤ W.heap.size from ⟨hsp.below (hb.trans ((hb0.mono (show w0.heap.size ≤ w.heap.size from hb.size)).trans (hW.1.mono hq))), hW.2 f _ _ _ hfq (by decide) ((hb0.block f hfw).trans hf), hW.2 _ _ _ _ (by omega) (by decide) (heap_alloc_new _ _), Nat.le_trans hB (Nat.le_trans hb0.size hW.1.size)⟩))
    have HK0 := Lib.hid (Kp.below (q := q) hb0 (by omega))
    have HA0 := Lib.hid (hA.below hb0)
    have MI := Lib.hid (min_any B0 p xs _ (KX.out _ (Kp.refl _ _)).1)
    have pn := ptr_ne p 0
    clear hT hb hf hA hsr hbd hb0 hsp
    go_enter Tryd.func54, Tryd.ntmps54
    go_wp2_with (first
      | (go_at_call 64; go_loud (with_reducible refine MI.out.mono ?_); rintro e w1 ⟨rfl, rfl⟩))
    go_loopg [4] xs.length (fun kq v4 wr => ∃ k : Nat, kq + k = xs.length ∧ v4 = .int .i64 (orMax xs[k]?) ∧ Hid (Ac wr B q (up (xs.take k))) ∧ Hid (Kp q (w.alloc (.cells #[.int .u64 0, .pointer (some ⟨p, 0, none⟩)] 42)) wr))
    case atStart => exact ⟨0, by omega, rfl, HA0, Lib.hid (Kp.refl _ _)⟩
    case round =>
      obtain ⟨k, hk, rfl, HA, HK⟩ := hrel
      by_cases hlt : k < xs.length
      · obtain ⟨gk, rfl⟩ : ∃ g, gk = g + 1 := ⟨gk - 1, by omega⟩
        have hx := HD.out _ (List.getElem_mem hlt)
        have ex : xs[k]? = some xs[k] := List.getElem?_eq_getElem hlt
        rw [ex]
        have hxe : orMax (some xs[k]) = xs[k] := rfl
        rw [hxe]
        have HE := Lib.hid (nx_succ HS.out k hlt)
        have HU := Lib.hid (up_snoc xs k hlt)
        obtain ⟨_, hf1, _, hB1⟩ := KX.out wr HK.out
        have TU := Lib.hid (turn_any B q f (up (xs.take k)) xs[k] wr hf1 HA.out hB1 (by rw [up_len, List.length_take]; omega) (by omega) (by omega))
        clear hxe ex hf1 hB1
        generalize xs[k] = y at *
        have LB := Lib.hid (fun W (hW : Kp q (w.alloc (.cells #[.int .u64 0, .pointer (some ⟨p, 0, none⟩)] 42)) W) => lower_any B0 p xs (y + 1) W (KX.out W hW).1)
        go_wp2_with (first
          | (go_at_call 55; go_loud (with_reducible refine TU.out.mono ?_); rintro e w2 ⟨rfl, h1, h2⟩; have HA2 := Lib.hid h1; have HK2 := Lib.hid (HK.out.trans h2); obtain ⟨d0, d1, _, _⟩ := cells_two (KX.out w2 HK2.out).2.2.1; clear h1 h2)
          | (go_at_call 37; go_loud (with_reducible refine (LB.out _ HK2.out).mono ?_); rintro e w3 ⟨rfl, rfl⟩))
        rw [HE.out]
        go_roundg gk
        case measure => omega
        case rel => exact ⟨k + 1, by omega, rfl, Lib.hid (by rw [HU.out]; exact HA2.out), HK2⟩
      · have ex : xs[k]? = none := List.getElem?_eq_none (by omega)
        rw [ex]
        have et : xs.take k = xs := List.take_of_length_le (by omega)
        have HA1 : Hid (Ac wr B q (up xs)) := Lib.hid (by have h := HA.out; rwa [et] at h)
        have ho : orMax (none : Option Int) = 9223372036854775807 := rfl
        rw [ho]
        clear et ex ho
        go_wp2
        first | go_end0 | refine bodyPost_ret (results_none rfl _ _ _) rfl ?_
        exact ⟨rfl, HA1.out, HK0.out.trans HK.out⟩
end Go.Proofs.YtbhlhgfgkiclgaaDoor.Set

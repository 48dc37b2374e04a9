/- The walks of a column set's list. Conditions: the listed table of math/bits reads as listed; those written at each lemma. -/
import Derived.Test.YtbhlhgfgkiclgaaDoorSfm
set_option linter.unusedVariables false
set_option linter.unusedSimpArgs false
set_option maxRecDepth 100000
set_option maxHeartbeats 4000000
namespace Go.Proofs.YtbhlhgfgkiclgaaDoor.Set
open Go.RowKit Go.Proofs.YtbhlhgfgkiclgaaDoor.B

theorem ceach_any (w0 : World) (B0 : Nat) (s L : Value) (xs : List Int) (B q : Nat) (w : World) (hT : Tab w0) (hv : Fv w0 B0 s L xs) (hb : Below w0.heap.size w0 w) (hq : w0.heap.size ≤ q) (hA : Ac w B q []) (hB : B ≤ w.heap.size) (hlen : xs.length ≤ 1000000) (hbd : ∀ u ∈ xs, 0 ≤ u ∧ u ≤ 60000) :
    Calls Tryd.prog 41 #[.agg #[s, L], .func (.func 42) #[] #[.pointer (some ⟨q, 0, none⟩)]] w fun e w' => e = .returned (.tuple #[]) ∧ Ac w' B q (up xs) ∧ Kp q w w' := by
  obtain ⟨n1, P1, rfl, rfl⟩ := hv.shape
  have hqw := lt_of_block hA.2.choose_spec.1
  have hb0 : Below w.heap.size w ((w.alloc (.cells #[.int .u64 n1, .pointer P1] 51)).alloc (.cells #[.func (.func 42) #[] #[.pointer (some ⟨q, 0, none⟩)]] 66)) := ((Below.refl _ _).alloc (Nat.le_refl _) _).alloc (by simp) _
  have EA := Lib.hid (each_any w0 B0 _ _ xs B q (w.heap.size + 1) _ hT hv (hb.trans (hb0.mono hb.size)) hq (new_at (X := w.alloc (.cells #[.int .u64 n1, .pointer P1] 51)) (O := .cells #[.func (.func 42) #[] #[.pointer (some ⟨q, 0, none⟩)]] 66) (k := w.heap.size + 1) (by simp)) (by omega) (hA.below hb0) (Nat.le_trans hB hb0.size) hlen hbd)
  have HK0 := Lib.hid (Kp.below (q := q) hb0 (by omega))
  clear hT hv hb hA hb0 hbd
  go_enter Tryd.func41, Tryd.ntmps41
  go_wp2_with (first
    | (go_at_call 54; go_loud (with_reducible refine EA.out.mono ?_); rintro e w1 ⟨rfl, h1, h2⟩; have H1 := Lib.hid h1; have H2 := Lib.hid h2; clear h1 h2))
  first | go_end0 | refine bodyPost_ret (results_none rfl _ _ _) rfl ?_
  exact ⟨rfl, H1.out, HK0.out.trans H2.out⟩

theorem ids_any (B0 : Nat) (s L : Value) (xs : List Int) (w : World) (hT : Tab w) (hv : Fv w B0 s L xs) (hlen : xs.length ≤ 1000000) (hbd : ∀ u ∈ xs, 0 ≤ u ∧ u ≤ 60000) :
    Calls Tryd.prog 27 #[.agg #[s, L]] w fun e w' => ∃ v, e = .returned v ∧ w'.ownsRow w.heap.size 3 1 v xs.length (nums (up xs)) ∧ Below w.heap.size w w' := by
  obtain ⟨n1, P1, rfl, rfl⟩ := hv.shape
  have hb0 : Below w.heap.size w ((w.alloc (.cells #[.int .u64 n1, .pointer P1] 51)).alloc (.cells #[.slice none 0 0] 22)) := ((Below.refl _ _).alloc (Nat.le_refl _) _).alloc (by simp) _
  have hA : Ac ((w.alloc (.cells #[.int .u64 n1, .pointer P1] 51)).alloc (.cells #[.slice none 0 0] 22)) (w.heap.size + 1 + 1) (w.heap.size + 1) [] := ⟨by omega, _, new_at (by simp), World.ownsRow_nil _ _ _ _⟩
  have EA := Lib.hid (ceach_any w B0 _ _ xs (w.heap.size + 1 + 1) (w.heap.size + 1) _ hT hv hb0 (by omega) hA (by simp) hlen hbd)
  have HB0 := Lib.hid hb0
  have HUL := Lib.hid (up_len xs)
  clear hT hv hA hb0 hbd
  go_enter Tryd.func27, Tryd.ntmps27
  go_wp2_with (first
    | (go_at_call 41; go_loud (with_reducible refine EA.out.mono ?_); rintro e w1 ⟨rfl, ⟨_, v, hq, hown⟩, h2⟩; rw [HUL.out] at hown; have c0 := cell_of_one hq; have HO := Lib.hid hown; have HB := Lib.hid (HB0.out.trans (h2.1.mono (show w.heap.size ≤ _ by omega))); clear hq h2 hown))
  go_ret
  exact ⟨v, rfl, HO.out.mono (by omega), HB.out⟩
end Go.Proofs.YtbhlhgfgkiclgaaDoor.Set

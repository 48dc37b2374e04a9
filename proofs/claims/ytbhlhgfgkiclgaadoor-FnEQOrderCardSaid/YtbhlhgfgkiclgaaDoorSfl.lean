/- The walks of a set gone through with a closure that gathers. Conditions: the listed table of math/bits reads as listed; those written at each lemma. -/
import Derived.Test.YtbhlhgfgkiclgaaDoorSfk
set_option linter.unusedVariables false
set_option linter.unusedSimpArgs false
set_option maxRecDepth 100000
set_option maxHeartbeats 4000000
namespace Go.Proofs.YtbhlhgfgkiclgaaDoor.Set
open Go.RowKit Go.Proofs.YtbhlhgfgkiclgaaDoor.B

theorem bits_head (n : Nat) (hn : n < 18446744073709551616) (h0 : n ≠ 0) : ∃ c tl, c < 64 ∧ Lib.ctz 64 n = c ∧ bitsL n = (c : Int) :: tl ∧ bitsL (n &&& (18446744073709551615 - 2 ^ c)) = tl := by
  have h := nx_bits n 0 hn (by omega)
  rw [Nat.pow_zero, Nat.div_one, if_neg h0, Nat.zero_add] at h
  have hz := nx_zero (xs := bitsL n) (fun u hu => (nn_bitsL n u hu).1)
  rw [show ((0 : Nat) : Int) = 0 from rfl, hz] at h
  have hsr := srt_bitsL n
  have hnn := nn_bitsL n
  have hnot := bitsL_not n (2 ^ Lib.ctz 64 n)
  generalize Lib.ctz 64 n = c at *
  rcases hb : bitsL n with _ | ⟨y, tl⟩
  · rw [hb] at h; cases h
  · rw [hb] at h hsr hnn hnot
    obtain rfl : y = (c : Int) := by simpa using h
    have hc : c < 64 := by have := hnn (c : Int) List.mem_cons_self; omega
    have hp : 2 ^ c < 18446744073709551616 := Nat.lt_of_lt_of_le (Nat.pow_lt_pow_right (by omega) hc) (by decide)
    refine ⟨c, tl, hc, rfl, rfl, ?_⟩
    rw [hnot hp]
    have h1 : bitsL (2 ^ c) = [(c : Int)] := by
      have h2 := bitsL_or 0 c hc
      rw [Nat.zero_or, bitsL_zero] at h2
      rw [h2]; rfl
    have hs1 : Srt [(c : Int)] := List.pairwise_singleton _ _
    have hcc : hasB [(c : Int)] c = true := (hasB_iff hs1 _).2 List.mem_cons_self
    rw [h1, List.filter_cons, hcc]
    simp only [show ((true == false) = true) = False from by simp, if_false]
    rw [List.filter_eq_self]
    intro u hu
    have h3 := (List.pairwise_cons.1 hsr).1 u hu
    have h4 : hasB [(c : Int)] u = false := by
      rw [← Bool.not_eq_true, hasB_iff hs1]
      intro h5
      have := List.mem_singleton.1 h5
      omega
    rw [h4]; rfl

/-- The gathered list, in the variable q. -/
def Ac (w : World) (B q : Nat) (l : List Int) : Prop := q < B ∧ ∃ v, w.heap[q]? = some (.cells #[v] 22 (0, 0)) ∧ w.ownsRow B 3 1 v l.length (nums l)
/-- Only the variable q, and rows of numbers, are written. -/
def Kp (q : Nat) (w w' : World) : Prop := Below q w w' ∧ ∀ k cs t z, k ≠ q → t ≠ 3 → w.heap[k]? = some (.cells cs t z) → w'.heap[k]? = some (.cells cs t z)
theorem Kp.refl (q : Nat) (w : World) : Kp q w w := ⟨Below.refl _ _, fun _ _ _ _ _ _ h => h⟩
theorem Kp.trans {q : Nat} {a b c : World} (h : Kp q a b) (k : Kp q b c) : Kp q a c := ⟨h.1.trans k.1, fun i cs t z h1 h2 h3 => k.2 i cs t z h1 h2 (h.2 i cs t z h1 h2 h3)⟩
theorem Kp.dr {q : Nat} {w W w' : World} (hd : Dr w W) (h : Kp q W w') : Kp q w w' := ⟨(hd.below _).trans h.1, fun i cs t z h1 h2 h3 => h.2 i cs t z h1 h2 (by rw [heap_dr hd]; exact h3)⟩
theorem Ac.dr {w W : World} {B q : Nat} {l : List Int} (h : Ac w B q l) (hd : Dr w W) : Ac W B q l := by
  obtain ⟨h1, v, h2, h3⟩ := h
  exact ⟨h1, v, by rw [heap_dr hd]; exact h2, own_below h3 (hd.below _)⟩
theorem Ac.below {w w1 : World} {B q : Nat} {l : List Int} (h : Ac w B q l) (hb : Below w.heap.size w w1) : Ac w1 B q l := by
  obtain ⟨h1, v, h2, h3⟩ := h
  exact ⟨h1, v, by rw [hb.block q (lt_of_block h2)]; exact h2, own_below h3 hb⟩
theorem Kp.below {q : Nat} {w w' : World} (hb : Below w.heap.size w w') (hq : q ≤ w.heap.size) : Kp q w w' := ⟨hb.mono hq, fun i cs t z _ _ h => by rw [hb.block i (lt_of_block h)]; exact h⟩
/-- A row grown and the variable written. -/
theorem Kp.grown {q B : Nat} {w w1 : World} {v u : Value} {n : Nat} {xs : List Value} (ho : w.ownsRow B 3 1 v n xs) (hqB : q < B) (hB : B ≤ w.heap.size) (hg : w.grownBy w1 v.ownBlock) : Kp q w (w1.setCell ⟨q, 0, none⟩ u) := by
  refine ⟨((Below.refl q w).grown hg (by omega) (fun j hj => by have := own_base ho j hj; omega)).setCell (p := ⟨q, 0, none⟩) (Nat.le_refl _) _, fun i cs t z h1 h2 h3 => ?_⟩
  rw [set_keep h1, hg.block i (lt_of_block h3) (fun e => ?_)]
  · exact h3
  · rcases ho.2 with ⟨rfl, _⟩ | ⟨g, cap, cur, rfl, _, hh, _⟩
    · cases e
    · simp only [Value.ownBlock] at e
      injection e with e
      subst e
      rw [hh] at h3
      injection h3 with h3
      injection h3 with _ h3 _
      exact h2 h3.symm

theorem gather_any (B q : Nat) (l : List Int) (y : Int) (w : World) (hA : Ac w B q l) (hB : B ≤ w.heap.size) (hl : l.length ≤ 1000000) (h0 : 0 ≤ y) (h1 : y ≤ 65535) :
    Calls Tryd.prog 42 #[.int .u16 y, .pointer (some ⟨q, 0, none⟩)] w fun e w' => e = .returned (.tuple #[]) ∧ Ac w' B q (l ++ [y]) ∧ Kp q w w' := by
  obtain ⟨hq, v, hblk, hown⟩ := hA
  obtain ⟨A, c, rfl, hlc, hcm⟩ := (Rd.of_own hown).shape
  have hql := lt_of_block hblk
  have c0 := cell_of_one hblk
  have f0 := free_of_one hblk
  have hw : wrap64 y = y := by unfold wrap64; omega
  have HO := Lib.hid hown
  have HK := Lib.hid hblk
  clear hown hblk
  go_enter Tryd.func42, Tryd.ntmps42
  go_wp2_with (first
    | (at_builtin; go_loud (refine app1s (w0 := w) B rfl (.tmp 3) (.tmp 6) 22 3 (.int .i64 0) 1 8 rfl Tryd.underlying22 info3 rfl (by omega) (by omega) _ _ _ _ rfl rfl rfl (one1 rfl) HO.out (Below.refl _ _) hB (by omega) ?_); intro A1 c1 w1 hown1 hb1 hg1; have HO1 := Lib.hid hown1; have HG1 := Lib.hid hg1; have d0 : w1.cell? ⟨q, 0, none⟩ = some (.slice A l.length c) := (hb1.cell (p := ⟨q, 0, none⟩) hq).trans c0; have k0 : w1.frozen? ⟨q, 0, none⟩ = false := (hb1.frozen (p := ⟨q, 0, none⟩) hq).trans f0; have HB1 := Lib.hid hb1; clear hown1 hg1 hb1))
  go_end0
  refine ⟨rfl, ⟨hq, _, one_setCell (by rw [HB1.out.block q hq]; exact HK.out), ?_⟩, Kp.grown HO.out hq hB HG1.out⟩
  have h := ownsRow_setCell_below HO1.out (a := ⟨q, 0, none⟩) hq (.slice A1 (l.length + 1) c1)
  simpa [nums] using h

theorem gather_dr (B q : Nat) (l : List Int) (y : Int) (w W : World) (hW : Dr w W) (hA : Ac w B q l) (hB : B ≤ w.heap.size) (hl : l.length ≤ 1000000) (h0 : 0 ≤ y) (h1 : y ≤ 65535) :
    Calls Tryd.prog 42 #[.int .u16 y, .pointer (some ⟨q, 0, none⟩)] W fun e w' => e = .returned (.tuple #[]) ∧ Ac w' B q (l ++ [y]) ∧ Kp q w w' := by
  refine (gather_any B q l y W (hA.dr hW) (by rw [size_dr hW]; exact hB) hl h0 h1).mono ?_
  rintro e w' ⟨h2, h3, h4⟩
  exact ⟨h2, h3, h4.dr hW⟩

theorem turn_any (B q f : Nat) (l : List Int) (x : Int) (w : World) (hf : w.heap[f]? = some (.cells #[.func (.func 42) #[] #[.pointer (some ⟨q, 0, none⟩)]] 66 (0, 0))) (hA : Ac w B q l) (hB : B ≤ w.heap.size) (hl : l.length ≤ 1000000) (h0 : 0 ≤ x) (h1 : x ≤ 60000) :
    Calls Tryd.prog 55 #[.int .i64 x, .pointer (some ⟨f, 0, none⟩)] w fun e w' => e = .returned (.tuple #[]) ∧ Ac w' B q (l ++ [x + 1]) ∧ Kp q w w' := by
  have c0 := cell_of_one hf
  have RV := Lib.hid (fun W => retVal_any x h0 h1 W)
  have GA := Lib.hid (fun W (hW : Dr w W) => gather_dr B q l (x + 1) w W hW hA hB hl (by omega) (by omega))
  clear hf hA
  go_enter Tryd.func55, Tryd.ntmps55
  go_region_with (first
    | (go_at_call 50; go_loud (with_reducible refine (RV.out _).mono ?_); rintro e w1 ⟨rfl, rfl⟩)
    | (go_at_call 42; go_loud (with_reducible refine (GA.out _ (by first | exact (Dr.refl _).drew | exact (Dr.refl _).drewN _ | exact (Dr.refl _).drew.drew)).mono ?_); rintro e w2 ⟨rfl, h1, h2⟩; have H1 := Lib.hid h1; have H2 := Lib.hid h2; clear h1 h2))
  all_goals
    go_wp2
    first | go_end0 | refine bodyPost_ret (results_none rfl _ _ _) rfl ?_
    exact ⟨rfl, H1.out, H2.out⟩
end Go.Proofs.YtbhlhgfgkiclgaaDoor.Set

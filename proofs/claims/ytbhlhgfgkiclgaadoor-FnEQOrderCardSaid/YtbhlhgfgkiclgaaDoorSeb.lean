/- The walks of a set of small whole numbers: its bits or its sorted slice; the next number, a number added. Conditions: the listed table of math/bits reads as listed; those written at each lemma. -/
import Derived.Test.YtbhlhgfgkiclgaaDoorSea
import Derived.Shelf.Spec.TrailingZeros
set_option linter.unusedVariables false
set_option linter.unusedSimpArgs false
set_option maxRecDepth 100000
set_option maxHeartbeats 2000000
namespace Go.Proofs.YtbhlhgfgkiclgaaDoor.Set
open Go.RowKit Go.Proofs.YtbhlhgfgkiclgaaDoor.B

abbrev Tab (w : World) : Prop := TabAt 0 Lib.deBruijn64tab w
theorem tab_below {w w1 : World} (h : Tab w) (hb : Below w.heap.size w w1) : Tab w1 := fun j hj => cell_below hb (h j hj)
theorem tz_core (x k idx : Nat) (w : World) (hx0 : ((x : Int) == 0) = false)
    (key : IntKind.u64.wrap (bits BinOp.and IntKind.u64 (x : Int) (IntKind.u64.wrap (-(x : Int))) * 285870213051353865) / 288230376151711744 = (idx : Int))
    (hi : idx < 64) (hk : k < 64) (hcell : w.cell? ⟨0, idx, none⟩ = some (.int .u8 k)) :
    Calls Tryd.prog 38 #[.int .u64 x] w fun e w' => e = .returned (.int .i64 k) ∧ w = w' := by
  go_enter Tryd.func38, Tryd.ntmps38
  go_wp2_with (simp only [key])
  go_ret
  exact ⟨rfl, rfl⟩
theorem tz_any (x : Nat) (hx : x < 18446744073709551616) (w : World) (hT : Tab w) :
    Calls Tryd.prog 38 #[.int .u64 x] w fun e w' => e = .returned (.int .i64 (Lib.ctz 64 x)) ∧ w = w' := by
  by_cases hx0 : x = 0
  · subst hx0
    go_enter Tryd.func38, Tryd.ntmps38
    go_wp2
    go_ret
    exact ⟨rfl, rfl⟩
  · obtain ⟨hlow, hk⟩ := Lib.lowest_bit 64 x hx0 hx
    obtain ⟨hi, htab⟩ := Lib.deBruijn64_at _ hk
    have hcell := hT _ hi
    rw [htab] at hcell
    exact tz_core x _ _ w (by simp; omega) (tz64_key x _ hx hx0 hlow) hi hk hcell

/-- A set's value reads xs. -/
def Fv (w : World) (B : Nat) (s L : Value) (xs : List Int) : Prop :=
  Srt xs ∧ (∀ u ∈ xs, 0 ≤ u ∧ u ≤ 900000) ∧ ((∃ n : Nat, n < 18446744073709551616 ∧ s = .int .u64 n ∧ L = .pointer none ∧ xs = bitsL n) ∨ (∃ p, s = .int .u64 0 ∧ L = .pointer (some ⟨p, 0, none⟩) ∧ Sp w B p xs))
theorem Fv.below {w w1 : World} {B : Nat} {s L : Value} {xs : List Int} (h : Fv w B s L xs) (hb : Below w.heap.size w w1) : Fv w1 B s L xs := by
  obtain ⟨h1, h2, h3⟩ := h
  refine ⟨h1, h2, ?_⟩
  rcases h3 with h3 | ⟨p, h4, h5, h6⟩
  · exact .inl h3
  · exact .inr ⟨p, h4, h5, h6.below hb⟩

theorem next_small (n start : Nat) (hn : n < 18446744073709551616) (hst : start ≤ 1000000) (w : World) (hT : Tab w) :
    Calls Tryd.prog 21 #[.agg #[.int .u64 n, .pointer none], .int .i64 start] w fun e w' => e = .returned (.tuple #[.int .i64 (orMax (nx (bitsL n) start)), .bool (nx (bitsL n) start).isSome]) ∧ Below w.heap.size w w' := by
  by_cases h64 : start < 64
  · have hq : n / 2 ^ start < 18446744073709551616 := Nat.lt_of_le_of_lt (Nat.div_le_self _ _) hn
    have TZ := fun W (hW : Below w.heap.size w W) => tz_any (n / 2 ^ start) hq W (tab_below hT hW)
    have hx := nx_bits n start hn h64
    have hb0 : Below w.heap.size w (w.alloc (.cells #[.int .u64 n, .pointer none] 42)) := (Below.refl _ _).alloc (Nat.le_refl _) _
    have ec : ((n / 2 ^ start : Nat) : Int) = (n : Int) / 2 ^ start := by rw [Int.natCast_ediv, Int.natCast_pow]; rfl
    by_cases hy : n / 2 ^ start = 0
    · rw [if_pos hy] at hx
      have e64 : Lib.ctz 64 (n / 2 ^ start) = 64 := by unfold Lib.ctz; rw [if_pos hy]
      rw [e64, ec] at TZ
      have TZ := Lib.hid TZ
      have HX := Lib.hid hx
      clear hT ec e64 hy hx hq
      go_enter Tryd.func21, Tryd.ntmps21
      go_wp2_with (first
        | (go_at_call 38; (with_reducible refine (TZ.out _ hb0).mono ?_); rintro e w1 ⟨rfl, rfl⟩))
      go_ret2
      rw [HX.out]
      exact ⟨rfl, hb0⟩
    · rw [if_neg hy] at hx
      have hc : Lib.ctz 64 (n / 2 ^ start) < 64 := by
        unfold Lib.ctz
        rw [if_neg hy]
        exact (Lib.ctzFrom_spec 64 _ (Nat.pos_of_ne_zero hy) hq).choose_spec.2
      rw [ec] at TZ
      have HX := Lib.hid hx
      clear hT hy hq ec
      generalize Lib.ctz 64 (n / 2 ^ start) = c at *
      have TZ := Lib.hid TZ
      have HX := Lib.hid hx
      clear hx
      go_enter Tryd.func21, Tryd.ntmps21
      go_wp2_with (first
        | (go_at_call 38; (with_reducible refine (TZ.out _ hb0).mono ?_); rintro e w1 ⟨rfl, rfl⟩))
      go_ret2
      rw [HX.out]
      exact ⟨rfl, hb0⟩
  · have HX := Lib.hid (nx_far n start (by omega))
    clear hT
    go_enter Tryd.func21, Tryd.ntmps21
    go_wp2
    go_ret2
    rw [HX.out]
    exact ⟨rfl, (Below.refl _ _).alloc (Nat.le_refl _) _⟩

theorem next_bits (n : Nat) (z : Int) (hn : n < 18446744073709551616) (h0 : 0 ≤ z) (h1 : z ≤ 1000000) (w : World) (hT : Tab w) :
    Calls Tryd.prog 21 #[.agg #[.int .u64 n, .pointer none], .int .i64 z] w fun e w' => e = .returned (.tuple #[.int .i64 (orMax (nx (bitsL n) z)), .bool (nx (bitsL n) z).isSome]) ∧ Below w.heap.size w w' := by
  obtain ⟨k, rfl⟩ : ∃ k : Nat, z = k := ⟨z.toNat, by omega⟩
  exact next_small n k hn (by omega) w hT
theorem ptr_ne (b o : Nat) (W : World) : (binOp .neq 40 (.pointer (some ⟨b, o, none⟩)) (.pointer none)).run Tryd.prog W = .ok (.bool true) W := by kernel_rfl
theorem ptr_eq (b o : Nat) (W : World) : (binOp .eql 40 (.pointer (some ⟨b, o, none⟩)) (.pointer none)).run Tryd.prog W = .ok (.bool false) W := by kernel_rfl
theorem orMax_some {o : Option Int} {v : Int} (h : o = some v) : orMax o = v := by subst h; rfl
theorem nx_mem {xs : List Int} {x v : Int} (h : nx xs x = some v) : v ∈ xs := List.mem_of_getElem? h

theorem next_large (B p : Nat) (xs : List Int) (start : Int) (w : World) (hs : Sp w B p xs) (hbd : ∀ u ∈ xs, 0 ≤ u ∧ u ≤ 900000) :
    Calls Tryd.prog 21 #[.agg #[.int .u64 0, .pointer (some ⟨p, 0, none⟩)], .int .i64 start] w fun e w' => e = .returned (.tuple #[.int .i64 (orMax (nx xs start)), .bool (nx xs start).isSome]) ∧ Below w.heap.size w w' := by
  have hb0 : Below w.heap.size w (w.alloc (.cells #[.int .u64 0, .pointer (some ⟨p, 0, none⟩)] 42)) := (Below.refl _ _).alloc (Nat.le_refl _) _
  have LB := Lib.hid (lower_any B p xs start _ (hs.below hb0))
  have hne : ((orMax (nx xs start) : Int) != 9223372036854775807) = (nx xs start).isSome := by
    cases h : nx xs start with
    | none => rfl
    | some v => have := hbd v (nx_mem h); simp [orMax]; omega
  have p1 := ptr_ne p 0
  clear hs hbd
  generalize (nx xs start).isSome = b at *
  generalize orMax (nx xs start) = z at *
  go_enter Tryd.func21, Tryd.ntmps21
  go_wp2_with (first
    | (go_at_call 37; (with_reducible refine LB.out.mono ?_); rintro e w1 ⟨rfl, rfl⟩))
  go_ret2
  exact ⟨rfl, hb0⟩

theorem contains_large (B p : Nat) (xs : List Int) (x : Int) (w : World) (hs : Sp w B p xs) :
    Calls Tryd.prog 22 #[.agg #[.int .u64 0, .pointer (some ⟨p, 0, none⟩)], .int .i64 x] w fun e w' => e = .returned (.bool (hasB xs x)) ∧ Below w.heap.size w w' := by
  have hb0 : Below w.heap.size w (w.alloc (.cells #[.int .u64 0, .pointer (some ⟨p, 0, none⟩)] 42)) := (Below.refl _ _).alloc (Nat.le_refl _) _
  have LB := Lib.hid (has_any B p xs x _ (hs.below hb0))
  have p1 := ptr_ne p 0
  clear hs
  go_enter Tryd.func22, Tryd.ntmps22
  go_wp2_with (first
    | (go_at_call 39; (with_reducible refine LB.out.mono ?_); rintro e w1 ⟨rfl, rfl⟩))
  go_ret
  exact ⟨rfl, hb0⟩

theorem srt_len {xs : List Int} (h : Srt xs) (M : Nat) (hb : ∀ u ∈ xs, 0 ≤ u ∧ u ≤ M) : xs.length ≤ M + 1 := by
  have hi : ∀ i (hi : i < xs.length), (i : Int) ≤ xs[i] := by
    intro i
    induction i with
    | zero => intro hi; exact (hb _ (List.getElem_mem hi)).1
    | succ i ih => intro hi; have h1 := ih (by omega); have h2 := srt_lt h i (i + 1) (by omega) hi (by omega); omega
  rcases Nat.eq_zero_or_pos xs.length with h0 | h0
  · omega
  · have h1 := hi (xs.length - 1) (by omega)
    have h2 := (hb _ (List.getElem_mem (show xs.length - 1 < xs.length by omega))).2
    omega

theorem cells_two {w : World} {q : Nat} {s L : Value} {t : TypeId} (h : w.heap[q]? = some (.cells #[s, L] t (0, 0))) : w.cell? ⟨q, 0, none⟩ = some s ∧ w.cell? ⟨q, 1, none⟩ = some L ∧ w.frozen? ⟨q, 0, none⟩ = false ∧ w.frozen? ⟨q, 1, none⟩ = false := by
  refine ⟨?_, ?_, ?_, ?_⟩ <;> simp [World.cell?, World.frozen?, h]
theorem set_two0 {w : World} {q : Nat} {s L u : Value} {t : TypeId} (h : w.heap[q]? = some (.cells #[s, L] t (0, 0))) : (w.setCell ⟨q, 0, none⟩ u).heap[q]? = some (.cells #[u, L] t (0, 0)) := by
  have hlt := lt_of_block h
  have h' : w.heap[q] = .cells #[s, L] t (0, 0) := by simpa [Array.getElem?_eq_getElem hlt] using h
  show (w.heap.modify q _)[q]? = _
  rw [Array.getElem?_eq_getElem (by simpa using hlt), Array.getElem_modify_self, h']
  rfl
theorem set_two1 {w : World} {q : Nat} {s L u : Value} {t : TypeId} (h : w.heap[q]? = some (.cells #[s, L] t (0, 0))) : (w.setCell ⟨q, 1, none⟩ u).heap[q]? = some (.cells #[s, u] t (0, 0)) := by
  have hlt := lt_of_block h
  have h' : w.heap[q] = .cells #[s, L] t (0, 0) := by simpa [Array.getElem?_eq_getElem hlt] using h
  show (w.heap.modify q _)[q]? = _
  rw [Array.getElem?_eq_getElem (by simpa using hlt), Array.getElem_modify_self, h']
  rfl

theorem toLarge_any (q n : Nat) (t : TypeId) (hn : n < 18446744073709551616) (w : World) (hT : Tab w) (hq : w.heap[q]? = some (.cells #[.int .u64 n, .pointer none] t (0, 0))) :
    Calls Tryd.prog 51 #[.pointer (some ⟨q, 0, none⟩)] w fun e w' => ∃ p, e = .returned (.pointer (some ⟨p, 0, none⟩)) ∧ Sp w' w.heap.size p (bitsL n) ∧ Below w.heap.size w w' := by
  have hql := lt_of_block hq
  obtain ⟨c0, c1, _, _⟩ := cells_two hq
  have NX := Lib.hid (fun z W (h0 : 0 ≤ z) (h1 : z ≤ 1000000) (hW : Below w.heap.size w W) => next_bits n z hn h0 h1 W (tab_below hT hW))
  have HS := Lib.hid (srt_bitsL n)
  have HN := Lib.hid (nn_bitsL n)
  have hlen : (bitsL n).length ≤ 64 := srt_len (srt_bitsL n) 63 (fun u hu => by have := nn_bitsL n u hu; omega)
  have H0 := Lib.hid (nx_zero (fun u hu => (nn_bitsL n u hu).1))
  have hb0 : Below w.heap.size w (w.alloc (.cells #[.slice none 0 0] 75)) := (Below.refl _ _).alloc (Nat.le_refl _) _
  clear hT hq
  generalize bitsL n = xs at *
  go_enter Tryd.func51, Tryd.ntmps51
  go_wp2_with (first
    | (go_at_call 21; (with_reducible refine (NX.out _ _ (by omega) (by omega) hb0).mono ?_); rintro e w1 ⟨rfl, hb1⟩))
  rw [H0.out]
  have hb01 := hb0.trans (hb1.mono hb0.size)
  have HP : Hid (Sp w1 w.heap.size w.heap.size []) := Lib.hid (Sp.below ⟨Nat.le_refl _, by simp, _, heap_alloc_new _ _, World.ownsRow_nil _ _ _ _⟩ hb1)
  clear hb1 hb0
  go_loopg [4, 5] xs.length (fun kq v4 v5 wr => ∃ k : Nat, kq + k = xs.length ∧ v4 = .int .i64 (orMax xs[k]?) ∧ v5 = .bool xs[k]?.isSome ∧ Hid (Sp wr w.heap.size w.heap.size (xs.take k)) ∧ Below w.heap.size w wr)
  case atStart => exact ⟨0, by omega, rfl, rfl, HP, hb01⟩
  case round =>
    obtain ⟨k, hk, rfl, rfl, HPk, hbel⟩ := hrel
    have hbs := hbel.size
    by_cases hlt : k < xs.length
    · obtain ⟨gk, rfl⟩ : ∃ g, gk = g + 1 := ⟨gk - 1, by omega⟩
      have hx := HN.out _ (List.getElem_mem hlt)
      have ex : xs[k]? = some xs[k] := List.getElem?_eq_getElem hlt
      rw [ex]
      have HE := Lib.hid (nx_succ HS.out k hlt)
      have HI := Lib.hid (ins_take HS.out k hlt)
      have hsz : w.heap.size < wr.heap.size := (lt_of_block HPk.out.2.2.choose_spec.1)
      have d0 : wr.cell? ⟨q, 0, none⟩ = some (.int .u64 n) := (hbel.cell (p := ⟨q, 0, none⟩) hql).trans c0
      have d1 : wr.cell? ⟨q, 1, none⟩ = some (.pointer none) := (hbel.cell (p := ⟨q, 1, none⟩) hql).trans c1
      have htl : (xs.take k).length < 1000000 := by rw [List.length_take]; omega
      have IN := Lib.hid (fun x => insert_any w.heap.size w.heap.size (xs.take k) x wr HPk.out htl hbs)
      have hxe : orMax (some xs[k]) = xs[k] := rfl
      rw [hxe]
      clear hxe ex htl
      generalize xs[k] = y at *
      go_wp2_with (first
        | (go_at_call 52; (with_reducible refine (IN.out _).mono ?_); rintro e w2 ⟨rfl, hsp, hg⟩; have HP2 := Lib.hid hsp; have hb2 := hbel.grown hg hbs (by intro j hj; cases hj; exact Nat.le_refl _); have e0 : w2.cell? ⟨q, 0, none⟩ = some (.int .u64 n) := (hb2.cell (p := ⟨q, 0, none⟩) hql).trans c0; have e1 : w2.cell? ⟨q, 1, none⟩ = some (.pointer none) := (hb2.cell (p := ⟨q, 1, none⟩) hql).trans c1; clear hsp hg)
        | (go_at_call 21; (with_reducible refine (NX.out _ _ (by omega) (by omega) hb2).mono ?_); rintro e w3 ⟨rfl, hb3⟩; have hb23 := hb2.trans (hb3.mono hb2.size); have HP3 := Lib.hid (HP2.out.below hb3); clear hb3))
      rw [HE.out]
      go_roundg gk
      case measure => omega
      case rel => exact ⟨k + 1, by omega, rfl, rfl, Lib.hid (by rw [← HI.out]; exact HP3.out), hb23⟩
    · have ex : xs[k]? = none := List.getElem?_eq_none (by omega)
      rw [ex]
      have et : xs.take k = xs := List.take_of_length_le (by omega)
      have HP4 : Hid (Sp wr w.heap.size w.heap.size xs) := Lib.hid (by rw [← et]; exact HPk.out)
      clear HPk et ex
      go_wp2
      go_ret
      exact ⟨_, rfl, HP4.out, hbel⟩

theorem toLarge_large (q p : Nat) (t : TypeId) (w : World) (hq : w.heap[q]? = some (.cells #[.int .u64 0, .pointer (some ⟨p, 0, none⟩)] t (0, 0))) :
    Calls Tryd.prog 51 #[.pointer (some ⟨q, 0, none⟩)] w fun e w' => e = .returned (.pointer (some ⟨p, 0, none⟩)) ∧ w = w' := by
  obtain ⟨c0, c1, _, _⟩ := cells_two hq
  have p1 := ptr_ne p 0
  clear hq
  go_enter Tryd.func51, Tryd.ntmps51
  go_wp2
  go_ret
  exact ⟨rfl, rfl⟩

end Go.Proofs.YtbhlhgfgkiclgaaDoor.Set

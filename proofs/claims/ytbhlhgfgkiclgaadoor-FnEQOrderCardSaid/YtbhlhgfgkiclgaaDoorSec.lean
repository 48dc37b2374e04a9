/- The walks of a set of small whole numbers: a number added; a set made of a list. Conditions: the listed table of math/bits reads as listed; those written at each lemma. -/
import Derived.Test.YtbhlhgfgkiclgaaDoorSeb
set_option linter.unusedVariables false
set_option linter.unusedSimpArgs false
set_option maxRecDepth 100000
set_option maxHeartbeats 2000000
namespace Go.Proofs.YtbhlhgfgkiclgaaDoor.Set
open Go.RowKit Go.Proofs.YtbhlhgfgkiclgaaDoor.B

/-- The set's variable, block q, reads xs. -/
def Fq (w : World) (B q : Nat) (t : TypeId) (xs : List Int) : Prop := B ≤ q ∧ ∃ s L, w.heap[q]? = some (.cells #[s, L] t (0, 0)) ∧ Fv w B s L xs
theorem Fq.below {w w1 : World} {B q : Nat} {t : TypeId} {xs : List Int} (h : Fq w B q t xs) (hb : Below w.heap.size w w1) : Fq w1 B q t xs := by
  obtain ⟨h0, s, L, h1, h2⟩ := h
  exact ⟨h0, s, L, by rw [hb.block q (lt_of_block h1)]; exact h1, h2.below hb⟩
theorem bd_ins {xs : List Int} {x : Int} (hs : Srt xs) (h : ∀ u ∈ xs, 0 ≤ u ∧ u ≤ 900000) (hx : 0 ≤ x ∧ x ≤ 900000) : ∀ u ∈ ins xs x, 0 ≤ u ∧ u ≤ 900000 := fun u hu => by
  rcases (mem_ins hs x u).1 hu with h1 | h1
  · exact h u h1
  · omega

theorem wrap_nat (m : Nat) (hm : m < 18446744073709551616) : IntKind.u64.wrap (m : Int) = m := by rw [IntKind.wrap_u64]; omega
theorem or_bit (n k : Nat) (hn : n < 18446744073709551616) (hk : k < 64) : bits .or .u64 (n : Int) (IntKind.u64.wrap (2 ^ k)) = ((n ||| 2 ^ k : Nat) : Int) ∧ (n ||| 2 ^ k) < 18446744073709551616 := by
  have h1 : (2 : Nat) ^ k < 18446744073709551616 := Nat.lt_of_lt_of_le (Nat.pow_lt_pow_right (by omega) hk) (by decide)
  have h2 : ((2 : Int) ^ k) = ((2 ^ k : Nat) : Int) := by rw [Int.natCast_pow]; rfl
  have h3 : IntKind.u64.wrap (((2 ^ k : Nat)) : Int) = ((2 ^ k : Nat) : Int) := wrap_nat _ h1
  rw [h2, h3, bits_or_u64_nat n _ hn h1]
  exact ⟨rfl, Nat.or_lt_two_pow (n := 64) hn h1⟩
theorem Sp.mono {w : World} {B B1 p : Nat} {xs : List Int} (h : Sp w B p xs) (hB : B1 ≤ B) : Sp w B1 p xs := by
  obtain ⟨h1, h2, v, h3, h4⟩ := h
  exact ⟨Nat.le_trans hB h1, h2, v, h3, h4.mono hB⟩
/-- A cell of a block below is written. -/
theorem Sp.set {w : World} {B p q j : Nat} {xs : List Int} (h : Sp w B p xs) (hq : q < B) (u : Value) : Sp (w.setCell ⟨q, j, none⟩ u) B p xs := by
  obtain ⟨h1, h2, v, h3, h4⟩ := h
  exact ⟨h1, h2, v, by rw [Below.heap_setCell _ _ _ _ (show p ≠ (⟨q, j, none⟩ : Addr).block from fun e => by simp at e; omega)]; exact h3, ownsRow_setCell_below h4 (a := ⟨q, j, none⟩) hq u⟩

theorem le_set {B : Nat} {w : World} {a : Addr} {u : Value} (h : B ≤ w.heap.size) : B ≤ (w.setCell a u).heap.size := by
  have h1 := ((Below.refl 0 w).setCell (Nat.zero_le a.block) u).size
  omega

theorem add_any (B q : Nat) (t : TypeId) (ht : t ≠ 75) (xs : List Int) (x : Int) (w : World) (hT : Tab w) (hx0 : 0 ≤ x) (hx1 : x ≤ 900000) (hB : B ≤ w.heap.size) (hs : Fq w B q t xs) :
    Calls Tryd.prog 36 #[.pointer (some ⟨q, 0, none⟩), .int .i64 x] w fun e w' => e = .returned (.tuple #[]) ∧ Fq w' B q t (ins xs x) ∧ Below B w w' := by
  obtain ⟨hBq, s, L, hq, hsr, hbd, hv⟩ := hs
  have hql := lt_of_block hq
  obtain ⟨c0, c1, f0, f1⟩ := cells_two hq
  obtain ⟨k, rfl⟩ : ∃ k : Nat, x = k := ⟨x.toNat, by omega⟩
  have HSI := Lib.hid (srt_ins hsr (k : Int))
  have HBI := Lib.hid (bd_ins hsr hbd ⟨hx0, hx1⟩)
  have hlen : xs.length ≤ 900001 := srt_len hsr 900000 hbd
  have HQ := Lib.hid hq
  rcases hv with ⟨n, hn, rfl, rfl, rfl⟩ | ⟨p, rfl, rfl, hp⟩
  · by_cases h64 : k < 64
    · have HO := Lib.hid (bitsL_or n k h64)
      have HW := Lib.hid (or_bit n k hn h64)
      clear hT hsr hbd hq
      go_enter Tryd.func36, Tryd.ntmps36
      go_wp2
      first | go_end0 | refine bodyPost_ret (results_none rfl _ _ _) rfl ?_
      refine ⟨rfl, ⟨hBq, _, _, set_two0 HQ.out, HSI.out, HBI.out, .inl ⟨n ||| 2 ^ k, HW.out.2, by rw [HW.out.1], rfl, HO.out.symm⟩⟩, (Below.refl _ _).setCell (p := ⟨q, 0, none⟩) hBq _⟩
    · have TL := Lib.hid (toLarge_any q n t hn w hT hq)
      have hlt : (bitsL n).length < 1000000 := by omega
      have IN := Lib.hid (fun p W (hp : Sp W B p (bitsL n)) (hW : B ≤ W.heap.size) => insert_any B p (bitsL n) (k : Int) W hp hlt hW)
      clear hT hsr hbd hq hlt
      generalize bitsL n = xs at *
      go_enter Tryd.func36, Tryd.ntmps36
      go_wp2_with (first
        | (go_at_call 51; (with_reducible refine TL.out.mono ?_); rintro e w1 ⟨p, rfl, hsp, hb1⟩; have HP := Lib.hid hsp; have hb1s := hb1.size; have d0 : w1.cell? ⟨q, 0, none⟩ = some (.int .u64 n) := (hb1.cell (p := ⟨q, 0, none⟩) hql).trans c0; have d1 : w1.cell? ⟨q, 1, none⟩ = some (.pointer none) := (hb1.cell (p := ⟨q, 1, none⟩) hql).trans c1; have g0 : w1.frozen? ⟨q, 0, none⟩ = false := (hb1.frozen (p := ⟨q, 0, none⟩) hql).trans f0; have g1 : w1.frozen? ⟨q, 1, none⟩ = false := (hb1.frozen (p := ⟨q, 1, none⟩) hql).trans f1; have HB1 := Lib.hid hb1; clear hsp hb1)
        | (go_at_call 52; go_loud (with_reducible refine (IN.out p _ (((HP.out.set hql _).set hql _).mono hB) (le_set (le_set (Nat.le_trans hB hb1s)))).mono ?_); rintro e w2 ⟨rfl, hsp, hg⟩; have HP2 := Lib.hid hsp; have HG2 := Lib.hid hg; clear hsp hg))
      all_goals
        first | go_end0 | refine bodyPost_ret (results_none rfl _ _ _) rfl ?_
        have hpB := HP.out.1
        have hqp : q ≠ p := by omega
        have hbq : w1.heap[q]? = some (.cells #[.int .u64 n, .pointer none] t (0, 0)) := by rw [HB1.out.block q hql]; exact HQ.out
        refine ⟨rfl, ⟨hBq, _, _, ?_, HSI.out, HBI.out, .inr ⟨p, rfl, rfl, HP2.out⟩⟩, ?_⟩
        · rw [HG2.out.block q (le_set (le_set (by omega : q + 1 ≤ w1.heap.size))) (fun e => hqp (Option.some.inj e))]
          exact set_two0 (set_two1 hbq)
        · exact ((((HB1.out.mono hB)).setCell (p := ⟨q, 1, none⟩) hBq _).setCell (p := ⟨q, 0, none⟩) hBq _).grown HG2.out (le_set (le_set (by omega))) (by intro j hj; cases hj; omega)
  · have hlt : xs.length < 1000000 := by omega
    have IN := Lib.hid (insert_any B p xs (k : Int) w hp hlt hB)
    have p1 := ptr_eq p 0
    have hpq : p ≠ q := fun e => by
      subst e
      obtain ⟨_, _, v, h3, _⟩ := hp
      rw [h3] at hq
      injection hq with hq
      injection hq with _ hq _
      exact ht hq.symm
    have hBp := hp.1
    clear hT hsr hbd hq hlt hp
    go_enter Tryd.func36, Tryd.ntmps36
    go_wp2_with (first
      | (go_at_call 52; (with_reducible refine IN.out.mono ?_); rintro e w2 ⟨rfl, hsp, hg⟩; have HP2 := Lib.hid hsp; have HG2 := Lib.hid hg; clear hsp hg))
    all_goals first | go_end0 | refine bodyPost_ret (results_none rfl _ _ _) rfl ?_
    all_goals exact ⟨rfl, ⟨hBq, _, _, by rw [HG2.out.block q hql (fun e => hpq (Option.some.inj e).symm)]; exact HQ.out, HSI.out, HBI.out, .inr ⟨p, rfl, rfl, HP2.out⟩⟩, (Below.refl _ _).grown HG2.out hB (by intro j hj; cases hj; exact hBp)⟩

end Go.Proofs.YtbhlhgfgkiclgaaDoor.Set

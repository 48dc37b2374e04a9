/- Whether points are small whole numbers. Conditions: those written at each lemma. -/
import Derived.Test.YtfelbaibbanllaaGreatGef
set_option linter.unusedVariables false
set_option linter.unusedSimpArgs false
set_option maxRecDepth 100000
set_option maxHeartbeats 4000000
namespace Go.Proofs.YtfelbaibbanllaaGreat.Ge
open Go.RowKit Go.Proofs.YtfelbaibbanllaaGreat.B

/-- All words have 64 bits. -/
def W64 (l : List (Nat × Nat)) : Prop := ∀ p ∈ l, p.1 < 18446744073709551616 ∧ p.2 < 18446744073709551616
/-- A point of whole numbers of this size. -/
def Whole (k : Int) (p : Nat × Nat) : Prop := ∃ m n : Int, F.FI p.1 m ∧ F.FI p.2 n ∧ -k ≤ m ∧ m ≤ k ∧ -k ≤ n ∧ n ≤ k
theorem whole_of {p : Nat × Nat} (h1 : p.1 < 18446744073709551616) (h2 : p.2 < 18446744073709551616) (h : bad p = false) : Whole 1000 p := by
  unfold bad at h
  simp only [Bool.or_eq_false_iff, Bool.not_eq_false'] at h
  obtain ⟨⟨⟨a1, a2⟩, a3⟩, a4⟩ := h
  obtain ⟨m, hm, b1, b2⟩ := F.small p.1 h1 a1 a3
  obtain ⟨n, hn, b3, b4⟩ := F.small p.2 h2 a2 a4
  exact ⟨m, n, hm, hn, b1, b2, b3, b4⟩
/-- What the search hands back. -/
def Sought (l : List (Nat × Nat)) (w : World) (e : Ending) (w' : World) : Prop := ∃ r : Int, e = .returned (.int .i64 r) ∧ -1 ≤ r ∧ (r < 0 → ∀ p ∈ l, bad p = false) ∧ Below w.heap.size w w'
theorem index_any (A : Option Addr) (c : Nat) (l : List (Nat × Nat)) (w : World) (hr : Rd w 2 (.slice A l.length c) l.length (pc l)) (h64 : W64 l) (hl : l.length ≤ 100000) :
    Calls Tryz.prog 23 #[.slice A l.length c, .func (.func 14) #[] #[]] w fun e w' => Sought l w e w' := by
  have HR := Lib.hid hr
  have HW := Lib.hid h64
  obtain ⟨N, hN⟩ : ∃ N, N = l.length := ⟨_, rfl⟩
  have HN := Lib.hid hN
  rw [← hN]
  have hNl : N ≤ 100000 := by omega
  clear hr h64 hl hN
  go_enter Tryz.func23, Tryz.ntmps23
  go_wp2
  go_loopw [5, 8] (fun v5 v8 wr => ∃ k : Nat, v8 = .int .i64 k ∧ k ≤ N ∧ Hid (∀ p ∈ l.take k, bad p = false) ∧ Hid (Below w.heap.size w wr)) (fun _ v8 _ => (N - (intOf v8)).toNat)
  case atStart => exact ⟨0, rfl, Nat.zero_le _, Lib.hid (by simp), Lib.hid (Below.refl _ _)⟩
  case round =>
    obtain ⟨k, rfl, hk, HA, HB⟩ := hrel
    by_cases hlt : k < N
    · have hlt2 : k < l.length := by rw [← HN.out]; exact hlt
      obtain ⟨b, o, rfl, hb, h0, h1⟩ := pc_at (by have h := HR.out; exact h) k hlt2
      have c0 := (HB.out.cell (p := ⟨b, o + k * 2, none⟩) hb).trans h0
      have c1 := (HB.out.cell (p := ⟨b, o + k * 2 + 1, none⟩) hb).trans h1
      have HT := Lib.hid (take_snoc l k hlt2)
      obtain ⟨w0, w1⟩ := HW.out _ (List.getElem_mem hlt2)
      have hbs := HB.out.size
      clear h0 h1
      generalize l[k] = p at *
      obtain ⟨x, y⟩ := p
      simp only at c0 c1 HT
      have TE := Lib.hid (fun W => test_any (x, y) W w0 w1)
      cases hbad : bad (x, y)
      · rw [hbad] at TE
        have HBD := Lib.hid hbad
        clear hbad
        go_wp2_with (go_at_call 14; go_loud (with_reducible refine (TE.out _).mono ?_); rintro e w2 ⟨rfl, hb2⟩; have HB2 := Lib.hid (HB.out.trans (hb2.mono HB.out.size)); clear hb2)
        go_roundw
        case rel => exact ⟨k + 1, by go_num, by omega, Lib.hid (fun q hq => by
          rw [HT.out, List.mem_append] at hq
          rcases hq with h | h
          · exact HA.out q h
          · rw [List.mem_singleton.1 h]; exact HBD.out), HB2⟩
        case measure => simp [intOf]; omega
      · rw [hbad] at TE
        clear hbad
        go_wp2_with (go_at_call 14; go_loud (with_reducible refine (TE.out _).mono ?_); rintro e w2 ⟨rfl, hb2⟩; have HB2 := Lib.hid (HB.out.trans (hb2.mono HB.out.size)); clear hb2)
        go_ret
        exact ⟨k, rfl, by omega, fun h => absurd h (by omega), HB2.out⟩
    · have hkN : k = N := by omega
      subst hkN
      go_wp2
      go_ret
      exact ⟨-1, rfl, by omega, fun _ => by have h := HA.out; rwa [HN.out, List.take_length] at h, HB.out⟩
/-- What the question hands back. -/
def Asked (l : List (Nat × Nat)) (w : World) (e : Ending) (w' : World) : Prop := ∃ b : Bool, e = .returned (.bool b) ∧ (b = false → ∀ p ∈ l, bad p = false) ∧ Below w.heap.size w w'
theorem contains_any (A : Option Addr) (c : Nat) (l : List (Nat × Nat)) (w : World) (hr : Rd w 2 (.slice A l.length c) l.length (pc l)) (h64 : W64 l) (hl : l.length ≤ 100000) :
    Calls Tryz.prog 13 #[.slice A l.length c, .func (.func 14) #[] #[]] w fun e w' => Asked l w e w' := by
  have IX := Lib.hid (index_any A c l w hr h64 hl)
  clear hr h64
  go_enter Tryz.func13, Tryz.ntmps13
  go_wp2_with (go_at_call 23; go_loud (with_reducible refine IX.out.mono ?_); rintro e w2 ⟨r, rfl, hr1, hr2, hb2⟩; have HB2 := Lib.hid hb2; have HR2 := Lib.hid hr2; clear hb2 hr2)
  go_ret
  exact ⟨_, rfl, fun h => HR2.out (by simpa using h), HB2.out⟩
/-- What geSmall hands back. -/
def Small (l : List (Nat × Nat)) (least : Int) (w : World) (e : Ending) (w' : World) : Prop := ∃ b : Bool, e = .returned (.bool b) ∧ (b = true → least ≤ l.length ∧ l.length ≤ 12 ∧ ∀ p ∈ l, Whole 1000 p) ∧ Below w.heap.size w w'
theorem small_any (A : Option Addr) (c : Nat) (l : List (Nat × Nat)) (least : Int) (w : World) (hr : Rd w 2 (.slice A l.length c) l.length (pc l)) (h64 : W64 l) (hle : 0 ≤ least ∧ least ≤ 10) :
    Calls Tryz.prog 5 #[.slice A l.length c, .int .i64 least] w fun e w' => Small l least w e w' := by
  have hmx := hr.le
  by_cases h1 : least ≤ (l.length : Int)
  · by_cases h2 : l.length ≤ 12
    · have CT := Lib.hid (contains_any A c l w hr h64 (by omega))
      have HW := Lib.hid h64
      have d1 : decide (least ≤ (l.length : Int)) = true := decide_eq_true h1
      have d2 : decide ((l.length : Int) ≤ 12) = true := decide_eq_true (by omega)
      clear hr h64
      go_enter Tryz.func5, Tryz.ntmps5
      go_wp2_with (go_at_call 13; go_loud (with_reducible refine CT.out.mono ?_); rintro e w2 ⟨b, rfl, hb, hb2⟩; have HB2 := Lib.hid hb2; have HR2 := Lib.hid hb; clear hb2 hb)
      go_ret
      refine ⟨!b, rfl, fun h => ⟨h1, h2, fun p hp => ?_⟩, HB2.out⟩
      have hb : b = false := by cases b <;> simp_all
      exact whole_of (HW.out p hp).1 (HW.out p hp).2 (HR2.out hb p hp)
    · have d1 : decide (least ≤ (l.length : Int)) = true := decide_eq_true h1
      have d2 : decide ((l.length : Int) ≤ 12) = false := decide_eq_false (by omega)
      clear hr h64
      go_enter Tryz.func5, Tryz.ntmps5
      go_wp2
      go_ret
      exact ⟨false, rfl, fun h => (by cases h), Below.refl _ _⟩
  · have d1 : decide (least ≤ (l.length : Int)) = false := decide_eq_false h1
    clear hr h64
    go_enter Tryz.func5, Tryz.ntmps5
    go_wp2
    go_ret
    exact ⟨false, rfl, fun h => (by cases h), Below.refl _ _⟩
end Go.Proofs.YtfelbaibbanllaaGreat.Ge

/- Slices of points that come in, opened. Conditions: those written at each lemma. -/
import Derived.Test.YtfelbaibbanllaaGek
import Derived.Deep.Slices
import Derived.ProofKit
import Derived.OpenShut
import Derived.ChangeOld
set_option linter.unusedVariables false
set_option linter.unusedSimpArgs false
set_option maxRecDepth 100000
set_option maxHeartbeats 4000000
namespace Go.Proofs.Ytfelbaibbanllaa.Ge
open Go.RowKit Go.Proofs.Ytfelbaibbanllaa.B Go.ChangeShapes Go.WideShapes

section
variable {H : Type} {enc : TypeId × Value → H} {W : World} {base : Nat} {held : Bool} {spare : Nat → Bool}
theorem trod_float {fuel : Nat} {v : Value} {x : DataW H × List MemPlace} (h : DataW.trod enc Try.prog W base spare held fuel 26 [v] = some x) : ∃ b, v = .float .f64 b ∧ b < 18446744073709551616 := by
  cases fuel with
  | zero => simp [DataW.trod] at h
  | succ n =>
    unfold DataW.trod at h
    rw [Try.underlying26] at h
    cases v <;> simp at h
    rename_i k b
    obtain ⟨⟨rfl, hw⟩, _⟩ := h
    exact ⟨b, rfl, by simpa [Lit.wf] using hw⟩
theorem choose_list {α : Type} {n : Nat} {p : Nat → α → Prop} (h : ∀ i, i < n → ∃ a, p i a) : ∃ l : List α, l.length = n ∧ ∀ i (hi : i < l.length), p i l[i] := by
  induction n with
  | zero => exact ⟨[], rfl, fun i hi => by simp at hi⟩
  | succ n ih =>
    obtain ⟨l, hl, hp⟩ := ih (fun i hi => h i (by omega))
    obtain ⟨a, ha⟩ := h n (by omega)
    refine ⟨l ++ [a], by simp [hl], fun i hi => ?_⟩
    by_cases hlt : i < l.length
    · rw [List.getElem_append_left hlt]
      exact hp i hlt
    · have e : i = n := by simp at hi; omega
      subst e
      rw [List.getElem_append_right (by omega)]
      simpa [hl] using ha
theorem trod_pt {fuel : Nat} {cs : List Value} {x : DataW H × List MemPlace} (h : DataW.trod enc Try.prog W base spare held fuel 28 cs = some x) : ∃ p : Nat × Nat, cs = [.float .f64 p.1, .float .f64 p.2] ∧ p.1 < 18446744073709551616 ∧ p.2 < 18446744073709551616 := by
  obtain ⟨xs, m, _, _, hlen, hxl, hel⟩ := DataW.trod_array (P := Try.prog) (t := 28) (n := 2) (e := 26) (by kernel_rfl) h
  rw [show Try.prog.cellsOf 28 = 2 by kernel_rfl] at hlen
  rw [show Try.prog.cellsOf 26 = 1 by kernel_rfl] at hel
  match cs, hlen with
  | [a, b], _ =>
    have h0 := hel 0 (by omega)
    have h1 := hel 1 (by omega)
    simp only [Nat.zero_mul, List.drop_zero, Nat.one_mul, List.take_succ_cons, List.take_zero, List.drop_succ_cons] at h0 h1
    rw [List.getElem?_eq_getElem (by omega)] at h0 h1
    obtain ⟨x0, rfl, w0⟩ := trod_float h0
    obtain ⟨x1, rfl, w1⟩ := trod_float h1
    exact ⟨(x0, x1), rfl, w0, w1⟩
theorem pts_trod {fuel : Nat} {cs : List Value} {x : DataW H × List MemPlace} (h : DataW.trod enc Try.prog W base (fun _ => true) held fuel 22 cs = some x) : ∃ (A : Option Addr) (c : Nat) (l : List (Nat × Nat)), cs = [.slice A l.length c] ∧ Rd W 2 (.slice A l.length c) l.length (pc l) ∧ W64 l := by
  rcases Go.Deep.open_slice Try.underlying22 h with ⟨rfl, _⟩ | ⟨a, len, cap, m, n, D, Pl, rfl, _, hl, hm, hmm, _, hx⟩
  · exact ⟨none, 0, [], rfl, Rd.nil _ _, by simp [W64]⟩
  · simp only [if_true] at hmm
    subst hmm
    rw [show Try.prog.cellsOf 28 = 2 by kernel_rfl] at hx
    have each : ∀ i, i < len → ∃ p : Nat × Nat, W.cell? (a.add (i * 2)) = some (.float .f64 p.1) ∧ W.cell? (a.add (i * 2 + 1)) = some (.float .f64 p.2) ∧ p.1 < 18446744073709551616 ∧ p.2 < 18446744073709551616 := fun i hi => by
      obtain ⟨cs', h1, h2⟩ := hx i (by omega)
      obtain ⟨p, rfl, w0, w1⟩ := trod_pt h2
      obtain ⟨_, _, hc⟩ := World.cells?_some h1
      have c0 := hc 0 (by omega)
      have c1 := hc 1 (by omega)
      refine ⟨p, ?_, ?_, w0, w1⟩
      · rw [← show (a.add (i * 2)).add 0 = a.add (i * 2) by unfold Addr.add; split <;> simp_all]; exact c0
      · rw [← show (a.add (i * 2)).add 1 = a.add (i * 2 + 1) by unfold Addr.add; by_cases hx0 : i * 2 = 0 <;> simp [hx0, Nat.add_assoc]]; exact c1
    obtain ⟨l, hll, hp⟩ := choose_list each
    subst hll
    refine ⟨some a, m, l, rfl, ⟨pc_len l, some a, m, rfl, hl, by simpa [maxLen] using hm, fun hn => ?_⟩, fun p hpm => ?_⟩
    · have h0 := (hp 0 hn).1
      obtain ⟨b, o, sp⟩ := a
      have hsp : sp = none := by simpa [Addr.add] using World.cell?_spot h0
      subst hsp
      refine ⟨b, o, rfl, World.block_lt_of_cell? W _ h0, fun j u hu => ?_⟩
      have hj : j < l.length * 2 := by
        rw [← pc_len]
        rcases Nat.lt_or_ge j (pc l).length with h | h
        · exact h
        · rw [List.getElem?_eq_none h] at hu; cases hu
      obtain ⟨g0, g1⟩ := pc_get l (j / 2) (by omega)
      obtain ⟨q0, q1, _⟩ := hp (j / 2) (by omega)
      rw [add_at] at q0 q1
      rcases (by omega : j = j / 2 * 2 ∨ j = j / 2 * 2 + 1) with e | e
      · rw [← e] at g0 q0
        rw [g0] at hu
        injection hu with hu
        rw [← hu]
        exact q0
      · rw [← e] at g1 q1
        rw [g1] at hu
        injection hu with hu
        rw [← hu]
        exact q1
    · obtain ⟨i, hi, rfl⟩ := List.getElem_of_mem hpm
      exact (hp i hi).2.2
theorem pts_raw {b0 : Nat} {v : Value} {d : DataW H} {p : List MemPlace} (hok : Value.okWide Try.prog W .any b0 22 v) (h : DataW.Trod enc Try.prog W base (fun _ => true) held 22 v d p) : ∃ (A : Option Addr) (c : Nat) (l : List (Nat × Nat)), v = .slice A l.length c ∧ Rd W 2 (.slice A l.length c) l.length (pc l) ∧ W64 l := by
  obtain ⟨A0, n0, c0, rfl⟩ := okWide_slice Try.underlying22 hok
  obtain ⟨fuel, hf⟩ := h
  obtain ⟨A, c, l, hcs, hr, hw⟩ := pts_trod hf
  simp [Value.cells] at hcs
  obtain ⟨rfl, rfl, rfl⟩ := hcs
  exact ⟨_, _, l, rfl, hr, hw⟩
theorem law4_raw {b0 : Nat} {d : DataW H} {p : List MemPlace} (v : Value) (f : Bool) (W : World) (hok : Value.okWide Try.prog W .any b0 22 v) (h : DataW.Trod enc Try.prog W 0 (fun _ => true) true 22 v d p) :
    Calls Try.prog 4 #[v, .bool f] W fun e w' => e = .returned (.bool true) ∧ Below W.heap.size W w' := by
  obtain ⟨A, c, l, rfl, hr, hw⟩ := pts_raw hok h
  exact law4_any A c l f W hr hw
end
end Go.Proofs.Ytfelbaibbanllaa.Ge

/- Points that come in, opened. Conditions: those written at each lemma. -/
import Derived.Test.YtfelbaibbanllaaGreatGet
import Derived.Deep.Slices
import Derived.ProofKit
import Derived.OpenShut
import Derived.ChangeOld
set_option linter.unusedVariables false
set_option linter.unusedSimpArgs false
set_option maxRecDepth 100000
set_option maxHeartbeats 4000000
namespace Go.Proofs.YtfelbaibbanllaaGreat.Ge
open Go.RowKit Go.Proofs.YtfelbaibbanllaaGreat.B Go.ChangeShapes Go.WideShapes

section
variable {H : Type} {enc : TypeId × Value → H} {W : World} {base : Nat} {held : Bool} {spare : Nat → Bool}
theorem trod_float {fuel : Nat} {v : Value} {x : DataW H × List MemPlace} (h : DataW.trod enc Tryz.prog W base spare held fuel 22 [v] = some x) : ∃ b, v = .float .f64 b ∧ b < 18446744073709551616 := by
  cases fuel with
  | zero => simp [DataW.trod] at h
  | succ n =>
    unfold DataW.trod at h
    rw [Tryz.underlying22] at h
    cases v <;> simp at h
    rename_i k b
    obtain ⟨⟨rfl, hw⟩, _⟩ := h
    exact ⟨b, rfl, by simpa [Lit.wf] using hw⟩
theorem trod_pt {fuel : Nat} {cs : List Value} {x : DataW H × List MemPlace} (h : DataW.trod enc Tryz.prog W base spare held fuel 24 cs = some x) : ∃ p : Nat × Nat, cs = [.float .f64 p.1, .float .f64 p.2] ∧ p.1 < 18446744073709551616 ∧ p.2 < 18446744073709551616 := by
  obtain ⟨xs, m, _, _, hlen, hxl, hel⟩ := DataW.trod_array (P := Tryz.prog) (t := 24) (n := 2) (e := 22) (by kernel_rfl) h
  rw [show Tryz.prog.cellsOf 24 = 2 by kernel_rfl] at hlen
  rw [show Tryz.prog.cellsOf 22 = 1 by kernel_rfl] at hel
  match cs, hlen with
  | [a, b], _ =>
    have h0 := hel 0 (by omega)
    have h1 := hel 1 (by omega)
    simp only [Nat.zero_mul, List.drop_zero, Nat.one_mul, List.take_succ_cons, List.take_zero, List.drop_succ_cons] at h0 h1
    rw [List.getElem?_eq_getElem (by omega)] at h0 h1
    obtain ⟨x0, rfl, w0⟩ := trod_float h0
    obtain ⟨x1, rfl, w1⟩ := trod_float h1
    exact ⟨(x0, x1), rfl, w0, w1⟩
theorem law3_raw {b0 : Nat} {d : DataW H} {p : List MemPlace} (v : Value) (a b : Int) (W : World) (hok : Value.okWide Tryz.prog W .any b0 24 v) (h : DataW.Trod enc Tryz.prog W 0 (fun _ => true) true 24 v d p) (ha : (Lit.int .i8 a).wf = true) (hb : (Lit.int .i8 b).wf = true) :
    Calls Tryz.prog 3 #[v, .int .i8 a, .int .i8 b] W fun e w' => e = .returned (.bool true) ∧ Below W.heap.size W w' := by
  simp only [Value.okWide, Tryz.underlying24] at hok
  obtain ⟨cs, rfl, _, _⟩ := hok
  obtain ⟨fuel, hf⟩ := h
  obtain ⟨q, hq, w0, w1⟩ := trod_pt hf
  have hcs : cs = #[.float .f64 q.1, .float .f64 q.2] := by
    simp [Value.cells] at hq
    cases cs
    simp_all
  subst hcs
  refine law3_any q a b W (fun p hp => by rw [List.mem_singleton.1 hp]; exact ⟨w0, w1⟩) ?_ ?_
  · exact bounds_i8 ha
  · exact bounds_i8 hb
end
end Go.Proofs.YtfelbaibbanllaaGreat.Ge

/- The law FnRGMeets over arguments as they are read. Conditions: those written at each lemma. -/
import Derived.Test.YtfnogpelaoofbaaGreatDoorOvg
import Derived.ChangeSame
import Derived.WideShapes
import Derived.OpenShut
set_option linter.unusedVariables false
set_option linter.unusedSimpArgs false
set_option maxRecDepth 100000
set_option maxHeartbeats 4000000
namespace Go.Proofs.YtfnogpelaoofbaaGreatDoor.Rg
open Go.ChangeShapes Go.WideShapes Go.ChangeAt Go.RowKit Go.Proofs.YtfnogpelaoofbaaGreatDoor.B Go.Proofs.YtfnogpelaoofbaaGreatDoor.Sp
section
variable {H : Type} {enc : TypeId × Value → H} {w : World} {base : Nat} {spare : Nat → Bool} {held : Bool}
theorem trod_cut {fuel : Nat} {cs : List Value} {x : DataW H × List MemPlace} (h : DataW.trod enc Tryz.prog w base spare held fuel 52 cs = some x) : ∃ k y : Int, cs = [.int .i64 k, .int .i64 y] := by
  obtain ⟨y0, y1, n, _, hl, h0, h1⟩ := trod_struct2 Tryz.underlying52 h
  rw [show Tryz.prog.cellsOf 52 = 2 by kernel_rfl] at hl
  match cs, hl with
  | [a, b], _ =>
    have e0 : ((([a, b] : List Value).drop 0).take (Tryz.prog.cellsOf 3)) = [a] := by rw [show Tryz.prog.cellsOf 3 = 1 by kernel_rfl]; rfl
    have e1 : ((([a, b] : List Value).drop 1).take (Tryz.prog.cellsOf 2)) = [b] := by rw [show Tryz.prog.cellsOf 2 = 1 by kernel_rfl]; rfl
    obtain ⟨k, q0, _⟩ := DataW.trod_int Tryz.underlying3 (show DataW.trod enc Tryz.prog w base spare held n 3 [a] = some y0 by rw [← e0]; exact h0)
    obtain ⟨y, q1, _⟩ := DataW.trod_int Tryz.underlying2 (show DataW.trod enc Tryz.prog w base spare held n 2 [b] = some y1 by rw [← e1]; exact h1)
    injection q0 with q0
    injection q1 with q1
    exact ⟨k, y, by rw [q0, q1]⟩
theorem trod_col {fuel : Nat} {cs : List Value} {x : DataW H × List MemPlace} (h : DataW.trod enc Tryz.prog w base spare held fuel 54 cs = some x) : ∃ c : Cl, cs = [.int .i64 c.a, .int .i64 c.x, .int .i64 c.b, .int .i64 c.y] := by
  obtain ⟨y0, y1, n, _, hl, h0, h1⟩ := trod_struct2 Tryz.underlying54 h
  rw [show Tryz.prog.cellsOf 54 = 4 by kernel_rfl] at hl
  match cs, hl with
  | [a, b, c, d], _ =>
    have e0 : ((([a, b, c, d] : List Value).drop 0).take (Tryz.prog.cellsOf 52)) = [a, b] := by rw [show Tryz.prog.cellsOf 52 = 2 by kernel_rfl]; rfl
    have e1 : ((([a, b, c, d] : List Value).drop 2).take (Tryz.prog.cellsOf 52)) = [c, d] := by rw [show Tryz.prog.cellsOf 52 = 2 by kernel_rfl]; rfl
    obtain ⟨k, y, q0⟩ := trod_cut (show DataW.trod enc Tryz.prog w base spare held n 52 [a, b] = some y0 by rw [← e0]; exact h0)
    obtain ⟨k', y', q1⟩ := trod_cut (show DataW.trod enc Tryz.prog w base spare held n 52 [c, d] = some y1 by rw [← e1]; exact h1)
    injection q0 with q0 q2
    injection q2 with q2
    injection q1 with q1 q3
    injection q3 with q3
    exact ⟨⟨k, y, k', y'⟩, by rw [q0, q2, q1, q3]⟩
theorem open_col {b0 : Nat} {d : DataW H} {p : List MemPlace} {v : Value} (hok : Value.okWide Tryz.prog w .any b0 54 v) (h : DataW.Trod enc Tryz.prog w base spare held 54 v d p) : ∃ c : Cl, v = c.v := by
  obtain ⟨cs, rfl, _⟩ := okWide_struct Tryz.underlying54 hok
  obtain ⟨fuel, hf⟩ := h
  obtain ⟨c, hc⟩ := trod_col hf
  refine ⟨c, ?_⟩
  simp [Value.cells] at hc
  cases cs
  simp_all
end
end Go.Proofs.YtfnogpelaoofbaaGreatDoor.Rg

/- Ranges made of keys: the constructors, the way back to the thin package's ranges, emptiness. Conditions: those written at each lemma. -/
import Derived.Test.YtfnogpelaoofbaaGreatDoorProg
import Derived.Test.YtfnogpelaoofbaaGreatDoorBase
import Derived.Test.YtfnogpelaoofbaaGreatDoorMee
import Derived.Handy
import Derived.Defers
import Derived.Recover
set_option linter.unusedVariables false
set_option linter.unusedSimpArgs false
set_option maxRecDepth 100000
set_option maxHeartbeats 4000000
namespace Go.Proofs.YtfnogpelaoofbaaGreatDoor.Rg
open Go.RowKit Go.Proofs.YtfnogpelaoofbaaGreatDoor.B

/-- The thin package's position of a position. -/
def Ct.kind : Ct → Int | .bn => 0 | .an => 1 | .bl _ => 2 | .ab _ => 3 | .aa => 4
def Ct.key : Ct → Int | .bl k => k | .ab k => k | _ => 0
theorem i64must (x : Int) (W : World) : (Instr.typeAssert (.iface 2 (.int .i64 x)) 20 2 false).run Tryz.prog W = .ok (.int .i64 x) W := by kernel_rfl
theorem cutOf_any (a : Ct) (w : World) : Calls Tryz.prog 76 #[a.v] w fun e w' => e = .returned (cutV a.kind a.key) ∧ Below w.heap.size w w' := by
  have p1 := at100 a
  have p2 := at99 a
  have p3 := at101 a
  have p4 := at102 a
  have p5 := at103 a
  have p6 := fun x => i64must x
  cases a
  all_goals
    simp only [Ct.v, at99V, at100V, at101V, at102V, at103V, Ct.kind, Ct.key] at *
    go_enter Tryz.func76, Tryz.ntmps76
    go_wp2
    refine bodyPost_ret (v := cutV _ _) ?_ rfl ⟨rfl, ?_⟩
    · simp only [results, show Tryz.f76.results = #[.cell 2 52] by kernel_rfl]
      go_simp
    · go_grown

abbrev colV (k1 x1 k2 x2 : Int) : Value := .agg #[.int .i64 k1, .int .i64 x1, .int .i64 k2, .int .i64 x2]
theorem caught_idle (p : Addr) (w : World) :
    CallsD Tryz.prog 24 #[.pointer (some p)] .returning w fun e u' w' => e = .returned (.tuple #[]) ∧ u' = .returning ∧ w' = w := by
  refine callsD_of_wpS Tryz.func24 rfl fun c₀ cs hu => ?_
  apply wpS_seq
  apply wpS_region
  simp [wpOpsS, go_sem, recoverD, hu, Tryz.ntmps24, Exit.thenS]
  refine wpS_cond (t := false) (by simp [Act.eval, Array.replicate]) ?_
  simp only [Bool.false_eq_true, if_false]
  refine wpS_of_wp (wp_skip ?_)
  cases c₀
  simp_all [bodyPostS, results, Tryz.results24]

theorem empty_con (w : World) : Calls Tryz.prog 73 #[tv] w fun e w' => e = .returned (exV .aa .aa) ∧ Below w.heap.size w w' := by
  go_enter Tryz.func73, Tryz.ntmps73
  go_wp2
  refine bodyPost_ret (v := exV .aa .aa) ?_ rfl ⟨rfl, ?_⟩
  · simp only [results, show Tryz.f73.results = #[.cell 2 92] by kernel_rfl]
    go_simp
    try simp [Ct.v]
  · go_grown

end Go.Proofs.YtfnogpelaoofbaaGreatDoor.Rg

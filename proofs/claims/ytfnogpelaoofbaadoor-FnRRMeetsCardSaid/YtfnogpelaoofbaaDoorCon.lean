/- Ranges made of keys: the constructors, the way back to the thin package's ranges, emptiness. Conditions: those written at each lemma. -/
import Derived.Test.YtfnogpelaoofbaaDoorProg
import Derived.Test.YtfnogpelaoofbaaDoorBase
import Derived.Test.YtfnogpelaoofbaaDoorMee
import Derived.Handy
import Derived.Defers
import Derived.Recover
set_option linter.unusedVariables false
set_option linter.unusedSimpArgs false
set_option maxRecDepth 100000
set_option maxHeartbeats 4000000
namespace Go.Proofs.YtfnogpelaoofbaaDoor.Rg
open Go.RowKit Go.Proofs.YtfnogpelaoofbaaDoor.B

/-- The thin package's position of a position. -/
def Ct.kind : Ct → Int | .bn => 0 | .an => 1 | .bl _ => 2 | .ab _ => 3 | .aa => 4
def Ct.key : Ct → Int | .bl k => k | .ab k => k | _ => 0
theorem i64must (x : Int) (W : World) : (Instr.typeAssert (.iface 2 (.int .i64 x)) 20 2 false).run Tryd.prog W = .ok (.int .i64 x) W := by kernel_rfl
theorem cutOf_any (a : Ct) (w : World) : Calls Tryd.prog 62 #[a.v] w fun e w' => e = .returned (cutV a.kind a.key) ∧ Below w.heap.size w w' := by
  have p1 := at100 a
  have p2 := at99 a
  have p3 := at101 a
  have p4 := at102 a
  have p5 := at103 a
  have p6 := fun x => i64must x
  cases a
  all_goals
    simp only [Ct.v, at99V, at100V, at101V, at102V, at103V, Ct.kind, Ct.key] at *
    go_enter Tryd.func62, Tryd.ntmps62
    go_wp2
    refine bodyPost_ret (v := cutV _ _) ?_ rfl ⟨rfl, ?_⟩
    · simp only [results, show Tryd.f62.results = #[.cell 2 24] by kernel_rfl]
      go_simp
    · go_grown

abbrev colV (k1 x1 k2 x2 : Int) : Value := .agg #[.int .i64 k1, .int .i64 x1, .int .i64 k2, .int .i64 x2]
theorem caught_idle (p : Addr) (w : World) :
    CallsD Tryd.prog 48 #[.pointer (some p)] .returning w fun e u' w' => e = .returned (.tuple #[]) ∧ u' = .returning ∧ w' = w := by
  refine callsD_of_wpS Tryd.func48 rfl fun c₀ cs hu => ?_
  apply wpS_seq
  apply wpS_region
  simp [wpOpsS, go_sem, recoverD, hu, Tryd.ntmps48, Exit.thenS]
  refine wpS_cond (t := false) (by simp [Act.eval, Array.replicate]) ?_
  simp only [Bool.false_eq_true, if_false]
  refine wpS_of_wp (wp_skip ?_)
  cases c₀
  simp_all [bodyPostS, results, Tryd.results48]

theorem all_con (w : World) : Calls Tryd.prog 37 #[tv] w fun e w' => e = .returned (exV .bn .aa) ∧ Below w.heap.size w w' := by
  go_enter Tryd.func37, Tryd.ntmps37
  go_wp2
  refine bodyPost_ret (v := exV .bn .aa) ?_ rfl ⟨rfl, ?_⟩
  · simp only [results, show Tryd.f37.results = #[.cell 2 64] by kernel_rfl]
    go_simp
    try simp [Ct.v]
  · go_grown
theorem null_con (w : World) : Calls Tryd.prog 38 #[tv] w fun e w' => e = .returned (exV .bn .an) ∧ Below w.heap.size w w' := by
  go_enter Tryd.func38, Tryd.ntmps38
  go_wp2
  refine bodyPost_ret (v := exV .bn .an) ?_ rfl ⟨rfl, ?_⟩
  · simp only [results, show Tryd.f38.results = #[.cell 2 64] by kernel_rfl]
    go_simp
    try simp [Ct.v]
  · go_grown
theorem notNull_con (w : World) : Calls Tryd.prog 39 #[tv] w fun e w' => e = .returned (exV .an .aa) ∧ Below w.heap.size w w' := by
  go_enter Tryd.func39, Tryd.ntmps39
  go_wp2
  refine bodyPost_ret (v := exV .an .aa) ?_ rfl ⟨rfl, ?_⟩
  · simp only [results, show Tryd.f39.results = #[.cell 2 64] by kernel_rfl]
    go_simp
    try simp [Ct.v]
  · go_grown
theorem closed_con (a b : Int) (w : World) : Calls Tryd.prog 40 #[.iface 2 (.int .i64 a), .iface 2 (.int .i64 b), tv] w fun e w' => e = .returned (exV (.bl a) (.ab b)) ∧ Below w.heap.size w w' := by
  go_enter Tryd.func40, Tryd.ntmps40
  go_wp2
  refine bodyPost_ret (v := exV (.bl a) (.ab b)) ?_ rfl ⟨rfl, ?_⟩
  · simp only [results, show Tryd.f40.results = #[.cell 6 64] by kernel_rfl]
    go_simp
    try simp [Ct.v]
  · go_grown
theorem open_con (a b : Int) (w : World) : Calls Tryd.prog 41 #[.iface 2 (.int .i64 a), .iface 2 (.int .i64 b), tv] w fun e w' => e = .returned (exV (.ab a) (.bl b)) ∧ Below w.heap.size w w' := by
  go_enter Tryd.func41, Tryd.ntmps41
  go_wp2
  refine bodyPost_ret (v := exV (.ab a) (.bl b)) ?_ rfl ⟨rfl, ?_⟩
  · simp only [results, show Tryd.f41.results = #[.cell 6 64] by kernel_rfl]
    go_simp
    try simp [Ct.v]
  · go_grown
theorem gt_con (a : Int) (w : World) : Calls Tryd.prog 42 #[.iface 2 (.int .i64 a), tv] w fun e w' => e = .returned (exV (.ab a) .aa) ∧ Below w.heap.size w w' := by
  go_enter Tryd.func42, Tryd.ntmps42
  go_wp2
  refine bodyPost_ret (v := exV (.ab a) .aa) ?_ rfl ⟨rfl, ?_⟩
  · simp only [results, show Tryd.f42.results = #[.cell 4 64] by kernel_rfl]
    go_simp
    try simp [Ct.v]
  · go_grown
theorem ge_con (a : Int) (w : World) : Calls Tryd.prog 43 #[.iface 2 (.int .i64 a), tv] w fun e w' => e = .returned (exV (.bl a) .aa) ∧ Below w.heap.size w w' := by
  go_enter Tryd.func43, Tryd.ntmps43
  go_wp2
  refine bodyPost_ret (v := exV (.bl a) .aa) ?_ rfl ⟨rfl, ?_⟩
  · simp only [results, show Tryd.f43.results = #[.cell 4 64] by kernel_rfl]
    go_simp
    try simp [Ct.v]
  · go_grown
theorem lt_con (a : Int) (w : World) : Calls Tryd.prog 44 #[.iface 2 (.int .i64 a), tv] w fun e w' => e = .returned (exV .an (.bl a)) ∧ Below w.heap.size w w' := by
  go_enter Tryd.func44, Tryd.ntmps44
  go_wp2
  refine bodyPost_ret (v := exV .an (.bl a)) ?_ rfl ⟨rfl, ?_⟩
  · simp only [results, show Tryd.f44.results = #[.cell 4 64] by kernel_rfl]
    go_simp
    try simp [Ct.v]
  · go_grown
theorem le_con (a : Int) (w : World) : Calls Tryd.prog 45 #[.iface 2 (.int .i64 a), tv] w fun e w' => e = .returned (exV .an (.ab a)) ∧ Below w.heap.size w w' := by
  go_enter Tryd.func45, Tryd.ntmps45
  go_wp2
  refine bodyPost_ret (v := exV .an (.ab a)) ?_ rfl ⟨rfl, ?_⟩
  · simp only [results, show Tryd.f45.results = #[.cell 4 64] by kernel_rfl]
    go_simp
    try simp [Ct.v]
  · go_grown
theorem co_con (a b : Int) (w : World) : Calls Tryd.prog 46 #[.iface 2 (.int .i64 a), .iface 2 (.int .i64 b), .int .i64 1, .int .i64 0, tv] w fun e w' => e = .returned (exV (.bl a) (.bl b)) ∧ Below w.heap.size w w' := by
  go_enter Tryd.func46, Tryd.ntmps46
  go_wp2
  refine bodyPost_ret (v := exV (.bl a) (.bl b)) ?_ rfl ⟨rfl, ?_⟩
  · simp only [results, show Tryd.f46.results = #[.cell 10 64] by kernel_rfl]
    go_simp
    try simp [Ct.v]
  · go_grown
theorem oc_con (a b : Int) (w : World) : Calls Tryd.prog 46 #[.iface 2 (.int .i64 a), .iface 2 (.int .i64 b), .int .i64 0, .int .i64 1, tv] w fun e w' => e = .returned (exV (.ab a) (.ab b)) ∧ Below w.heap.size w w' := by
  go_enter Tryd.func46, Tryd.ntmps46
  go_wp2
  refine bodyPost_ret (v := exV (.ab a) (.ab b)) ?_ rfl ⟨rfl, ?_⟩
  · simp only [results, show Tryd.f46.results = #[.cell 10 64] by kernel_rfl]
    go_simp
    try simp [Ct.v]
  · go_grown
theorem empty_con (w : World) : Calls Tryd.prog 47 #[tv] w fun e w' => e = .returned (exV .aa .aa) ∧ Below w.heap.size w w' := by
  go_enter Tryd.func47, Tryd.ntmps47
  go_wp2
  refine bodyPost_ret (v := exV .aa .aa) ?_ rfl ⟨rfl, ?_⟩
  · simp only [results, show Tryd.f47.results = #[.cell 2 64] by kernel_rfl]
    go_simp
    try simp [Ct.v]
  · go_grown

end Go.Proofs.YtfnogpelaoofbaaDoor.Rg

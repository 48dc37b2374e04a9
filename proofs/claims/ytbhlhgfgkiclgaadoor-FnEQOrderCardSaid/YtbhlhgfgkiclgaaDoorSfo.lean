/- The walk of what is asked of two column sets: steps. Conditions: those written at each lemma. -/
import Derived.Test.YtbhlhgfgkiclgaaDoorSfn
import Derived.Test.YtbhlhgfgkiclgaaDoorSrg
set_option linter.unusedVariables false
set_option linter.unusedSimpArgs false
set_option maxRecDepth 100000
set_option maxHeartbeats 4000000
namespace Go.Proofs.YtbhlhgfgkiclgaaDoor.Set
open Go.RowKit Go.Proofs.YtbhlhgfgkiclgaaDoor.B

theorem step_load {o : Oper} {a : Act} {w : World} {K : Act → World → Prop} {Q : Exit → Act → World → Prop} {t q n : Nat} {P : Option Addr} (ho : o.op = .load 51 (.tmp t)) (he : a.tmps.getD t undef = .pointer (some ⟨q, 0, none⟩))
    (c0 : w.cell? ⟨q, 0, none⟩ = some (.int .u64 n)) (c1 : w.cell? ⟨q, 1, none⟩ = some (.pointer P)) (hK : K (a.put o.dst (.agg #[.int .u64 n, .pointer P])) w) : o.wp Tryd.prog a w K Q := by
  have he2 : a.eval (.tmp t) = .pointer (some ⟨q, 0, none⟩) := he
  have h : (execOp a.eval o).run Tryd.prog w = .ok (.value (.agg #[.int .u64 n, .pointer P])) w := by
    unfold execOp
    rw [ho]
    simp only [he2]
    go_simp
  unfold Oper.wp
  rw [h]
  exact hK
theorem step_assign {o : Oper} {a : Act} {w : World} {K : Act → World → Prop} {Q : Exit → Act → World → Prop} {t : Nat} (ho : o.op = .assign (.tmp t)) (hK : K (a.put o.dst (a.tmps.getD t undef)) w) : o.wp Tryd.prog a w K Q := by
  have he2 : a.eval (.tmp t) = a.tmps.getD t undef := rfl
  have h : (execOp a.eval o).run Tryd.prog w = .ok (.value (a.tmps.getD t undef)) w := by
    unfold execOp
    rw [ho]
    simp only [he2]
    go_simp
  unfold Oper.wp
  rw [h]
  exact hK
theorem step_call2 {o : Oper} {a : Act} {w : World} {K : Act → World → Prop} {Q : Exit → Act → World → Prop} {f s1 s2 : Nat} {v1 v2 : Value} {R : Value → World → Prop} (ho : o.op = .call { callee := .value (.func f), args := #[.tmp s1, .tmp s2], argTypes := #[51, 51] })
    (h1 : a.tmps.getD s1 undef = v1) (h2 : a.tmps.getD s2 undef = v2) (hf : (callFunc f #[v1, v2]).run Tryd.prog w = .ok (.enter f #[v1, v2]) w) (hC : Calls Tryd.prog f #[v1, v2] w fun e w' => ∃ v, e = .returned v ∧ R v w') (hK : ∀ v w', R v w' → K (a.put o.dst v) w') : o.wp Tryd.prog a w K Q := by
  have he1 : a.eval (.tmp s1) = v1 := h1
  have he2 : a.eval (.tmp s2) = v2 := h2
  have h : (execOp a.eval o).run Tryd.prog w = .ok (.enter f #[v1, v2]) w := by
    unfold execOp
    rw [ho]
    go_simp
  unfold Oper.wp
  rw [h]
  refine Calls.mono hC fun e w' => ?_
  rintro ⟨v, rfl, hr⟩
  exact hK v w' hr
theorem step_call1 {o : Oper} {a : Act} {w : World} {K : Act → World → Prop} {Q : Exit → Act → World → Prop} {f s1 : Nat} {v1 : Value} {R : Value → World → Prop} (ho : o.op = .call { callee := .value (.func f), args := #[.tmp s1], argTypes := #[51] })
    (h1 : a.tmps.getD s1 undef = v1) (hf : (callFunc f #[v1]).run Tryd.prog w = .ok (.enter f #[v1]) w) (hC : Calls Tryd.prog f #[v1] w fun e w' => ∃ v, e = .returned v ∧ R v w') (hK : ∀ v w', R v w' → K (a.put o.dst v) w') : o.wp Tryd.prog a w K Q := by
  have he1 : a.eval (.tmp s1) = v1 := h1
  have h : (execOp a.eval o).run Tryd.prog w = .ok (.enter f #[v1]) w := by
    unfold execOp
    rw [ho]
    go_simp
  unfold Oper.wp
  rw [h]
  refine Calls.mono hC fun e w' => ?_
  rintro ⟨v, rfl, hr⟩
  exact hK v w' hr
theorem cf27 (v1 : Value) (w : World) : (callFunc 27 #[v1]).run Tryd.prog w = .ok (.enter 27 #[v1]) w := by kernel_rfl
theorem cf29 (v1 v2 : Value) (w : World) : (callFunc 29 #[v1, v2]).run Tryd.prog w = .ok (.enter 29 #[v1, v2]) w := by kernel_rfl
theorem cf30 (v1 v2 : Value) (w : World) : (callFunc 30 #[v1, v2]).run Tryd.prog w = .ok (.enter 30 #[v1, v2]) w := by kernel_rfl
theorem cf31 (v1 v2 : Value) (w : World) : (callFunc 31 #[v1, v2]).run Tryd.prog w = .ok (.enter 31 #[v1, v2]) w := by kernel_rfl
theorem cf32 (v1 v2 : Value) (w : World) : (callFunc 32 #[v1, v2]).run Tryd.prog w = .ok (.enter 32 #[v1, v2]) w := by kernel_rfl
theorem cf33 (v1 v2 : Value) (w : World) : (callFunc 33 #[v1, v2]).run Tryd.prog w = .ok (.enter 33 #[v1, v2]) w := by kernel_rfl
theorem cf34 (v1 v2 : Value) (w : World) : (callFunc 34 #[v1, v2]).run Tryd.prog w = .ok (.enter 34 #[v1, v2]) w := by kernel_rfl
end Go.Proofs.YtbhlhgfgkiclgaaDoor.Set

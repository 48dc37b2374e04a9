/- Lines of points: whether they are closed, whether they are rings. Conditions: those written at each lemma. -/
import Derived.Test.YtfelbaibbanllaaGreatGea
import Derived.ChangeKeysEq
set_option linter.unusedVariables false
set_option linter.unusedSimpArgs false
set_option maxRecDepth 100000
set_option maxHeartbeats 4000000
namespace Go.Proofs.YtfelbaibbanllaaGreat.Ge
open Go.RowKit Go.Proofs.YtfelbaibbanllaaGreat.B
attribute [local go_sem] run_store_float

def feq (x y : Nat) : Bool := FloatKind.f64.format.order x y == some .eq
def peq (p q : Nat × Nat) : Bool := feq p.1 q.1 && feq p.2 q.2
theorem run_equalIn_float {P : Program} (w : World) (d : Nat) (t : TypeId) (k k' : FloatKind) (a b : Nat) (h : P.underlying t = some (.float k')) : (Op.equalIn (d + 1) t (.float k a) (.float k b)).run P w = .ok (k.format.order a b == some .eq) w := by
  simp [Op.equalIn, run_underlying h, Op.floatEq]
theorem neq61 (p q : Nat × Nat) (W : World) : (binOp .neq 56 (gpV p) (gpV q)).run Tryz.prog W = .ok (.bool !(peq p q)) W := by
  have hf := fun (w : World) (d : Nat) (k : FloatKind) (a b : Nat) => run_equalIn_float (P := Tryz.prog) w d 22 k .f64 a b Tryz.underlying22
  rw [run_neq_struct]
  rw [show (10000 : Nat) = 9999 + 1 from rfl, run_equalIn_agg _ _ _ _ _ (by kernel_rfl) (by kernel_rfl)]
  go_simp
  unfold peq feq
  by_cases h1 : FloatKind.f64.format.order p.1 q.1 = some .eq <;> by_cases h2 : FloatKind.f64.format.order p.2 q.2 = some .eq <;> simp [h1, h2]
theorem eql28 (p q : Nat × Nat) (W : World) : (binOp .eql 24 (ptV p) (ptV q)).run Tryz.prog W = .ok (.bool (peq p q)) W := by
  have hf := fun (w : World) (d : Nat) (k : FloatKind) (a b : Nat) => run_equalIn_float (P := Tryz.prog) w d 22 k .f64 a b Tryz.underlying22
  obtain ⟨i, hi⟩ : ∃ i, Tryz.prog.info? 22 = some i := ⟨_, rfl⟩
  rw [run_eql_struct]
  rw [show (10000 : Nat) = 9999 + 1 from rfl, run_equalIn_array (w := W) 9999 (t := 24) (e := 22) (n := 2) _ _ (by kernel_rfl) hi, show Tryz.prog.cellsOf 22 = 1 by kernel_rfl, show List.range 2 = [0, 1] from rfl]
  have pp : ∀ (x y : Value) (w : World), (part 22 #[x, y] 0).run Tryz.prog w = .ok x w := fun x y w => by kernel_rfl
  have pq : ∀ (x y : Value) (w : World), (part 22 #[x, y] 1).run Tryz.prog w = .ok y w := fun x y w => by kernel_rfl
  have hf9 := fun (w : World) (k : FloatKind) (a b : Nat) => hf w 9998 k a b
  unfold peq feq
  by_cases h1 : FloatKind.f64.format.order p.1 q.1 = some .eq <;> by_cases h2 : FloatKind.f64.format.order p.2 q.2 = some .eq <;> simp [Op.eqItems, pp, pq, hf9, h1, h2]
theorem feq_raw {x y : Nat} {b : Bool} (h : feq x y = b) : (FloatKind.f64.format.order x y == some .eq) = b := h
theorem ptEq_any (p q : Nat × Nat) (w : World) : Calls Tryz.prog 48 #[gpV p, gpV q] w fun e w' => e = .returned (.bool (peq p q)) ∧ Below w.heap.size w w' := by
  obtain ⟨x, y⟩ := p
  obtain ⟨x2, y2⟩ := q
  unfold peq
  simp only
  cases h1 : feq x x2
  · have h := feq_raw h1
    clear h1
    go_enter Tryz.func48, Tryz.ntmps48
    go_wp2
    go_ret
    exact ⟨rfl, by go_grown⟩
  · cases h2 : feq y y2
    all_goals
      have h := feq_raw h1
      have h' := feq_raw h2
      clear h1 h2
      go_enter Tryz.func48, Tryz.ntmps48
      go_wp2
      go_ret
      exact ⟨rfl, by go_grown⟩
end Go.Proofs.YtfelbaibbanllaaGreat.Ge

/- The walks of the reference's numbers as bytes. Conditions: those written at each lemma. -/
import Derived.Test.YtbcclblocagneaaDoorProg
import Derived.Test.YtbcclblocagneaaDoorBase
import Derived.Test.YtbcclblocagneaaDoorVlp
set_option linter.unusedVariables false
set_option linter.unusedSimpArgs false
set_option maxRecDepth 100000
set_option maxHeartbeats 1000000
namespace Go.Proofs.YtbcclblocagneaaDoor.Vl
open Go.RowKit Go.Proofs.YtbcclblocagneaaDoor.B
open Go.Lib (byteCells toUInt8_mod)

theorem info5 : (Tryd.prog.info? 5).map (fun i => (i.zero, i.size, i.bytes)) = some (some (.int .u8 0), 1, 1) := by kernel_rfl
/-- The kinds asked. -/
def kinds : List Nat := [1, 2, 3, 4, 7, 8, 9, 10, 11, 12, 13, 14]

theorem size_any (k : Nat) (hk : k < 15) (w : World) : Calls Tryd.prog 32 #[.int .i64 k] w fun e w' => e = .returned (.int .i64 (sz k)) ∧ Below w.heap.size w w' := by
  have h : k = 0 ∨ k = 1 ∨ k = 2 ∨ k = 3 ∨ k = 4 ∨ k = 5 ∨ k = 6 ∨ k = 7 ∨ k = 8 ∨ k = 9 ∨ k = 10 ∨ k = 11 ∨ k = 12 ∨ k = 13 ∨ k = 14 := by omega
  rcases h with rfl | rfl | rfl | rfl | rfl | rfl | rfl | rfl | rfl | rfl | rfl | rfl | rfl | rfl | rfl
  all_goals
    simp only [sz, List.getD_cons_zero, List.getD_cons_succ]
    go_enter Tryd.func32, Tryd.ntmps32
    go_wp2
    go_ret
    exact ⟨rfl, (Below.refl _ _).alloc (Nat.le_refl _) _⟩

theorem kind_any (k : Nat) (hk : k < 256) (w : World) : Calls Tryd.prog 6 #[.int .u8 k] w fun e w' => e = .returned (.int .i64 (kinds.getD (k % 12) 0 : Nat)) ∧ Below w.heap.size w w' := by
  obtain ⟨q, hq⟩ : ∃ q, q = k % 12 := ⟨_, rfl⟩
  have hq2 : ((k : Int) % 12) = q := by omega
  have hql : q < 12 := by omega
  rw [← hq]
  clear hq
  have HQ := Lib.hid hq2
  clear hq2
  have h : q = 0 ∨ q = 1 ∨ q = 2 ∨ q = 3 ∨ q = 4 ∨ q = 5 ∨ q = 6 ∨ q = 7 ∨ q = 8 ∨ q = 9 ∨ q = 10 ∨ q = 11 := by omega
  rcases h with rfl | rfl | rfl | rfl | rfl | rfl | rfl | rfl | rfl | rfl | rfl | rfl
  all_goals
    simp only [kinds, List.getD_cons_zero, List.getD_cons_succ]
    have hq3 := HQ.out
    go_enter Tryd.func6, Tryd.ntmps6
    go_wp2
    go_ret
    exact ⟨rfl, (Below.refl _ _).alloc (Nat.le_refl _) _⟩

end Go.Proofs.YtbcclblocagneaaDoor.Vl

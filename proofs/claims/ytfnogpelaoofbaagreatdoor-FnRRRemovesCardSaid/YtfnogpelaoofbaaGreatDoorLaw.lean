/- FnRGMade: what its parts answer, by places. Conditions: those written at each lemma. -/
import Derived.Test.YtfnogpelaoofbaaGreatDoorMad
import Derived.Test.YtfnogpelaoofbaaGreatDoorSpc
set_option linter.unusedVariables false
set_option linter.unusedSimpArgs false
set_option maxRecDepth 100000
set_option maxHeartbeats 4000000
namespace Go.Proofs.YtfnogpelaoofbaaGreatDoor.Rg
open Go.RowKit Go.Proofs.YtfnogpelaoofbaaGreatDoor.B Go.Proofs.YtfnogpelaoofbaaGreatDoor.Sp

/-- Positions compare as their places do. -/
theorem cp_plc (k1 x1 k2 x2 : Int) (ok : Ok k1 x1 k2 x2) : cp (ctOf k1 x1) (ctOf k2 x2) = sg (plc k1 x1) (plc k2 x2) := by
  obtain ⟨a1, a2, a3, a4, b1, b2, b3, b4⟩ := ok
  have h1 : k1 = 0 ∨ k1 = 1 ∨ k1 = 2 ∨ k1 = 3 ∨ k1 = 4 := by omega
  have h2 : k2 = 0 ∨ k2 = 1 ∨ k2 = 2 ∨ k2 = 3 ∨ k2 = 4 := by omega
  rcases h1 with rfl | rfl | rfl | rfl | rfl <;> rcases h2 with rfl | rfl | rfl | rfl | rfl <;> simp only [ctOf, cp, plc, sg] <;> simp <;> (repeat' split) <;> omega
/-- The twelve kinds. -/
def mdK1 (m : Int) : Int := if m = 0 then 0 else if m = 1 then 4 else if m = 2 then 0 else if m = 3 then 1 else if m = 4 then 2 else if m = 5 then 3 else if m = 6 then 3 else if m = 7 then 2 else if m = 8 then 1 else if m = 9 then 1 else if m = 10 then 2 else 3
def mdX1 (a m : Int) : Int := if m = 0 then 0 else if m = 1 then 0 else if m = 2 then 0 else if m = 3 then 0 else if m = 4 then a else if m = 5 then a else if m = 6 then a else if m = 7 then a else if m = 8 then 0 else if m = 9 then 0 else a
def mdK2 (m : Int) : Int := if m = 0 then 4 else if m = 1 then 4 else if m = 2 then 1 else if m = 3 then 4 else if m = 4 then 3 else if m = 5 then 2 else if m = 6 then 4 else if m = 7 then 4 else if m = 8 then 2 else if m = 9 then 3 else if m = 10 then 2 else 3
def mdX2 (a b m : Int) : Int := if m = 0 then 0 else if m = 1 then 0 else if m = 2 then 0 else if m = 3 then 0 else if m = 4 then b else if m = 5 then b else if m = 6 then 0 else if m = 7 then 0 else if m = 8 then a else if m = 9 then a else b
theorem md_ok (m a b : Int) (h0 : 0 ≤ m) (h1 : m ≤ 11) (ha : -20 ≤ a ∧ a ≤ 20) (hb : -20 ≤ b ∧ b ≤ 20) : Ok (mdK1 m) (mdX1 a m) (mdK2 m) (mdX2 a b m) := by
  have h : m = 0 ∨ m = 1 ∨ m = 2 ∨ m = 3 ∨ m = 4 ∨ m = 5 ∨ m = 6 ∨ m = 7 ∨ m = 8 ∨ m = 9 ∨ m = 10 ∨ m = 11 := by omega
  rcases h with rfl | rfl | rfl | rfl | rfl | rfl | rfl | rfl | rfl | rfl | rfl | rfl <;> simp [mdK1, mdX1, mdK2, mdX2] <;> omega
theorem same_self (k1 x1 k2 x2 : Int) : same k1 x1 k2 x2 k1 x1 k2 x2 = true := by simp [same]

abbrev c24 (k : Int) : Obj := .cells #[.int .i64 k, .int .i64 0] 52
/-- What region 6 holds: null, and the end of all. -/
abbrev SN (B : Nat) (w W : World) : Prop := W.cell? ⟨B, 0, none⟩ = some (.int .i64 1) ∧ W.cell? ⟨B, 1, none⟩ = some (.int .i64 0) ∧ W.cell? ⟨B + 1, 0, none⟩ = some (.int .i64 4) ∧ W.cell? ⟨B + 1, 1, none⟩ = some (.int .i64 0) ∧ B + 1 < W.heap.size ∧ Below B w W
theorem keepN {B : Nat} {w W w' : World} (hb : Below W.heap.size W w') (h : SN B w W) : SN B w w' := by
  obtain ⟨c0, c1, c2, c3, hB, b⟩ := h
  exact ⟨cell_below hb c0, cell_below hb c1, cell_below hb c2, cell_below hb c3, Nat.lt_of_lt_of_le hB hb.size, b.trans (hb.mono (by omega))⟩
theorem allocN {B : Nat} {w W : World} (o : Obj) (h : SN B w W) : SN B w (W.alloc o) := keepN ((Below.refl _ _).alloc (Nat.le_refl _) o) h
theorem startN (w : World) : SN w.heap.size w ((w.alloc (c24 1)).alloc (c24 4)).drew := by
  refine ⟨?_, ?_, ?_, ?_, ?_, ?_⟩
  all_goals first | (go_simp; done) | (simp; done) | (go_grown; done) | (go_simp; omega)
/-- The twelve ranges, cell by cell. -/
abbrev twelve (a b : Int) : Obj := .cells #[.int .i64 0, .int .i64 0, .int .i64 4, .int .i64 0, .int .i64 4, .int .i64 0, .int .i64 4, .int .i64 0, .int .i64 0, .int .i64 0, .int .i64 1, .int .i64 0, .int .i64 1, .int .i64 0, .int .i64 4, .int .i64 0,
  .int .i64 2, .int .i64 a, .int .i64 3, .int .i64 b, .int .i64 3, .int .i64 a, .int .i64 2, .int .i64 b, .int .i64 3, .int .i64 a, .int .i64 4, .int .i64 0, .int .i64 2, .int .i64 a, .int .i64 4, .int .i64 0,
  .int .i64 1, .int .i64 0, .int .i64 2, .int .i64 a, .int .i64 1, .int .i64 0, .int .i64 3, .int .i64 a, .int .i64 2, .int .i64 a, .int .i64 2, .int .i64 b, .int .i64 3, .int .i64 a, .int .i64 3, .int .i64 b] 54

theorem eq_bool (n : Bool) (W : World) : (binOp .eql 4 (.bool n) (.bool n)).run Tryz.prog W = .ok (.bool true) W := by cases n <;> kernel_rfl
theorem idx12 (B : Nat) (m : Int) (h0 : 0 ≤ m) (h1 : m ≤ 11) (W : World) : (Instr.indexAt 22 (.slice (some ⟨B, 0, none⟩) 12 12) (.int .i64 m)).run Tryz.prog W = .ok (.pointer (some ⟨B, 4 * m.toNat, none⟩)) W := by
  have h : m = 0 ∨ m = 1 ∨ m = 2 ∨ m = 3 ∨ m = 4 ∨ m = 5 ∨ m = 6 ∨ m = 7 ∨ m = 8 ∨ m = 9 ∨ m = 10 ∨ m = 11 := by omega
  rcases h with rfl | rfl | rfl | rfl | rfl | rfl | rfl | rfl | rfl | rfl | rfl | rfl <;> (go_simp; try simp)
/-- Four cells from a place on. -/
abbrev F4 (B o : Nat) (k1 x1 k2 x2 : Int) (W : World) : Prop :=
  W.cell? ⟨B, o, none⟩ = some (.int .i64 k1) ∧ W.cell? ⟨B, o + 1, none⟩ = some (.int .i64 x1) ∧ W.cell? ⟨B, o + 2, none⟩ = some (.int .i64 k2) ∧ W.cell? ⟨B, o + 3, none⟩ = some (.int .i64 x2) ∧ B < W.heap.size
theorem keep4 {B o : Nat} {k1 x1 k2 x2 : Int} {W w' : World} (hb : Below W.heap.size W w') (h : F4 B o k1 x1 k2 x2 W) : F4 B o k1 x1 k2 x2 w' := by
  obtain ⟨c0, c1, c2, c3, hB⟩ := h
  exact ⟨cell_below hb c0, cell_below hb c1, cell_below hb c2, cell_below hb c3, Nat.lt_of_lt_of_le hB hb.size⟩
theorem start12 (a b m : Int) (h0 : 0 ≤ m) (h1 : m ≤ 11) (w : World) : F4 w.heap.size (4 * m.toNat) (mdK1 m) (mdX1 a m) (mdK2 m) (mdX2 a b m) (w.alloc (twelve a b)) := by
  have h : m = 0 ∨ m = 1 ∨ m = 2 ∨ m = 3 ∨ m = 4 ∨ m = 5 ∨ m = 6 ∨ m = 7 ∨ m = 8 ∨ m = 9 ∨ m = 10 ∨ m = 11 := by omega
  rcases h with rfl | rfl | rfl | rfl | rfl | rfl | rfl | rfl | rfl | rfl | rfl | rfl <;> refine ⟨?_, ?_, ?_, ?_, ?_⟩
  all_goals first | (simp [mdK1, mdX1, mdK2, mdX2, go_sem]; done) | (go_simp; simp [mdK1, mdX1, mdK2, mdX2]; done) | (go_simp; omega)
/-- What region 10 holds. -/
abbrev S10 (B G o : Nat) (K1 X1 K2 X2 : Int) (w W : World) : Prop := SO G K1 X1 K2 X2 W ∧ F4 B o K1 X1 K2 X2 W ∧ w.heap.size ≤ W.heap.size ∧ Below w.heap.size w W
theorem keep10 {B G o : Nat} {K1 X1 K2 X2 : Int} {w W w' : World} (hb : Below W.heap.size W w') (h : S10 B G o K1 X1 K2 X2 w W) : S10 B G o K1 X1 K2 X2 w w' :=
  ⟨keepO hb h.1, keep4 hb h.2.1, Nat.le_trans h.2.2.1 hb.size, h.2.2.2.trans (hb.mono h.2.2.1)⟩

end Go.Proofs.YtfnogpelaoofbaaGreatDoor.Rg

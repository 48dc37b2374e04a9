/- When two values are equal, as the code has it. Conditions: those written at each lemma. -/
import Derived.Test.YtmelgankbegjaaaKe
import Derived.Test.YtmelgankbegjaaaJk
import Derived.Stop.Asserts
set_option linter.unusedVariables false
set_option linter.unusedSimpArgs false
set_option maxRecDepth 100000
set_option maxHeartbeats 8000000
namespace Go.Proofs.Ytmelgankbegjaaa.Js
open Go.RowKit Go.Proofs.Ytmelgankbegjaaa.B

@[local go_sem] theorem at4_67 (v : Value) (W : World) : (Instr.typeAssert (.iface 4 v) 20 67 true).run Try.prog W = .ok (.tuple #[.slice none 0 0, .bool false]) W := by kernel_rfl
@[local go_sem] theorem at4_68 (v : Value) (W : World) : (Instr.typeAssert (.iface 4 v) 20 68 true).run Try.prog W = .ok (.tuple #[.map none, .bool false]) W := by kernel_rfl
@[local go_sem] theorem at65_67 (v : Value) (W : World) : (Instr.typeAssert (.iface 65 v) 20 67 true).run Try.prog W = .ok (.tuple #[.slice none 0 0, .bool false]) W := by kernel_rfl
@[local go_sem] theorem at65_68 (v : Value) (W : World) : (Instr.typeAssert (.iface 65 v) 20 68 true).run Try.prog W = .ok (.tuple #[.map none, .bool false]) W := by kernel_rfl
@[local go_sem] theorem at9_67 (v : Value) (W : World) : (Instr.typeAssert (.iface 9 v) 20 67 true).run Try.prog W = .ok (.tuple #[.slice none 0 0, .bool false]) W := by kernel_rfl
@[local go_sem] theorem at9_68 (v : Value) (W : World) : (Instr.typeAssert (.iface 9 v) 20 68 true).run Try.prog W = .ok (.tuple #[.map none, .bool false]) W := by kernel_rfl
@[local go_sem] theorem at67_67 (v : Value) (W : World) : (Instr.typeAssert (.iface 67 v) 20 67 true).run Try.prog W = .ok (.tuple #[v, .bool true]) W := by kernel_rfl
@[local go_sem] theorem at67_68 (v : Value) (W : World) : (Instr.typeAssert (.iface 67 v) 20 68 true).run Try.prog W = .ok (.tuple #[.map none, .bool false]) W := by kernel_rfl
@[local go_sem] theorem at68_67 (v : Value) (W : World) : (Instr.typeAssert (.iface 68 v) 20 67 true).run Try.prog W = .ok (.tuple #[.slice none 0 0, .bool false]) W := by kernel_rfl
@[local go_sem] theorem at68_68 (v : Value) (W : World) : (Instr.typeAssert (.iface 68 v) 20 68 true).run Try.prog W = .ok (.tuple #[v, .bool true]) W := by kernel_rfl
@[local go_sem] theorem atn_67 (W : World) : (Instr.typeAssert .nilIface 20 67 true).run Try.prog W = .ok (.tuple #[.slice none 0 0, .bool false]) W := by kernel_rfl
@[local go_sem] theorem atn_68 (W : World) : (Instr.typeAssert .nilIface 20 68 true).run Try.prog W = .ok (.tuple #[.map none, .bool false]) W := by kernel_rfl
@[local go_sem] theorem ne4_65 (u v : Value) (W : World) : (binOp .eql 20 (.iface 4 u) (.iface 65 v)).run Try.prog W = .ok (.bool false) W := run_eql_iface_types 4 65 u v Try.underlying20 (by decide) W
@[local go_sem] theorem ne4_9 (u v : Value) (W : World) : (binOp .eql 20 (.iface 4 u) (.iface 9 v)).run Try.prog W = .ok (.bool false) W := run_eql_iface_types 4 9 u v Try.underlying20 (by decide) W
@[local go_sem] theorem ne4_67 (u v : Value) (W : World) : (binOp .eql 20 (.iface 4 u) (.iface 67 v)).run Try.prog W = .ok (.bool false) W := run_eql_iface_types 4 67 u v Try.underlying20 (by decide) W
@[local go_sem] theorem ne4_68 (u v : Value) (W : World) : (binOp .eql 20 (.iface 4 u) (.iface 68 v)).run Try.prog W = .ok (.bool false) W := run_eql_iface_types 4 68 u v Try.underlying20 (by decide) W
@[local go_sem] theorem nl_4 (v : Value) (W : World) : (binOp .eql 20 .nilIface (.iface 4 v)).run Try.prog W = .ok (.bool false) W := by kernel_rfl
@[local go_sem] theorem ne65_4 (u v : Value) (W : World) : (binOp .eql 20 (.iface 65 u) (.iface 4 v)).run Try.prog W = .ok (.bool false) W := run_eql_iface_types 65 4 u v Try.underlying20 (by decide) W
@[local go_sem] theorem ne65_9 (u v : Value) (W : World) : (binOp .eql 20 (.iface 65 u) (.iface 9 v)).run Try.prog W = .ok (.bool false) W := run_eql_iface_types 65 9 u v Try.underlying20 (by decide) W
@[local go_sem] theorem ne65_67 (u v : Value) (W : World) : (binOp .eql 20 (.iface 65 u) (.iface 67 v)).run Try.prog W = .ok (.bool false) W := run_eql_iface_types 65 67 u v Try.underlying20 (by decide) W
@[local go_sem] theorem ne65_68 (u v : Value) (W : World) : (binOp .eql 20 (.iface 65 u) (.iface 68 v)).run Try.prog W = .ok (.bool false) W := run_eql_iface_types 65 68 u v Try.underlying20 (by decide) W
@[local go_sem] theorem nl_65 (v : Value) (W : World) : (binOp .eql 20 .nilIface (.iface 65 v)).run Try.prog W = .ok (.bool false) W := by kernel_rfl
@[local go_sem] theorem ne9_4 (u v : Value) (W : World) : (binOp .eql 20 (.iface 9 u) (.iface 4 v)).run Try.prog W = .ok (.bool false) W := run_eql_iface_types 9 4 u v Try.underlying20 (by decide) W
@[local go_sem] theorem ne9_65 (u v : Value) (W : World) : (binOp .eql 20 (.iface 9 u) (.iface 65 v)).run Try.prog W = .ok (.bool false) W := run_eql_iface_types 9 65 u v Try.underlying20 (by decide) W
@[local go_sem] theorem ne9_67 (u v : Value) (W : World) : (binOp .eql 20 (.iface 9 u) (.iface 67 v)).run Try.prog W = .ok (.bool false) W := run_eql_iface_types 9 67 u v Try.underlying20 (by decide) W
@[local go_sem] theorem ne9_68 (u v : Value) (W : World) : (binOp .eql 20 (.iface 9 u) (.iface 68 v)).run Try.prog W = .ok (.bool false) W := run_eql_iface_types 9 68 u v Try.underlying20 (by decide) W
@[local go_sem] theorem nl_9 (v : Value) (W : World) : (binOp .eql 20 .nilIface (.iface 9 v)).run Try.prog W = .ok (.bool false) W := by kernel_rfl
@[local go_sem] theorem ne67_4 (u v : Value) (W : World) : (binOp .eql 20 (.iface 67 u) (.iface 4 v)).run Try.prog W = .ok (.bool false) W := run_eql_iface_types 67 4 u v Try.underlying20 (by decide) W
@[local go_sem] theorem ne67_65 (u v : Value) (W : World) : (binOp .eql 20 (.iface 67 u) (.iface 65 v)).run Try.prog W = .ok (.bool false) W := run_eql_iface_types 67 65 u v Try.underlying20 (by decide) W
@[local go_sem] theorem ne67_9 (u v : Value) (W : World) : (binOp .eql 20 (.iface 67 u) (.iface 9 v)).run Try.prog W = .ok (.bool false) W := run_eql_iface_types 67 9 u v Try.underlying20 (by decide) W
@[local go_sem] theorem ne67_68 (u v : Value) (W : World) : (binOp .eql 20 (.iface 67 u) (.iface 68 v)).run Try.prog W = .ok (.bool false) W := run_eql_iface_types 67 68 u v Try.underlying20 (by decide) W
@[local go_sem] theorem nl_67 (v : Value) (W : World) : (binOp .eql 20 .nilIface (.iface 67 v)).run Try.prog W = .ok (.bool false) W := by kernel_rfl
@[local go_sem] theorem ne68_4 (u v : Value) (W : World) : (binOp .eql 20 (.iface 68 u) (.iface 4 v)).run Try.prog W = .ok (.bool false) W := run_eql_iface_types 68 4 u v Try.underlying20 (by decide) W
@[local go_sem] theorem ne68_65 (u v : Value) (W : World) : (binOp .eql 20 (.iface 68 u) (.iface 65 v)).run Try.prog W = .ok (.bool false) W := run_eql_iface_types 68 65 u v Try.underlying20 (by decide) W
@[local go_sem] theorem ne68_9 (u v : Value) (W : World) : (binOp .eql 20 (.iface 68 u) (.iface 9 v)).run Try.prog W = .ok (.bool false) W := run_eql_iface_types 68 9 u v Try.underlying20 (by decide) W
@[local go_sem] theorem ne68_67 (u v : Value) (W : World) : (binOp .eql 20 (.iface 68 u) (.iface 67 v)).run Try.prog W = .ok (.bool false) W := run_eql_iface_types 68 67 u v Try.underlying20 (by decide) W
@[local go_sem] theorem nl_68 (v : Value) (W : World) : (binOp .eql 20 .nilIface (.iface 68 v)).run Try.prog W = .ok (.bool false) W := by kernel_rfl
@[local go_sem] theorem gnn (W : World) : (eqGuard .eql 20 (.tmp 101) (.tmp 102) .nilIface .nilIface).run Try.prog W = .ok () W := by kernel_rfl
@[local go_sem] theorem eq9 (s t : ByteArray) (W : World) : (binOp .eql 20 (.iface 9 (.string s)) (.iface 9 (.string t))).run Try.prog W = .ok (.bool (s == t)) W := by kernel_rfl
@[local go_sem] theorem eq65 (s t : Nat) (W : World) : (binOp .eql 20 (.iface 65 (.float .f64 s)) (.iface 65 (.float .f64 t))).run Try.prog W = .ok (.bool (FloatKind.f64.format.order s t == some .eq)) W := by kernel_rfl
@[local go_sem] theorem eq4 (s t : Bool) (W : World) : (binOp .eql 20 (.iface 4 (.bool s)) (.iface 4 (.bool t))).run Try.prog W = .ok (.bool (s == t)) W := by kernel_rfl
theorem eq_kind {a b : J} (h : a.k ≠ b.k) : eqJ a b = false := by
  rw [Bool.eq_false_iff]
  intro e
  exact h ((eqJ_iff a b).1 e).1
theorem eq_scalar {a b : J} (ha : a.is = []) (hb : b.is = []) : eqJ a b = true ↔ a.k = b.k ∧ a.n = b.n ∧ a.s = b.s := by
  rw [eqJ_iff]
  constructor
  · rintro ⟨h1, h2, h3, _⟩
    exact ⟨h1, h2, h3⟩
  · rintro ⟨h1, h2, h3⟩
    refine ⟨h1, h2, h3, by rw [ha, hb], fun i hi => ?_⟩
    rw [ha] at hi
    exact absurd hi (by simp)
theorem wf0 {n : Int} {s : ByteArray} {ns : List ByteArray} {is : List J} {k : Int} (h : Wf (.mk k n s ns is)) (hk : k < 4) : is = [] ∧ (k = 0 → n = 0) ∧ (k = 1 → n = 0 ∨ n = 1) ∧ (k = 2 → -2147483648 ≤ n ∧ n ≤ 2147483647) ∧ (k = 3 → n = 0) ∧ (k ≠ 3 → s = .empty) := by
  rcases h with ⟨rfl, a, b, c, d⟩ | ⟨rfl, a, b, c, d⟩ | ⟨rfl, a, a2, b, c, d⟩ | ⟨rfl, a, b, c, d⟩ | ⟨rfl, _⟩ | ⟨rfl, _⟩
  · exact ⟨d, (fun _ => a), (fun h => by cases h), (fun h => by cases h), (fun h => by cases h), fun _ => b⟩
  · exact ⟨d, (fun h => by cases h), (fun _ => a), (fun h => by cases h), (fun h => by cases h), fun _ => b⟩
  · exact ⟨d, (fun h => by cases h), (fun h => by cases h), (fun _ => ⟨a, a2⟩), (fun h => by cases h), fun _ => b⟩
  · exact ⟨d, (fun h => by cases h), (fun h => by cases h), (fun h => by cases h), (fun _ => a), fun h => absurd rfl h⟩
  · omega
  · omega
theorem eq_sc {k n1 n2 : Int} {s1 s2 : ByteArray} {ns1 ns2 : List ByteArray} {is1 is2 : List J} (h1 : Wf (.mk k n1 s1 ns1 is1)) (h2 : Wf (.mk k n2 s2 ns2 is2)) (hk : k < 4) : eqJ (.mk k n1 s1 ns1 is1) (.mk k n2 s2 ns2 is2) = (if k = 3 then decide (s1 = s2) else decide (n1 = n2)) := by
  obtain ⟨a1, b1, c1, d1, e1, f1⟩ := wf0 h1 hk
  obtain ⟨a2, b2, c2, d2, e2, f2⟩ := wf0 h2 hk
  rw [Bool.eq_iff_iff, eq_scalar (a := .mk k n1 s1 ns1 is1) (b := .mk k n2 s2 ns2 is2) a1 a2]
  show k = k ∧ n1 = n2 ∧ s1 = s2 ↔ _
  by_cases h : k = 3
  · rw [if_pos h, decide_eq_true_iff, e1 h, e2 h]
    exact ⟨fun x => x.2.2, fun x => ⟨rfl, rfl, x⟩⟩
  · rw [if_neg h, decide_eq_true_iff, f1 h, f2 h]
    exact ⟨fun x => x.2.1, fun x => ⟨rfl, x, rfl⟩⟩
theorem bb_eq (x y : ByteArray) : (x == y) = decide (x = y) := by
  rw [Bool.eq_iff_iff, MapKept.bytes_beq, decide_eq_true_iff]
/-- Values that are not both arrays and not both maps. -/
theorem jseq_flat (t1 t2 : J) (p q : Nat → Prop) (u1 u2 : Value) (w : World) (hw1 : Wf t1) (hw2 : Wf t2) (h1 : IV p w t1 u1) (h2 : IV q w t2 u2) (h4 : ¬ (t1.k = 4 ∧ t2.k = 4)) (h5 : ¬ (t1.k = 5 ∧ t2.k = 5)) :
    Calls Try.prog 39 #[u1, u2] w fun e w' => e = .returned (.bool (eqJ t1 t2)) ∧ w' = w := by
  obtain ⟨k1, n1, s1, ns1, is1⟩ := t1
  obtain ⟨k2, n2, s2, ns2, is2⟩ := t2
  rcases h1 with ⟨rfl, rfl⟩ | ⟨rfl, rfl⟩ | ⟨rfl, rfl⟩ | ⟨rfl, rfl⟩ | ⟨rfl, A1, c1, vs1, rfl, _⟩ | ⟨rfl, b1, vs1, rfl, _⟩
  · rcases h2 with ⟨rfl, rfl⟩ | ⟨rfl, rfl⟩ | ⟨rfl, rfl⟩ | ⟨rfl, rfl⟩ | ⟨rfl, A2, c2, vs2, rfl, _⟩ | ⟨rfl, b2, vs2, rfl, _⟩
    · have hz : n1 = n2 := ((wf0 hw1 (by decide)).2.1 rfl).trans ((wf0 hw2 (by decide)).2.1 rfl).symm
      have he : eqJ (.mk 0 n1 s1 ns1 is1) (.mk 0 n2 s2 ns2 is2) = true := by rw [eq_sc hw1 hw2 (by decide), if_neg (by decide), decide_eq_true hz]
      rw [he]
      clear h4 h5 hw1 hw2 he hz
      go_enter Try.func39, Try.ntmps39
      go_wp2
      go_ret
      exact ⟨rfl, rfl⟩
    · rw [eq_kind (a := .mk 0 n1 s1 ns1 is1) (b := .mk 1 n2 s2 ns2 is2) (show (0 : Int) ≠ 1 by decide)]
      clear h4 h5 hw1 hw2
      go_enter Try.func39, Try.ntmps39
      go_wp2
      go_ret
      exact ⟨rfl, rfl⟩
    · rw [eq_kind (a := .mk 0 n1 s1 ns1 is1) (b := .mk 2 n2 s2 ns2 is2) (show (0 : Int) ≠ 2 by decide)]
      clear h4 h5 hw1 hw2
      go_enter Try.func39, Try.ntmps39
      go_wp2
      go_ret
      exact ⟨rfl, rfl⟩
    · rw [eq_kind (a := .mk 0 n1 s1 ns1 is1) (b := .mk 3 n2 s2 ns2 is2) (show (0 : Int) ≠ 3 by decide)]
      clear h4 h5 hw1 hw2
      go_enter Try.func39, Try.ntmps39
      go_wp2
      go_ret
      exact ⟨rfl, rfl⟩
    · rw [eq_kind (a := .mk 0 n1 s1 ns1 is1) (b := .mk 4 n2 s2 ns2 is2) (show (0 : Int) ≠ 4 by decide)]
      clear h4 h5 hw1 hw2
      go_enter Try.func39, Try.ntmps39
      go_wp2
      go_ret
      exact ⟨rfl, rfl⟩
    · rw [eq_kind (a := .mk 0 n1 s1 ns1 is1) (b := .mk 5 n2 s2 ns2 is2) (show (0 : Int) ≠ 5 by decide)]
      clear h4 h5 hw1 hw2
      go_enter Try.func39, Try.ntmps39
      go_wp2
      go_ret
      exact ⟨rfl, rfl⟩
  · rcases h2 with ⟨rfl, rfl⟩ | ⟨rfl, rfl⟩ | ⟨rfl, rfl⟩ | ⟨rfl, rfl⟩ | ⟨rfl, A2, c2, vs2, rfl, _⟩ | ⟨rfl, b2, vs2, rfl, _⟩
    · rw [eq_kind (a := .mk 1 n1 s1 ns1 is1) (b := .mk 0 n2 s2 ns2 is2) (show (1 : Int) ≠ 0 by decide)]
      clear h4 h5 hw1 hw2
      go_enter Try.func39, Try.ntmps39
      go_wp2
      go_ret
      exact ⟨rfl, rfl⟩
    · have hz1 := (wf0 hw1 (by decide)).2.2.1 rfl
      have hz2 := (wf0 hw2 (by decide)).2.2.1 rfl
      have he : eqJ (.mk 1 n1 s1 ns1 is1) (.mk 1 n2 s2 ns2 is2) = ((n1 == 1) == (n2 == 1)) := by
        rw [eq_sc hw1 hw2 (by decide), if_neg (by decide)]
        rcases hz1 with rfl | rfl <;> rcases hz2 with rfl | rfl <;> rfl
      rw [he]
      clear h4 h5 hw1 hw2 he hz1 hz2
      go_enter Try.func39, Try.ntmps39
      go_wp2
      go_ret
      exact ⟨rfl, rfl⟩
    · rw [eq_kind (a := .mk 1 n1 s1 ns1 is1) (b := .mk 2 n2 s2 ns2 is2) (show (1 : Int) ≠ 2 by decide)]
      clear h4 h5 hw1 hw2
      go_enter Try.func39, Try.ntmps39
      go_wp2
      go_ret
      exact ⟨rfl, rfl⟩
    · rw [eq_kind (a := .mk 1 n1 s1 ns1 is1) (b := .mk 3 n2 s2 ns2 is2) (show (1 : Int) ≠ 3 by decide)]
      clear h4 h5 hw1 hw2
      go_enter Try.func39, Try.ntmps39
      go_wp2
      go_ret
      exact ⟨rfl, rfl⟩
    · rw [eq_kind (a := .mk 1 n1 s1 ns1 is1) (b := .mk 4 n2 s2 ns2 is2) (show (1 : Int) ≠ 4 by decide)]
      clear h4 h5 hw1 hw2
      go_enter Try.func39, Try.ntmps39
      go_wp2
      go_ret
      exact ⟨rfl, rfl⟩
    · rw [eq_kind (a := .mk 1 n1 s1 ns1 is1) (b := .mk 5 n2 s2 ns2 is2) (show (1 : Int) ≠ 5 by decide)]
      clear h4 h5 hw1 hw2
      go_enter Try.func39, Try.ntmps39
      go_wp2
      go_ret
      exact ⟨rfl, rfl⟩
  · rcases h2 with ⟨rfl, rfl⟩ | ⟨rfl, rfl⟩ | ⟨rfl, rfl⟩ | ⟨rfl, rfl⟩ | ⟨rfl, A2, c2, vs2, rfl, _⟩ | ⟨rfl, b2, vs2, rfl, _⟩
    · rw [eq_kind (a := .mk 2 n1 s1 ns1 is1) (b := .mk 0 n2 s2 ns2 is2) (show (2 : Int) ≠ 0 by decide)]
      clear h4 h5 hw1 hw2
      go_enter Try.func39, Try.ntmps39
      go_wp2
      go_ret
      exact ⟨rfl, rfl⟩
    · rw [eq_kind (a := .mk 2 n1 s1 ns1 is1) (b := .mk 1 n2 s2 ns2 is2) (show (2 : Int) ≠ 1 by decide)]
      clear h4 h5 hw1 hw2
      go_enter Try.func39, Try.ntmps39
      go_wp2
      go_ret
      exact ⟨rfl, rfl⟩
    · have ha := (wf0 hw1 (by decide)).2.2.2.1 rfl
      have hb := (wf0 hw2 (by decide)).2.2.2.1 rfl
      have ho : (FloatKind.f64.format.order (jw n1) (jw n2) == some .eq) = decide (n1 = n2) := (jw_FI n1 (by omega)).eq (jw_FI n2 (by omega))
      have he : eqJ (.mk 2 n1 s1 ns1 is1) (.mk 2 n2 s2 ns2 is2) = (FloatKind.f64.format.order (jw n1) (jw n2) == some .eq) := by rw [eq_sc hw1 hw2 (by decide), if_neg (by decide), ho]
      rw [he]
      clear h4 h5 hw1 hw2 he ha hb ho
      go_enter Try.func39, Try.ntmps39
      go_wp2
      go_ret
      exact ⟨rfl, rfl⟩
    · rw [eq_kind (a := .mk 2 n1 s1 ns1 is1) (b := .mk 3 n2 s2 ns2 is2) (show (2 : Int) ≠ 3 by decide)]
      clear h4 h5 hw1 hw2
      go_enter Try.func39, Try.ntmps39
      go_wp2
      go_ret
      exact ⟨rfl, rfl⟩
    · rw [eq_kind (a := .mk 2 n1 s1 ns1 is1) (b := .mk 4 n2 s2 ns2 is2) (show (2 : Int) ≠ 4 by decide)]
      clear h4 h5 hw1 hw2
      go_enter Try.func39, Try.ntmps39
      go_wp2
      go_ret
      exact ⟨rfl, rfl⟩
    · rw [eq_kind (a := .mk 2 n1 s1 ns1 is1) (b := .mk 5 n2 s2 ns2 is2) (show (2 : Int) ≠ 5 by decide)]
      clear h4 h5 hw1 hw2
      go_enter Try.func39, Try.ntmps39
      go_wp2
      go_ret
      exact ⟨rfl, rfl⟩
  · rcases h2 with ⟨rfl, rfl⟩ | ⟨rfl, rfl⟩ | ⟨rfl, rfl⟩ | ⟨rfl, rfl⟩ | ⟨rfl, A2, c2, vs2, rfl, _⟩ | ⟨rfl, b2, vs2, rfl, _⟩
    · rw [eq_kind (a := .mk 3 n1 s1 ns1 is1) (b := .mk 0 n2 s2 ns2 is2) (show (3 : Int) ≠ 0 by decide)]
      clear h4 h5 hw1 hw2
      go_enter Try.func39, Try.ntmps39
      go_wp2
      go_ret
      exact ⟨rfl, rfl⟩
    · rw [eq_kind (a := .mk 3 n1 s1 ns1 is1) (b := .mk 1 n2 s2 ns2 is2) (show (3 : Int) ≠ 1 by decide)]
      clear h4 h5 hw1 hw2
      go_enter Try.func39, Try.ntmps39
      go_wp2
      go_ret
      exact ⟨rfl, rfl⟩
    · rw [eq_kind (a := .mk 3 n1 s1 ns1 is1) (b := .mk 2 n2 s2 ns2 is2) (show (3 : Int) ≠ 2 by decide)]
      clear h4 h5 hw1 hw2
      go_enter Try.func39, Try.ntmps39
      go_wp2
      go_ret
      exact ⟨rfl, rfl⟩
    · have he : eqJ (.mk 3 n1 s1 ns1 is1) (.mk 3 n2 s2 ns2 is2) = (s1 == s2) := by rw [eq_sc hw1 hw2 (by decide), if_pos rfl, bb_eq]
      rw [he]
      clear h4 h5 hw1 hw2 he
      go_enter Try.func39, Try.ntmps39
      go_wp2
      go_ret
      exact ⟨rfl, rfl⟩
    · rw [eq_kind (a := .mk 3 n1 s1 ns1 is1) (b := .mk 4 n2 s2 ns2 is2) (show (3 : Int) ≠ 4 by decide)]
      clear h4 h5 hw1 hw2
      go_enter Try.func39, Try.ntmps39
      go_wp2
      go_ret
      exact ⟨rfl, rfl⟩
    · rw [eq_kind (a := .mk 3 n1 s1 ns1 is1) (b := .mk 5 n2 s2 ns2 is2) (show (3 : Int) ≠ 5 by decide)]
      clear h4 h5 hw1 hw2
      go_enter Try.func39, Try.ntmps39
      go_wp2
      go_ret
      exact ⟨rfl, rfl⟩
  · rcases h2 with ⟨rfl, rfl⟩ | ⟨rfl, rfl⟩ | ⟨rfl, rfl⟩ | ⟨rfl, rfl⟩ | ⟨rfl, A2, c2, vs2, rfl, _⟩ | ⟨rfl, b2, vs2, rfl, _⟩
    · rw [eq_kind (a := .mk 4 n1 s1 ns1 is1) (b := .mk 0 n2 s2 ns2 is2) (show (4 : Int) ≠ 0 by decide)]
      clear h4 h5 hw1 hw2
      go_enter Try.func39, Try.ntmps39
      go_wp2
      go_ret
      exact ⟨rfl, rfl⟩
    · rw [eq_kind (a := .mk 4 n1 s1 ns1 is1) (b := .mk 1 n2 s2 ns2 is2) (show (4 : Int) ≠ 1 by decide)]
      clear h4 h5 hw1 hw2
      go_enter Try.func39, Try.ntmps39
      go_wp2
      go_ret
      exact ⟨rfl, rfl⟩
    · rw [eq_kind (a := .mk 4 n1 s1 ns1 is1) (b := .mk 2 n2 s2 ns2 is2) (show (4 : Int) ≠ 2 by decide)]
      clear h4 h5 hw1 hw2
      go_enter Try.func39, Try.ntmps39
      go_wp2
      go_ret
      exact ⟨rfl, rfl⟩
    · rw [eq_kind (a := .mk 4 n1 s1 ns1 is1) (b := .mk 3 n2 s2 ns2 is2) (show (4 : Int) ≠ 3 by decide)]
      clear h4 h5 hw1 hw2
      go_enter Try.func39, Try.ntmps39
      go_wp2
      go_ret
      exact ⟨rfl, rfl⟩
    · exact absurd ⟨rfl, rfl⟩ h4
    · rw [eq_kind (a := .mk 4 n1 s1 ns1 is1) (b := .mk 5 n2 s2 ns2 is2) (show (4 : Int) ≠ 5 by decide)]
      clear h4 h5 hw1 hw2
      go_enter Try.func39, Try.ntmps39
      go_wp2
      go_ret
      exact ⟨rfl, rfl⟩
  · rcases h2 with ⟨rfl, rfl⟩ | ⟨rfl, rfl⟩ | ⟨rfl, rfl⟩ | ⟨rfl, rfl⟩ | ⟨rfl, A2, c2, vs2, rfl, _⟩ | ⟨rfl, b2, vs2, rfl, _⟩
    · rw [eq_kind (a := .mk 5 n1 s1 ns1 is1) (b := .mk 0 n2 s2 ns2 is2) (show (5 : Int) ≠ 0 by decide)]
      clear h4 h5 hw1 hw2
      go_enter Try.func39, Try.ntmps39
      go_wp2
      go_ret
      exact ⟨rfl, rfl⟩
    · rw [eq_kind (a := .mk 5 n1 s1 ns1 is1) (b := .mk 1 n2 s2 ns2 is2) (show (5 : Int) ≠ 1 by decide)]
      clear h4 h5 hw1 hw2
      go_enter Try.func39, Try.ntmps39
      go_wp2
      go_ret
      exact ⟨rfl, rfl⟩
    · rw [eq_kind (a := .mk 5 n1 s1 ns1 is1) (b := .mk 2 n2 s2 ns2 is2) (show (5 : Int) ≠ 2 by decide)]
      clear h4 h5 hw1 hw2
      go_enter Try.func39, Try.ntmps39
      go_wp2
      go_ret
      exact ⟨rfl, rfl⟩
    · rw [eq_kind (a := .mk 5 n1 s1 ns1 is1) (b := .mk 3 n2 s2 ns2 is2) (show (5 : Int) ≠ 3 by decide)]
      clear h4 h5 hw1 hw2
      go_enter Try.func39, Try.ntmps39
      go_wp2
      go_ret
      exact ⟨rfl, rfl⟩
    · rw [eq_kind (a := .mk 5 n1 s1 ns1 is1) (b := .mk 4 n2 s2 ns2 is2) (show (5 : Int) ≠ 4 by decide)]
      clear h4 h5 hw1 hw2
      go_enter Try.func39, Try.ntmps39
      go_wp2
      go_ret
      exact ⟨rfl, rfl⟩
    · exact absurd ⟨rfl, rfl⟩ h5
end Go.Proofs.Ytmelgankbegjaaa.Js

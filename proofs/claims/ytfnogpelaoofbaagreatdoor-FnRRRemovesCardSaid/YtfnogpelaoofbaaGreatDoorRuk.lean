/- What is left of a range without another one, in a row of the call's own. Conditions: those written at each lemma. -/
import Derived.Test.YtfnogpelaoofbaaGreatDoorRrf
set_option linter.unusedVariables false
set_option linter.unusedSimpArgs false
set_option maxRecDepth 100000
set_option maxHeartbeats 4000000
namespace Go.Proofs.YtfnogpelaoofbaaGreatDoor.Rg
open Go.RowKit Go.Proofs.YtfnogpelaoofbaaGreatDoor.B Go.Proofs.YtfnogpelaoofbaaGreatDoor.Sp

theorem own_new {W : World} {cs : Array Value} {n : Nat} (hs : cs.size = n * 3) (hn : n ≤ 1000) : (W.alloc (.cells cs 92)).ownsRow 0 92 3 (.slice (some ⟨W.heap.size, 0, none⟩) n n) n cs.toList :=
  World.ownsRow_lit (base := 0) (e := 92) (size := 3) W cs n (Nat.zero_le _) (by simp [maxLen]; omega) hs
section
variable {ta tb tc td to tp : TypeId} {ai bi ci di oi pi : Value} {n m : Int} {f g : Nat}
theorem so_no (w : World) (O : ∀ W, Calls Tryz.prog 51 #[exI ta ai tb bi, exI tc ci td di] W fun e w' => e = .returned (.tuple #[exI to oi tp pi, .bool false, .nilIface]) ∧ Below W.heap.size W w') :
    Calls Tryz.prog 52 #[exI ta ai tb bi, exI tc ci td di] w fun e w' => ∃ v, e = .returned (.tuple #[v, .nilIface]) ∧ w'.ownsRow 0 92 3 v 1 [.iface ta ai, .iface tb bi, tv] ∧ Below w.heap.size w w' := by
  have O := Lib.hid O
  have M0 := Lib.hid (((Mo.start w).push (exC ta ai tb bi)).push (exC tc ci td di))
  have hz : (w.alloc (exC ta ai tb bi)).heap.size = w.heap.size + 1 := by simp
  rw [hz] at M0
  clear hz
  go_enter Tryz.func52, Tryz.ntmps52
  go_wp2_with (go_at_call 51; (with_reducible refine (O.out _).mono ?_); rintro e w1 ⟨rfl, hb1⟩; have M1 := Lib.hid (M0.out.keep hb1); clear hb1; have z0 := Rv.lt_of_blk (M1.out.at _ _ (.tail _ (.head _))); obtain ⟨c0, c1, c2⟩ := Rv.cells3 (M1.out.at _ _ (.tail _ (.head _))))
  have M2 := Lib.hid (M1.out.push (exC to oi tp pi))
  go_ret2
  exact ⟨_, rfl, by first | exact own_new rfl (by omega) | (have h := @own_new (w1.alloc (exC to oi tp pi)) #[.iface ta ai, .iface tb bi, tv] 1 rfl (by omega); simpa using h), (M2.out.push _).2.1⟩
theorem so_mm (w : World) (O : ∀ W, Calls Tryz.prog 51 #[exI ta ai tb bi, exI tc ci td di] W fun e w' => e = .returned (.tuple #[exI to oi tp pi, .bool true, .nilIface]) ∧ Below W.heap.size W w')
    (C : Cmp ta ai tc ci (-1) f) (D : Cmp tb bi td di (-1) g) :
    Calls Tryz.prog 52 #[exI ta ai tb bi, exI tc ci td di] w fun e w' => ∃ v, e = .returned (.tuple #[v, .nilIface]) ∧ w'.ownsRow 0 92 3 v 1 [.iface ta ai, .iface tc ci, tv] ∧ Below w.heap.size w w' := by
  have O := Lib.hid O
  obtain ⟨hi1, hf1, C1⟩ := C
  obtain ⟨hi2, hf2, C2⟩ := D
  have C1 := Lib.hid C1
  have C2 := Lib.hid C2
  have M0 := Lib.hid (((Mo.start w).push (exC ta ai tb bi)).push (exC tc ci td di))
  have hz : (w.alloc (exC ta ai tb bi)).heap.size = w.heap.size + 1 := by simp
  rw [hz] at M0
  clear hz
  go_enter Tryz.func52, Tryz.ntmps52
  go_wp2_with (first
    | (go_at_call 51; (with_reducible refine (O.out _).mono ?_); rintro e w1 ⟨rfl, hb1⟩; have M1 := Lib.hid (M0.out.keep hb1); clear hb1; have z0 := Rv.lt_of_blk (M1.out.at _ _ (.tail _ (.head _))); obtain ⟨c0, c1, c2⟩ := Rv.cells3 (M1.out.at _ _ (.tail _ (.head _))); have z1 := Rv.lt_of_blk (M1.out.at _ _ (.head _)); obtain ⟨d0, d1, d2⟩ := Rv.cells3 (M1.out.at _ _ (.head _)))
    | ((with_reducible refine (C1.out _).mono ?_); rintro e w2 ⟨rfl, hb2⟩; have M2 := Lib.hid ((M1.out.push (exC to oi tp pi)).keep hb2); clear hb2 c0 c1 c2 d0 d1 d2 z0 z1; have z0 := Rv.lt_of_blk (M2.out.at _ _ (.tail _ (.tail _ (.head _)))); obtain ⟨c0, c1, c2⟩ := Rv.cells3 (M2.out.at _ _ (.tail _ (.tail _ (.head _)))); have z1 := Rv.lt_of_blk (M2.out.at _ _ (.tail _ (.head _))); obtain ⟨d0, d1, d2⟩ := Rv.cells3 (M2.out.at _ _ (.tail _ (.head _))))
    | ((with_reducible refine (C2.out _).mono ?_); rintro e w3 ⟨rfl, hb3⟩; have M3 := Lib.hid (M2.out.keep hb3); clear hb3 c0 c1 c2 d0 d1 d2 z0 z1; have z0 := Rv.lt_of_blk (M3.out.at _ _ (.tail _ (.tail _ (.head _)))); obtain ⟨c0, c1, c2⟩ := Rv.cells3 (M3.out.at _ _ (.tail _ (.tail _ (.head _)))); have z1 := Rv.lt_of_blk (M3.out.at _ _ (.tail _ (.head _))); obtain ⟨d0, d1, d2⟩ := Rv.cells3 (M3.out.at _ _ (.tail _ (.head _)))))
  go_ret2
  exact ⟨_, rfl, own_new rfl (by omega), (M3.out.push _).2.1⟩
theorem so_mz (w : World) (O : ∀ W, Calls Tryz.prog 51 #[exI ta ai tb bi, exI tc ci td di] W fun e w' => e = .returned (.tuple #[exI to oi tp pi, .bool true, .nilIface]) ∧ Below W.heap.size W w')
    (C : Cmp ta ai tc ci (-1) f) (D : Cmp tb bi td di (0) g) :
    Calls Tryz.prog 52 #[exI ta ai tb bi, exI tc ci td di] w fun e w' => ∃ v, e = .returned (.tuple #[v, .nilIface]) ∧ w'.ownsRow 0 92 3 v 1 [.iface ta ai, .iface tc ci, tv] ∧ Below w.heap.size w w' := by
  have O := Lib.hid O
  obtain ⟨hi1, hf1, C1⟩ := C
  obtain ⟨hi2, hf2, C2⟩ := D
  have C1 := Lib.hid C1
  have C2 := Lib.hid C2
  have M0 := Lib.hid (((Mo.start w).push (exC ta ai tb bi)).push (exC tc ci td di))
  have hz : (w.alloc (exC ta ai tb bi)).heap.size = w.heap.size + 1 := by simp
  rw [hz] at M0
  clear hz
  go_enter Tryz.func52, Tryz.ntmps52
  go_wp2_with (first
    | (go_at_call 51; (with_reducible refine (O.out _).mono ?_); rintro e w1 ⟨rfl, hb1⟩; have M1 := Lib.hid (M0.out.keep hb1); clear hb1; have z0 := Rv.lt_of_blk (M1.out.at _ _ (.tail _ (.head _))); obtain ⟨c0, c1, c2⟩ := Rv.cells3 (M1.out.at _ _ (.tail _ (.head _))); have z1 := Rv.lt_of_blk (M1.out.at _ _ (.head _)); obtain ⟨d0, d1, d2⟩ := Rv.cells3 (M1.out.at _ _ (.head _)))
    | ((with_reducible refine (C1.out _).mono ?_); rintro e w2 ⟨rfl, hb2⟩; have M2 := Lib.hid ((M1.out.push (exC to oi tp pi)).keep hb2); clear hb2 c0 c1 c2 d0 d1 d2 z0 z1; have z0 := Rv.lt_of_blk (M2.out.at _ _ (.tail _ (.tail _ (.head _)))); obtain ⟨c0, c1, c2⟩ := Rv.cells3 (M2.out.at _ _ (.tail _ (.tail _ (.head _)))); have z1 := Rv.lt_of_blk (M2.out.at _ _ (.tail _ (.head _))); obtain ⟨d0, d1, d2⟩ := Rv.cells3 (M2.out.at _ _ (.tail _ (.head _))))
    | ((with_reducible refine (C2.out _).mono ?_); rintro e w3 ⟨rfl, hb3⟩; have M3 := Lib.hid (M2.out.keep hb3); clear hb3 c0 c1 c2 d0 d1 d2 z0 z1; have z0 := Rv.lt_of_blk (M3.out.at _ _ (.tail _ (.tail _ (.head _)))); obtain ⟨c0, c1, c2⟩ := Rv.cells3 (M3.out.at _ _ (.tail _ (.tail _ (.head _)))); have z1 := Rv.lt_of_blk (M3.out.at _ _ (.tail _ (.head _))); obtain ⟨d0, d1, d2⟩ := Rv.cells3 (M3.out.at _ _ (.tail _ (.head _)))))
  go_ret2
  exact ⟨_, rfl, own_new rfl (by omega), (M3.out.push _).2.1⟩
theorem so_mp (w : World) (O : ∀ W, Calls Tryz.prog 51 #[exI ta ai tb bi, exI tc ci td di] W fun e w' => e = .returned (.tuple #[exI to oi tp pi, .bool true, .nilIface]) ∧ Below W.heap.size W w')
    (C : Cmp ta ai tc ci (-1) f) (D : Cmp tb bi td di (1) g) :
    Calls Tryz.prog 52 #[exI ta ai tb bi, exI tc ci td di] w fun e w' => ∃ v, e = .returned (.tuple #[v, .nilIface]) ∧ w'.ownsRow 0 92 3 v 2 [.iface ta ai, .iface tc ci, tv, .iface td di, .iface tb bi, tv] ∧ Below w.heap.size w w' := by
  have O := Lib.hid O
  obtain ⟨hi1, hf1, C1⟩ := C
  obtain ⟨hi2, hf2, C2⟩ := D
  have C1 := Lib.hid C1
  have C2 := Lib.hid C2
  have M0 := Lib.hid (((Mo.start w).push (exC ta ai tb bi)).push (exC tc ci td di))
  have hz : (w.alloc (exC ta ai tb bi)).heap.size = w.heap.size + 1 := by simp
  rw [hz] at M0
  clear hz
  go_enter Tryz.func52, Tryz.ntmps52
  go_wp2_with (first
    | (go_at_call 51; (with_reducible refine (O.out _).mono ?_); rintro e w1 ⟨rfl, hb1⟩; have M1 := Lib.hid (M0.out.keep hb1); clear hb1; have z0 := Rv.lt_of_blk (M1.out.at _ _ (.tail _ (.head _))); obtain ⟨c0, c1, c2⟩ := Rv.cells3 (M1.out.at _ _ (.tail _ (.head _))); have z1 := Rv.lt_of_blk (M1.out.at _ _ (.head _)); obtain ⟨d0, d1, d2⟩ := Rv.cells3 (M1.out.at _ _ (.head _)))
    | ((with_reducible refine (C1.out _).mono ?_); rintro e w2 ⟨rfl, hb2⟩; have M2 := Lib.hid ((M1.out.push (exC to oi tp pi)).keep hb2); clear hb2 c0 c1 c2 d0 d1 d2 z0 z1; have z0 := Rv.lt_of_blk (M2.out.at _ _ (.tail _ (.tail _ (.head _)))); obtain ⟨c0, c1, c2⟩ := Rv.cells3 (M2.out.at _ _ (.tail _ (.tail _ (.head _)))); have z1 := Rv.lt_of_blk (M2.out.at _ _ (.tail _ (.head _))); obtain ⟨d0, d1, d2⟩ := Rv.cells3 (M2.out.at _ _ (.tail _ (.head _))))
    | ((with_reducible refine (C2.out _).mono ?_); rintro e w3 ⟨rfl, hb3⟩; have M3 := Lib.hid (M2.out.keep hb3); clear hb3 c0 c1 c2 d0 d1 d2 z0 z1; have z0 := Rv.lt_of_blk (M3.out.at _ _ (.tail _ (.tail _ (.head _)))); obtain ⟨c0, c1, c2⟩ := Rv.cells3 (M3.out.at _ _ (.tail _ (.tail _ (.head _)))); have z1 := Rv.lt_of_blk (M3.out.at _ _ (.tail _ (.head _))); obtain ⟨d0, d1, d2⟩ := Rv.cells3 (M3.out.at _ _ (.tail _ (.head _)))))
  go_ret2
  exact ⟨_, rfl, own_new rfl (by omega), (M3.out.push _).2.1⟩
theorem so_zm (w : World) (O : ∀ W, Calls Tryz.prog 51 #[exI ta ai tb bi, exI tc ci td di] W fun e w' => e = .returned (.tuple #[exI to oi tp pi, .bool true, .nilIface]) ∧ Below W.heap.size W w')
    (C : Cmp ta ai tc ci (0) f) (D : Cmp tb bi td di (-1) g) :
    Calls Tryz.prog 52 #[exI ta ai tb bi, exI tc ci td di] w fun e w' => ∃ v, e = .returned (.tuple #[v, .nilIface]) ∧ w'.ownsRow 0 92 3 v 0 [] ∧ Below w.heap.size w w' := by
  have O := Lib.hid O
  obtain ⟨hi1, hf1, C1⟩ := C
  obtain ⟨hi2, hf2, C2⟩ := D
  have C1 := Lib.hid C1
  have C2 := Lib.hid C2
  have M0 := Lib.hid (((Mo.start w).push (exC ta ai tb bi)).push (exC tc ci td di))
  have hz : (w.alloc (exC ta ai tb bi)).heap.size = w.heap.size + 1 := by simp
  rw [hz] at M0
  clear hz
  go_enter Tryz.func52, Tryz.ntmps52
  go_wp2_with (first
    | (go_at_call 51; (with_reducible refine (O.out _).mono ?_); rintro e w1 ⟨rfl, hb1⟩; have M1 := Lib.hid (M0.out.keep hb1); clear hb1; have z0 := Rv.lt_of_blk (M1.out.at _ _ (.tail _ (.head _))); obtain ⟨c0, c1, c2⟩ := Rv.cells3 (M1.out.at _ _ (.tail _ (.head _))); have z1 := Rv.lt_of_blk (M1.out.at _ _ (.head _)); obtain ⟨d0, d1, d2⟩ := Rv.cells3 (M1.out.at _ _ (.head _)))
    | ((with_reducible refine (C1.out _).mono ?_); rintro e w2 ⟨rfl, hb2⟩; have M2 := Lib.hid ((M1.out.push (exC to oi tp pi)).keep hb2); clear hb2 c0 c1 c2 d0 d1 d2 z0 z1; have z0 := Rv.lt_of_blk (M2.out.at _ _ (.tail _ (.tail _ (.head _)))); obtain ⟨c0, c1, c2⟩ := Rv.cells3 (M2.out.at _ _ (.tail _ (.tail _ (.head _)))); have z1 := Rv.lt_of_blk (M2.out.at _ _ (.tail _ (.head _))); obtain ⟨d0, d1, d2⟩ := Rv.cells3 (M2.out.at _ _ (.tail _ (.head _))))
    | ((with_reducible refine (C2.out _).mono ?_); rintro e w3 ⟨rfl, hb3⟩; have M3 := Lib.hid (M2.out.keep hb3); clear hb3 c0 c1 c2 d0 d1 d2 z0 z1; have z0 := Rv.lt_of_blk (M3.out.at _ _ (.tail _ (.tail _ (.head _)))); obtain ⟨c0, c1, c2⟩ := Rv.cells3 (M3.out.at _ _ (.tail _ (.tail _ (.head _)))); have z1 := Rv.lt_of_blk (M3.out.at _ _ (.tail _ (.head _))); obtain ⟨d0, d1, d2⟩ := Rv.cells3 (M3.out.at _ _ (.tail _ (.head _)))))
  go_ret2
  exact ⟨_, rfl, World.ownsRow_nil _ _ _ _, M3.out.2.1⟩
theorem so_zz (w : World) (O : ∀ W, Calls Tryz.prog 51 #[exI ta ai tb bi, exI tc ci td di] W fun e w' => e = .returned (.tuple #[exI to oi tp pi, .bool true, .nilIface]) ∧ Below W.heap.size W w')
    (C : Cmp ta ai tc ci (0) f) (D : Cmp tb bi td di (0) g) :
    Calls Tryz.prog 52 #[exI ta ai tb bi, exI tc ci td di] w fun e w' => ∃ v, e = .returned (.tuple #[v, .nilIface]) ∧ w'.ownsRow 0 92 3 v 0 [] ∧ Below w.heap.size w w' := by
  have O := Lib.hid O
  obtain ⟨hi1, hf1, C1⟩ := C
  obtain ⟨hi2, hf2, C2⟩ := D
  have C1 := Lib.hid C1
  have C2 := Lib.hid C2
  have M0 := Lib.hid (((Mo.start w).push (exC ta ai tb bi)).push (exC tc ci td di))
  have hz : (w.alloc (exC ta ai tb bi)).heap.size = w.heap.size + 1 := by simp
  rw [hz] at M0
  clear hz
  go_enter Tryz.func52, Tryz.ntmps52
  go_wp2_with (first
    | (go_at_call 51; (with_reducible refine (O.out _).mono ?_); rintro e w1 ⟨rfl, hb1⟩; have M1 := Lib.hid (M0.out.keep hb1); clear hb1; have z0 := Rv.lt_of_blk (M1.out.at _ _ (.tail _ (.head _))); obtain ⟨c0, c1, c2⟩ := Rv.cells3 (M1.out.at _ _ (.tail _ (.head _))); have z1 := Rv.lt_of_blk (M1.out.at _ _ (.head _)); obtain ⟨d0, d1, d2⟩ := Rv.cells3 (M1.out.at _ _ (.head _)))
    | ((with_reducible refine (C1.out _).mono ?_); rintro e w2 ⟨rfl, hb2⟩; have M2 := Lib.hid ((M1.out.push (exC to oi tp pi)).keep hb2); clear hb2 c0 c1 c2 d0 d1 d2 z0 z1; have z0 := Rv.lt_of_blk (M2.out.at _ _ (.tail _ (.tail _ (.head _)))); obtain ⟨c0, c1, c2⟩ := Rv.cells3 (M2.out.at _ _ (.tail _ (.tail _ (.head _)))); have z1 := Rv.lt_of_blk (M2.out.at _ _ (.tail _ (.head _))); obtain ⟨d0, d1, d2⟩ := Rv.cells3 (M2.out.at _ _ (.tail _ (.head _))))
    | ((with_reducible refine (C2.out _).mono ?_); rintro e w3 ⟨rfl, hb3⟩; have M3 := Lib.hid (M2.out.keep hb3); clear hb3 c0 c1 c2 d0 d1 d2 z0 z1; have z0 := Rv.lt_of_blk (M3.out.at _ _ (.tail _ (.tail _ (.head _)))); obtain ⟨c0, c1, c2⟩ := Rv.cells3 (M3.out.at _ _ (.tail _ (.tail _ (.head _)))); have z1 := Rv.lt_of_blk (M3.out.at _ _ (.tail _ (.head _))); obtain ⟨d0, d1, d2⟩ := Rv.cells3 (M3.out.at _ _ (.tail _ (.head _)))))
  go_ret2
  exact ⟨_, rfl, World.ownsRow_nil _ _ _ _, M3.out.2.1⟩
theorem so_zp (w : World) (O : ∀ W, Calls Tryz.prog 51 #[exI ta ai tb bi, exI tc ci td di] W fun e w' => e = .returned (.tuple #[exI to oi tp pi, .bool true, .nilIface]) ∧ Below W.heap.size W w')
    (C : Cmp ta ai tc ci (0) f) (D : Cmp tb bi td di (1) g) :
    Calls Tryz.prog 52 #[exI ta ai tb bi, exI tc ci td di] w fun e w' => ∃ v, e = .returned (.tuple #[v, .nilIface]) ∧ w'.ownsRow 0 92 3 v 1 [.iface td di, .iface tb bi, tv] ∧ Below w.heap.size w w' := by
  have O := Lib.hid O
  obtain ⟨hi1, hf1, C1⟩ := C
  obtain ⟨hi2, hf2, C2⟩ := D
  have C1 := Lib.hid C1
  have C2 := Lib.hid C2
  have M0 := Lib.hid (((Mo.start w).push (exC ta ai tb bi)).push (exC tc ci td di))
  have hz : (w.alloc (exC ta ai tb bi)).heap.size = w.heap.size + 1 := by simp
  rw [hz] at M0
  clear hz
  go_enter Tryz.func52, Tryz.ntmps52
  go_wp2_with (first
    | (go_at_call 51; (with_reducible refine (O.out _).mono ?_); rintro e w1 ⟨rfl, hb1⟩; have M1 := Lib.hid (M0.out.keep hb1); clear hb1; have z0 := Rv.lt_of_blk (M1.out.at _ _ (.tail _ (.head _))); obtain ⟨c0, c1, c2⟩ := Rv.cells3 (M1.out.at _ _ (.tail _ (.head _))); have z1 := Rv.lt_of_blk (M1.out.at _ _ (.head _)); obtain ⟨d0, d1, d2⟩ := Rv.cells3 (M1.out.at _ _ (.head _)))
    | ((with_reducible refine (C1.out _).mono ?_); rintro e w2 ⟨rfl, hb2⟩; have M2 := Lib.hid ((M1.out.push (exC to oi tp pi)).keep hb2); clear hb2 c0 c1 c2 d0 d1 d2 z0 z1; have z0 := Rv.lt_of_blk (M2.out.at _ _ (.tail _ (.tail _ (.head _)))); obtain ⟨c0, c1, c2⟩ := Rv.cells3 (M2.out.at _ _ (.tail _ (.tail _ (.head _)))); have z1 := Rv.lt_of_blk (M2.out.at _ _ (.tail _ (.head _))); obtain ⟨d0, d1, d2⟩ := Rv.cells3 (M2.out.at _ _ (.tail _ (.head _))))
    | ((with_reducible refine (C2.out _).mono ?_); rintro e w3 ⟨rfl, hb3⟩; have M3 := Lib.hid (M2.out.keep hb3); clear hb3 c0 c1 c2 d0 d1 d2 z0 z1; have z0 := Rv.lt_of_blk (M3.out.at _ _ (.tail _ (.tail _ (.head _)))); obtain ⟨c0, c1, c2⟩ := Rv.cells3 (M3.out.at _ _ (.tail _ (.tail _ (.head _)))); have z1 := Rv.lt_of_blk (M3.out.at _ _ (.tail _ (.head _))); obtain ⟨d0, d1, d2⟩ := Rv.cells3 (M3.out.at _ _ (.tail _ (.head _)))))
  go_ret2
  exact ⟨_, rfl, own_new rfl (by omega), (M3.out.push _).2.1⟩
theorem so_pm (w : World) (O : ∀ W, Calls Tryz.prog 51 #[exI ta ai tb bi, exI tc ci td di] W fun e w' => e = .returned (.tuple #[exI to oi tp pi, .bool true, .nilIface]) ∧ Below W.heap.size W w')
    (C : Cmp ta ai tc ci (1) f) (D : Cmp tb bi td di (-1) g) :
    Calls Tryz.prog 52 #[exI ta ai tb bi, exI tc ci td di] w fun e w' => ∃ v, e = .returned (.tuple #[v, .nilIface]) ∧ w'.ownsRow 0 92 3 v 0 [] ∧ Below w.heap.size w w' := by
  have O := Lib.hid O
  obtain ⟨hi1, hf1, C1⟩ := C
  obtain ⟨hi2, hf2, C2⟩ := D
  have C1 := Lib.hid C1
  have C2 := Lib.hid C2
  have M0 := Lib.hid (((Mo.start w).push (exC ta ai tb bi)).push (exC tc ci td di))
  have hz : (w.alloc (exC ta ai tb bi)).heap.size = w.heap.size + 1 := by simp
  rw [hz] at M0
  clear hz
  go_enter Tryz.func52, Tryz.ntmps52
  go_wp2_with (first
    | (go_at_call 51; (with_reducible refine (O.out _).mono ?_); rintro e w1 ⟨rfl, hb1⟩; have M1 := Lib.hid (M0.out.keep hb1); clear hb1; have z0 := Rv.lt_of_blk (M1.out.at _ _ (.tail _ (.head _))); obtain ⟨c0, c1, c2⟩ := Rv.cells3 (M1.out.at _ _ (.tail _ (.head _))); have z1 := Rv.lt_of_blk (M1.out.at _ _ (.head _)); obtain ⟨d0, d1, d2⟩ := Rv.cells3 (M1.out.at _ _ (.head _)))
    | ((with_reducible refine (C1.out _).mono ?_); rintro e w2 ⟨rfl, hb2⟩; have M2 := Lib.hid ((M1.out.push (exC to oi tp pi)).keep hb2); clear hb2 c0 c1 c2 d0 d1 d2 z0 z1; have z0 := Rv.lt_of_blk (M2.out.at _ _ (.tail _ (.tail _ (.head _)))); obtain ⟨c0, c1, c2⟩ := Rv.cells3 (M2.out.at _ _ (.tail _ (.tail _ (.head _)))); have z1 := Rv.lt_of_blk (M2.out.at _ _ (.tail _ (.head _))); obtain ⟨d0, d1, d2⟩ := Rv.cells3 (M2.out.at _ _ (.tail _ (.head _))))
    | ((with_reducible refine (C2.out _).mono ?_); rintro e w3 ⟨rfl, hb3⟩; have M3 := Lib.hid (M2.out.keep hb3); clear hb3 c0 c1 c2 d0 d1 d2 z0 z1; have z0 := Rv.lt_of_blk (M3.out.at _ _ (.tail _ (.tail _ (.head _)))); obtain ⟨c0, c1, c2⟩ := Rv.cells3 (M3.out.at _ _ (.tail _ (.tail _ (.head _)))); have z1 := Rv.lt_of_blk (M3.out.at _ _ (.tail _ (.head _))); obtain ⟨d0, d1, d2⟩ := Rv.cells3 (M3.out.at _ _ (.tail _ (.head _)))))
  go_ret2
  exact ⟨_, rfl, World.ownsRow_nil _ _ _ _, M3.out.2.1⟩
theorem so_pz (w : World) (O : ∀ W, Calls Tryz.prog 51 #[exI ta ai tb bi, exI tc ci td di] W fun e w' => e = .returned (.tuple #[exI to oi tp pi, .bool true, .nilIface]) ∧ Below W.heap.size W w')
    (C : Cmp ta ai tc ci (1) f) (D : Cmp tb bi td di (0) g) :
    Calls Tryz.prog 52 #[exI ta ai tb bi, exI tc ci td di] w fun e w' => ∃ v, e = .returned (.tuple #[v, .nilIface]) ∧ w'.ownsRow 0 92 3 v 0 [] ∧ Below w.heap.size w w' := by
  have O := Lib.hid O
  obtain ⟨hi1, hf1, C1⟩ := C
  obtain ⟨hi2, hf2, C2⟩ := D
  have C1 := Lib.hid C1
  have C2 := Lib.hid C2
  have M0 := Lib.hid (((Mo.start w).push (exC ta ai tb bi)).push (exC tc ci td di))
  have hz : (w.alloc (exC ta ai tb bi)).heap.size = w.heap.size + 1 := by simp
  rw [hz] at M0
  clear hz
  go_enter Tryz.func52, Tryz.ntmps52
  go_wp2_with (first
    | (go_at_call 51; (with_reducible refine (O.out _).mono ?_); rintro e w1 ⟨rfl, hb1⟩; have M1 := Lib.hid (M0.out.keep hb1); clear hb1; have z0 := Rv.lt_of_blk (M1.out.at _ _ (.tail _ (.head _))); obtain ⟨c0, c1, c2⟩ := Rv.cells3 (M1.out.at _ _ (.tail _ (.head _))); have z1 := Rv.lt_of_blk (M1.out.at _ _ (.head _)); obtain ⟨d0, d1, d2⟩ := Rv.cells3 (M1.out.at _ _ (.head _)))
    | ((with_reducible refine (C1.out _).mono ?_); rintro e w2 ⟨rfl, hb2⟩; have M2 := Lib.hid ((M1.out.push (exC to oi tp pi)).keep hb2); clear hb2 c0 c1 c2 d0 d1 d2 z0 z1; have z0 := Rv.lt_of_blk (M2.out.at _ _ (.tail _ (.tail _ (.head _)))); obtain ⟨c0, c1, c2⟩ := Rv.cells3 (M2.out.at _ _ (.tail _ (.tail _ (.head _)))); have z1 := Rv.lt_of_blk (M2.out.at _ _ (.tail _ (.head _))); obtain ⟨d0, d1, d2⟩ := Rv.cells3 (M2.out.at _ _ (.tail _ (.head _))))
    | ((with_reducible refine (C2.out _).mono ?_); rintro e w3 ⟨rfl, hb3⟩; have M3 := Lib.hid (M2.out.keep hb3); clear hb3 c0 c1 c2 d0 d1 d2 z0 z1; have z0 := Rv.lt_of_blk (M3.out.at _ _ (.tail _ (.tail _ (.head _)))); obtain ⟨c0, c1, c2⟩ := Rv.cells3 (M3.out.at _ _ (.tail _ (.tail _ (.head _)))); have z1 := Rv.lt_of_blk (M3.out.at _ _ (.tail _ (.head _))); obtain ⟨d0, d1, d2⟩ := Rv.cells3 (M3.out.at _ _ (.tail _ (.head _)))))
  go_ret2
  exact ⟨_, rfl, World.ownsRow_nil _ _ _ _, M3.out.2.1⟩
theorem so_pp (w : World) (O : ∀ W, Calls Tryz.prog 51 #[exI ta ai tb bi, exI tc ci td di] W fun e w' => e = .returned (.tuple #[exI to oi tp pi, .bool true, .nilIface]) ∧ Below W.heap.size W w')
    (C : Cmp ta ai tc ci (1) f) (D : Cmp tb bi td di (1) g) :
    Calls Tryz.prog 52 #[exI ta ai tb bi, exI tc ci td di] w fun e w' => ∃ v, e = .returned (.tuple #[v, .nilIface]) ∧ w'.ownsRow 0 92 3 v 1 [.iface td di, .iface tb bi, tv] ∧ Below w.heap.size w w' := by
  have O := Lib.hid O
  obtain ⟨hi1, hf1, C1⟩ := C
  obtain ⟨hi2, hf2, C2⟩ := D
  have C1 := Lib.hid C1
  have C2 := Lib.hid C2
  have M0 := Lib.hid (((Mo.start w).push (exC ta ai tb bi)).push (exC tc ci td di))
  have hz : (w.alloc (exC ta ai tb bi)).heap.size = w.heap.size + 1 := by simp
  rw [hz] at M0
  clear hz
  go_enter Tryz.func52, Tryz.ntmps52
  go_wp2_with (first
    | (go_at_call 51; (with_reducible refine (O.out _).mono ?_); rintro e w1 ⟨rfl, hb1⟩; have M1 := Lib.hid (M0.out.keep hb1); clear hb1; have z0 := Rv.lt_of_blk (M1.out.at _ _ (.tail _ (.head _))); obtain ⟨c0, c1, c2⟩ := Rv.cells3 (M1.out.at _ _ (.tail _ (.head _))); have z1 := Rv.lt_of_blk (M1.out.at _ _ (.head _)); obtain ⟨d0, d1, d2⟩ := Rv.cells3 (M1.out.at _ _ (.head _)))
    | ((with_reducible refine (C1.out _).mono ?_); rintro e w2 ⟨rfl, hb2⟩; have M2 := Lib.hid ((M1.out.push (exC to oi tp pi)).keep hb2); clear hb2 c0 c1 c2 d0 d1 d2 z0 z1; have z0 := Rv.lt_of_blk (M2.out.at _ _ (.tail _ (.tail _ (.head _)))); obtain ⟨c0, c1, c2⟩ := Rv.cells3 (M2.out.at _ _ (.tail _ (.tail _ (.head _)))); have z1 := Rv.lt_of_blk (M2.out.at _ _ (.tail _ (.head _))); obtain ⟨d0, d1, d2⟩ := Rv.cells3 (M2.out.at _ _ (.tail _ (.head _))))
    | ((with_reducible refine (C2.out _).mono ?_); rintro e w3 ⟨rfl, hb3⟩; have M3 := Lib.hid (M2.out.keep hb3); clear hb3 c0 c1 c2 d0 d1 d2 z0 z1; have z0 := Rv.lt_of_blk (M3.out.at _ _ (.tail _ (.tail _ (.head _)))); obtain ⟨c0, c1, c2⟩ := Rv.cells3 (M3.out.at _ _ (.tail _ (.tail _ (.head _)))); have z1 := Rv.lt_of_blk (M3.out.at _ _ (.tail _ (.head _))); obtain ⟨d0, d1, d2⟩ := Rv.cells3 (M3.out.at _ _ (.tail _ (.head _)))))
  go_ret2
  exact ⟨_, rfl, own_new rfl (by omega), (M3.out.push _).2.1⟩
end
theorem suo_cl (a b : Cl) (w : World) (pa : Pcl a) (pb : Pcl b) :
    Calls Tryz.prog 52 #[exV (ctOf a.a a.x) (ctOf a.b a.y), exV (ctOf b.a b.x) (ctOf b.b b.y)] w fun e w' => ∃ v, e = .returned (.tuple #[v, .nilIface]) ∧ w'.ownsRow 0 92 3 v (sub a b).length (exs (sub a b)) ∧ Below w.heap.size w w' := by
  have O : ∀ W, Calls Tryz.prog 51 #[exV (ctOf a.a a.x) (ctOf a.b a.y), exV (ctOf b.a b.x) (ctOf b.b b.y)] W fun e w' => e = .returned (.tuple #[exV (ovL (ctOf a.a a.x) (ctOf a.b a.y) (ctOf b.a b.x) (ctOf b.b b.y)) (ovU (ctOf a.a a.x) (ctOf a.b a.y) (ctOf b.a b.x) (ctOf b.b b.y)), .bool (ovY (ctOf a.a a.x) (ctOf a.b a.y) (ctOf b.a b.x) (ctOf b.b b.y)), .nilIface]) ∧ Below W.heap.size W w' := fun W => overlaps_ct _ _ _ _ W
  have hy : ovY (ctOf a.a a.x) (ctOf a.b a.y) (ctOf b.a b.x) (ctOf b.b b.y) = decide (a.lo < b.hi ∧ b.lo < a.hi) := by
    unfold ovY
    rw [cp_pos pa.1 pb.2, cp_pos pb.1 pa.2, ← Bool.decide_and]
    exact decide_eq_decide.2 (by rw [sg_neg, sg_neg])
  rw [hy] at O
  have C := cmp_of (ctOf a.a a.x) (ctOf b.a b.x)
  have D := cmp_of (ctOf a.b a.y) (ctOf b.b b.y)
  rw [cp_pos pa.1 pb.1] at C
  rw [cp_pos pa.2 pb.2] at D
  rw [ex_eq (ctOf a.a a.x), ex_eq (ctOf b.a b.x)]
  simp only [ex_eq] at O
  by_cases h : a.lo < b.hi ∧ b.lo < a.hi
  · rw [decide_eq_true h] at O
    unfold sub
    rw [if_pos h]
    have e1 : plc a.a a.x = a.lo := rfl
    have e2 : plc b.a b.x = b.lo := rfl
    have e3 : plc a.b a.y = a.hi := rfl
    have e4 : plc b.b b.y = b.hi := rfl
    rw [e1, e2] at C
    rw [e3, e4] at D
    clear hy h e1 e2 e3 e4
    rcases sg_cases a.lo b.lo with ⟨h1, h2⟩ | ⟨h1, h2⟩ | ⟨h1, h2⟩ <;> rcases sg_cases a.hi b.hi with ⟨h3, h4⟩ | ⟨h3, h4⟩ | ⟨h3, h4⟩ <;> rw [h2] at C <;> rw [h4] at D
    · rw [if_pos h1, if_neg (by omega)]; exact so_mm w O C D
    · rw [if_pos h1, if_neg (by omega)]; exact so_mz w O C D
    · rw [if_pos h1, if_pos h3]; exact so_mp w O C D
    · rw [if_neg (by omega), if_neg (by omega)]; exact so_zm w O C D
    · rw [if_neg (by omega), if_neg (by omega)]; exact so_zz w O C D
    · rw [if_neg (by omega), if_pos h3]; exact so_zp w O C D
    · rw [if_neg (by omega), if_neg (by omega)]; exact so_pm w O C D
    · rw [if_neg (by omega), if_neg (by omega)]; exact so_pz w O C D
    · rw [if_neg (by omega), if_pos h3]; exact so_pp w O C D
  · rw [decide_eq_false h] at O
    unfold sub
    rw [if_neg h]
    exact so_no w O

end Go.Proofs.YtfnogpelaoofbaaGreatDoor.Rg

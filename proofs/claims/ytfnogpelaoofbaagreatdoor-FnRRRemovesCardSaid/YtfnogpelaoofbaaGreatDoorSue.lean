/- What is left of a range without another one: the program's way. Conditions: those written at each lemma. -/
import Derived.Test.YtfnogpelaoofbaaGreatDoorSuc
set_option linter.unusedVariables false
set_option linter.unusedSimpArgs false
set_option maxRecDepth 100000
set_option maxHeartbeats 4000000
namespace Go.Proofs.YtfnogpelaoofbaaGreatDoor.Rg
open Go.RowKit Go.Proofs.YtfnogpelaoofbaaGreatDoor.B Go.Proofs.YtfnogpelaoofbaaGreatDoor.Sp

/-- Blocks of the call's own that are as they were. -/
def Mo (B : Nat) (w W : World) (L : List (Nat × Obj)) : Prop := (∀ p ∈ L, W.heap[p.1]? = some p.2) ∧ Below B w W ∧ B ≤ W.heap.size
theorem Mo.keep {B : Nat} {w W W1 : World} {L : List (Nat × Obj)} (h : Mo B w W L) (hb : Below W.heap.size W W1) : Mo B w W1 L :=
  ⟨fun p hp => blk_keep (h.1 p hp) hb, h.2.1.trans (hb.mono h.2.2), Nat.le_trans h.2.2 hb.size⟩
theorem Mo.push {B : Nat} {w W : World} {L : List (Nat × Obj)} (h : Mo B w W L) (o : Obj) : Mo B w (W.alloc o) ((W.heap.size, o) :: L) := by
  have k := h.keep ((Below.refl _ _).alloc (Nat.le_refl _) o)
  refine ⟨fun p hp => ?_, k.2⟩
  rcases List.mem_cons.1 hp with rfl | hp
  · exact heap_alloc_new _ _
  · exact k.1 p hp
theorem Mo.start (w : World) : Mo w.heap.size w w [] := ⟨fun p hp => (by cases hp), Below.refl _ _, Nat.le_refl _⟩
theorem Mo.at {B : Nat} {w W : World} {L : List (Nat × Obj)} (h : Mo B w W L) (g : Nat) (o : Obj) (hm : (g, o) ∈ L) : W.heap[g]? = some o := h.1 _ hm
theorem rd_new {W : World} {cs : Array Value} {t : TypeId} {size n : Nat} (hs : cs.size = n * size) (hn : n ≤ 1000) : Rd (W.alloc (.cells cs t)) size (.slice (some ⟨W.heap.size, 0, none⟩) n n) n cs.toList := by
  refine ⟨by simpa using hs, _, n, rfl, Nat.le_refl _, by omega, fun _ => ⟨_, 0, rfl, by simp, fun j u hu => ?_⟩⟩
  have h := heap_alloc_new W (.cells cs t)
  rw [Array.getElem?_toList] at hu
  generalize W.alloc (.cells cs t) = V at h ⊢
  simp [World.cell?, h, hu]

section
variable {ta tb tc td to tp : TypeId} {ai bi ci di oi pi : Value} {n m : Int} {f g : Nat}
theorem sub_no (w : World) (O : ∀ W, Calls Tryz.prog 51 #[exI ta ai tb bi, exI tc ci td di] W fun e w' => e = .returned (.tuple #[exI to oi tp pi, .bool false, .nilIface]) ∧ Below W.heap.size W w') :
    Calls Tryz.prog 52 #[exI ta ai tb bi, exI tc ci td di] w fun e w' => ∃ v, e = .returned (.tuple #[v, .nilIface]) ∧ Rd w' 3 v 1 [.iface ta ai, .iface tb bi, tv] ∧ Below w.heap.size w w' := by
  have O := Lib.hid O
  have M0 := Lib.hid (((Mo.start w).push (exC ta ai tb bi)).push (exC tc ci td di))
  have hz : (w.alloc (exC ta ai tb bi)).heap.size = w.heap.size + 1 := by simp
  rw [hz] at M0
  clear hz
  go_enter Tryz.func52, Tryz.ntmps52
  go_wp2_with (go_at_call 51; (with_reducible refine (O.out _).mono ?_); rintro e w1 ⟨rfl, hb1⟩; have M1 := Lib.hid (M0.out.keep hb1); clear hb1; have z0 := Rv.lt_of_blk (M1.out.at _ _ (.tail _ (.head _))); obtain ⟨c0, c1, c2⟩ := Rv.cells3 (M1.out.at _ _ (.tail _ (.head _))))
  have M2 := Lib.hid (M1.out.push (exC to oi tp pi))
  go_ret2
  exact ⟨_, rfl, by first | exact rd_new rfl (by omega) | (have h := @rd_new (w1.alloc (exC to oi tp pi)) #[.iface ta ai, .iface tb bi, tv] 92 3 1 rfl (by omega); simpa using h), (M2.out.push _).2.1⟩
theorem sub_mm (w : World) (O : ∀ W, Calls Tryz.prog 51 #[exI ta ai tb bi, exI tc ci td di] W fun e w' => e = .returned (.tuple #[exI to oi tp pi, .bool true, .nilIface]) ∧ Below W.heap.size W w')
    (C : Cmp ta ai tc ci (-1) f) (D : Cmp tb bi td di (-1) g) :
    Calls Tryz.prog 52 #[exI ta ai tb bi, exI tc ci td di] w fun e w' => ∃ v, e = .returned (.tuple #[v, .nilIface]) ∧ Rd w' 3 v 1 [.iface ta ai, .iface tc ci, tv] ∧ Below w.heap.size w w' := by
  have O := Lib.hid O
  obtain ⟨hi1, hf1, C1⟩ := C
  obtain ⟨hi2, hf2, C2⟩ := D
  have C1 := Lib.hid C1
  have C2 := Lib.hid C2
  have M0 := Lib.hid (((Mo.start w).push (exC ta ai tb bi)).push (exC tc ci td di))
  have hz : (w.alloc (exC ta ai tb bi)).heap.size = w.heap.size + 1 := by simp
  rw [hz] at M0
  clear hz
  go_enter Tryz.func52, Tryz.ntmps52
  go_wp2_with (first
    | (go_at_call 51; (with_reducible refine (O.out _).mono ?_); rintro e w1 ⟨rfl, hb1⟩; have M1 := Lib.hid (M0.out.keep hb1); clear hb1; have z0 := Rv.lt_of_blk (M1.out.at _ _ (.tail _ (.head _))); obtain ⟨c0, c1, c2⟩ := Rv.cells3 (M1.out.at _ _ (.tail _ (.head _))); have z1 := Rv.lt_of_blk (M1.out.at _ _ (.head _)); obtain ⟨d0, d1, d2⟩ := Rv.cells3 (M1.out.at _ _ (.head _)))
    | ((with_reducible refine (C1.out _).mono ?_); rintro e w2 ⟨rfl, hb2⟩; have M2 := Lib.hid ((M1.out.push (exC to oi tp pi)).keep hb2); clear hb2 c0 c1 c2 d0 d1 d2 z0 z1; have z0 := Rv.lt_of_blk (M2.out.at _ _ (.tail _ (.tail _ (.head _)))); obtain ⟨c0, c1, c2⟩ := Rv.cells3 (M2.out.at _ _ (.tail _ (.tail _ (.head _)))); have z1 := Rv.lt_of_blk (M2.out.at _ _ (.tail _ (.head _))); obtain ⟨d0, d1, d2⟩ := Rv.cells3 (M2.out.at _ _ (.tail _ (.head _))))
    | ((with_reducible refine (C2.out _).mono ?_); rintro e w3 ⟨rfl, hb3⟩; have M3 := Lib.hid (M2.out.keep hb3); clear hb3 c0 c1 c2 d0 d1 d2 z0 z1; have z0 := Rv.lt_of_blk (M3.out.at _ _ (.tail _ (.tail _ (.head _)))); obtain ⟨c0, c1, c2⟩ := Rv.cells3 (M3.out.at _ _ (.tail _ (.tail _ (.head _)))); have z1 := Rv.lt_of_blk (M3.out.at _ _ (.tail _ (.head _))); obtain ⟨d0, d1, d2⟩ := Rv.cells3 (M3.out.at _ _ (.tail _ (.head _)))))
  go_ret2
  exact ⟨_, rfl, rd_new rfl (by omega), (M3.out.push _).2.1⟩
theorem sub_mz (w : World) (O : ∀ W, Calls Tryz.prog 51 #[exI ta ai tb bi, exI tc ci td di] W fun e w' => e = .returned (.tuple #[exI to oi tp pi, .bool true, .nilIface]) ∧ Below W.heap.size W w')
    (C : Cmp ta ai tc ci (-1) f) (D : Cmp tb bi td di (0) g) :
    Calls Tryz.prog 52 #[exI ta ai tb bi, exI tc ci td di] w fun e w' => ∃ v, e = .returned (.tuple #[v, .nilIface]) ∧ Rd w' 3 v 1 [.iface ta ai, .iface tc ci, tv] ∧ Below w.heap.size w w' := by
  have O := Lib.hid O
  obtain ⟨hi1, hf1, C1⟩ := C
  obtain ⟨hi2, hf2, C2⟩ := D
  have C1 := Lib.hid C1
  have C2 := Lib.hid C2
  have M0 := Lib.hid (((Mo.start w).push (exC ta ai tb bi)).push (exC tc ci td di))
  have hz : (w.alloc (exC ta ai tb bi)).heap.size = w.heap.size + 1 := by simp
  rw [hz] at M0
  clear hz
  go_enter Tryz.func52, Tryz.ntmps52
  go_wp2_with (first
    | (go_at_call 51; (with_reducible refine (O.out _).mono ?_); rintro e w1 ⟨rfl, hb1⟩; have M1 := Lib.hid (M0.out.keep hb1); clear hb1; have z0 := Rv.lt_of_blk (M1.out.at _ _ (.tail _ (.head _))); obtain ⟨c0, c1, c2⟩ := Rv.cells3 (M1.out.at _ _ (.tail _ (.head _))); have z1 := Rv.lt_of_blk (M1.out.at _ _ (.head _)); obtain ⟨d0, d1, d2⟩ := Rv.cells3 (M1.out.at _ _ (.head _)))
    | ((with_reducible refine (C1.out _).mono ?_); rintro e w2 ⟨rfl, hb2⟩; have M2 := Lib.hid ((M1.out.push (exC to oi tp pi)).keep hb2); clear hb2 c0 c1 c2 d0 d1 d2 z0 z1; have z0 := Rv.lt_of_blk (M2.out.at _ _ (.tail _ (.tail _ (.head _)))); obtain ⟨c0, c1, c2⟩ := Rv.cells3 (M2.out.at _ _ (.tail _ (.tail _ (.head _)))); have z1 := Rv.lt_of_blk (M2.out.at _ _ (.tail _ (.head _))); obtain ⟨d0, d1, d2⟩ := Rv.cells3 (M2.out.at _ _ (.tail _ (.head _))))
    | ((with_reducible refine (C2.out _).mono ?_); rintro e w3 ⟨rfl, hb3⟩; have M3 := Lib.hid (M2.out.keep hb3); clear hb3 c0 c1 c2 d0 d1 d2 z0 z1; have z0 := Rv.lt_of_blk (M3.out.at _ _ (.tail _ (.tail _ (.head _)))); obtain ⟨c0, c1, c2⟩ := Rv.cells3 (M3.out.at _ _ (.tail _ (.tail _ (.head _)))); have z1 := Rv.lt_of_blk (M3.out.at _ _ (.tail _ (.head _))); obtain ⟨d0, d1, d2⟩ := Rv.cells3 (M3.out.at _ _ (.tail _ (.head _)))))
  go_ret2
  exact ⟨_, rfl, rd_new rfl (by omega), (M3.out.push _).2.1⟩
theorem sub_mp (w : World) (O : ∀ W, Calls Tryz.prog 51 #[exI ta ai tb bi, exI tc ci td di] W fun e w' => e = .returned (.tuple #[exI to oi tp pi, .bool true, .nilIface]) ∧ Below W.heap.size W w')
    (C : Cmp ta ai tc ci (-1) f) (D : Cmp tb bi td di (1) g) :
    Calls Tryz.prog 52 #[exI ta ai tb bi, exI tc ci td di] w fun e w' => ∃ v, e = .returned (.tuple #[v, .nilIface]) ∧ Rd w' 3 v 2 [.iface ta ai, .iface tc ci, tv, .iface td di, .iface tb bi, tv] ∧ Below w.heap.size w w' := by
  have O := Lib.hid O
  obtain ⟨hi1, hf1, C1⟩ := C
  obtain ⟨hi2, hf2, C2⟩ := D
  have C1 := Lib.hid C1
  have C2 := Lib.hid C2
  have M0 := Lib.hid (((Mo.start w).push (exC ta ai tb bi)).push (exC tc ci td di))
  have hz : (w.alloc (exC ta ai tb bi)).heap.size = w.heap.size + 1 := by simp
  rw [hz] at M0
  clear hz
  go_enter Tryz.func52, Tryz.ntmps52
  go_wp2_with (first
    | (go_at_call 51; (with_reducible refine (O.out _).mono ?_); rintro e w1 ⟨rfl, hb1⟩; have M1 := Lib.hid (M0.out.keep hb1); clear hb1; have z0 := Rv.lt_of_blk (M1.out.at _ _ (.tail _ (.head _))); obtain ⟨c0, c1, c2⟩ := Rv.cells3 (M1.out.at _ _ (.tail _ (.head _))); have z1 := Rv.lt_of_blk (M1.out.at _ _ (.head _)); obtain ⟨d0, d1, d2⟩ := Rv.cells3 (M1.out.at _ _ (.head _)))
    | ((with_reducible refine (C1.out _).mono ?_); rintro e w2 ⟨rfl, hb2⟩; have M2 := Lib.hid ((M1.out.push (exC to oi tp pi)).keep hb2); clear hb2 c0 c1 c2 d0 d1 d2 z0 z1; have z0 := Rv.lt_of_blk (M2.out.at _ _ (.tail _ (.tail _ (.head _)))); obtain ⟨c0, c1, c2⟩ := Rv.cells3 (M2.out.at _ _ (.tail _ (.tail _ (.head _)))); have z1 := Rv.lt_of_blk (M2.out.at _ _ (.tail _ (.head _))); obtain ⟨d0, d1, d2⟩ := Rv.cells3 (M2.out.at _ _ (.tail _ (.head _))))
    | ((with_reducible refine (C2.out _).mono ?_); rintro e w3 ⟨rfl, hb3⟩; have M3 := Lib.hid (M2.out.keep hb3); clear hb3 c0 c1 c2 d0 d1 d2 z0 z1; have z0 := Rv.lt_of_blk (M3.out.at _ _ (.tail _ (.tail _ (.head _)))); obtain ⟨c0, c1, c2⟩ := Rv.cells3 (M3.out.at _ _ (.tail _ (.tail _ (.head _)))); have z1 := Rv.lt_of_blk (M3.out.at _ _ (.tail _ (.head _))); obtain ⟨d0, d1, d2⟩ := Rv.cells3 (M3.out.at _ _ (.tail _ (.head _)))))
  go_ret2
  exact ⟨_, rfl, rd_new rfl (by omega), (M3.out.push _).2.1⟩
theorem sub_zm (w : World) (O : ∀ W, Calls Tryz.prog 51 #[exI ta ai tb bi, exI tc ci td di] W fun e w' => e = .returned (.tuple #[exI to oi tp pi, .bool true, .nilIface]) ∧ Below W.heap.size W w')
    (C : Cmp ta ai tc ci (0) f) (D : Cmp tb bi td di (-1) g) :
    Calls Tryz.prog 52 #[exI ta ai tb bi, exI tc ci td di] w fun e w' => ∃ v, e = .returned (.tuple #[v, .nilIface]) ∧ Rd w' 3 v 0 [] ∧ Below w.heap.size w w' := by
  have O := Lib.hid O
  obtain ⟨hi1, hf1, C1⟩ := C
  obtain ⟨hi2, hf2, C2⟩ := D
  have C1 := Lib.hid C1
  have C2 := Lib.hid C2
  have M0 := Lib.hid (((Mo.start w).push (exC ta ai tb bi)).push (exC tc ci td di))
  have hz : (w.alloc (exC ta ai tb bi)).heap.size = w.heap.size + 1 := by simp
  rw [hz] at M0
  clear hz
  go_enter Tryz.func52, Tryz.ntmps52
  go_wp2_with (first
    | (go_at_call 51; (with_reducible refine (O.out _).mono ?_); rintro e w1 ⟨rfl, hb1⟩; have M1 := Lib.hid (M0.out.keep hb1); clear hb1; have z0 := Rv.lt_of_blk (M1.out.at _ _ (.tail _ (.head _))); obtain ⟨c0, c1, c2⟩ := Rv.cells3 (M1.out.at _ _ (.tail _ (.head _))); have z1 := Rv.lt_of_blk (M1.out.at _ _ (.head _)); obtain ⟨d0, d1, d2⟩ := Rv.cells3 (M1.out.at _ _ (.head _)))
    | ((with_reducible refine (C1.out _).mono ?_); rintro e w2 ⟨rfl, hb2⟩; have M2 := Lib.hid ((M1.out.push (exC to oi tp pi)).keep hb2); clear hb2 c0 c1 c2 d0 d1 d2 z0 z1; have z0 := Rv.lt_of_blk (M2.out.at _ _ (.tail _ (.tail _ (.head _)))); obtain ⟨c0, c1, c2⟩ := Rv.cells3 (M2.out.at _ _ (.tail _ (.tail _ (.head _)))); have z1 := Rv.lt_of_blk (M2.out.at _ _ (.tail _ (.head _))); obtain ⟨d0, d1, d2⟩ := Rv.cells3 (M2.out.at _ _ (.tail _ (.head _))))
    | ((with_reducible refine (C2.out _).mono ?_); rintro e w3 ⟨rfl, hb3⟩; have M3 := Lib.hid (M2.out.keep hb3); clear hb3 c0 c1 c2 d0 d1 d2 z0 z1; have z0 := Rv.lt_of_blk (M3.out.at _ _ (.tail _ (.tail _ (.head _)))); obtain ⟨c0, c1, c2⟩ := Rv.cells3 (M3.out.at _ _ (.tail _ (.tail _ (.head _)))); have z1 := Rv.lt_of_blk (M3.out.at _ _ (.tail _ (.head _))); obtain ⟨d0, d1, d2⟩ := Rv.cells3 (M3.out.at _ _ (.tail _ (.head _)))))
  go_ret2
  exact ⟨_, rfl, Rd.nil _ _, M3.out.2.1⟩
theorem sub_zz (w : World) (O : ∀ W, Calls Tryz.prog 51 #[exI ta ai tb bi, exI tc ci td di] W fun e w' => e = .returned (.tuple #[exI to oi tp pi, .bool true, .nilIface]) ∧ Below W.heap.size W w')
    (C : Cmp ta ai tc ci (0) f) (D : Cmp tb bi td di (0) g) :
    Calls Tryz.prog 52 #[exI ta ai tb bi, exI tc ci td di] w fun e w' => ∃ v, e = .returned (.tuple #[v, .nilIface]) ∧ Rd w' 3 v 0 [] ∧ Below w.heap.size w w' := by
  have O := Lib.hid O
  obtain ⟨hi1, hf1, C1⟩ := C
  obtain ⟨hi2, hf2, C2⟩ := D
  have C1 := Lib.hid C1
  have C2 := Lib.hid C2
  have M0 := Lib.hid (((Mo.start w).push (exC ta ai tb bi)).push (exC tc ci td di))
  have hz : (w.alloc (exC ta ai tb bi)).heap.size = w.heap.size + 1 := by simp
  rw [hz] at M0
  clear hz
  go_enter Tryz.func52, Tryz.ntmps52
  go_wp2_with (first
    | (go_at_call 51; (with_reducible refine (O.out _).mono ?_); rintro e w1 ⟨rfl, hb1⟩; have M1 := Lib.hid (M0.out.keep hb1); clear hb1; have z0 := Rv.lt_of_blk (M1.out.at _ _ (.tail _ (.head _))); obtain ⟨c0, c1, c2⟩ := Rv.cells3 (M1.out.at _ _ (.tail _ (.head _))); have z1 := Rv.lt_of_blk (M1.out.at _ _ (.head _)); obtain ⟨d0, d1, d2⟩ := Rv.cells3 (M1.out.at _ _ (.head _)))
    | ((with_reducible refine (C1.out _).mono ?_); rintro e w2 ⟨rfl, hb2⟩; have M2 := Lib.hid ((M1.out.push (exC to oi tp pi)).keep hb2); clear hb2 c0 c1 c2 d0 d1 d2 z0 z1; have z0 := Rv.lt_of_blk (M2.out.at _ _ (.tail _ (.tail _ (.head _)))); obtain ⟨c0, c1, c2⟩ := Rv.cells3 (M2.out.at _ _ (.tail _ (.tail _ (.head _)))); have z1 := Rv.lt_of_blk (M2.out.at _ _ (.tail _ (.head _))); obtain ⟨d0, d1, d2⟩ := Rv.cells3 (M2.out.at _ _ (.tail _ (.head _))))
    | ((with_reducible refine (C2.out _).mono ?_); rintro e w3 ⟨rfl, hb3⟩; have M3 := Lib.hid (M2.out.keep hb3); clear hb3 c0 c1 c2 d0 d1 d2 z0 z1; have z0 := Rv.lt_of_blk (M3.out.at _ _ (.tail _ (.tail _ (.head _)))); obtain ⟨c0, c1, c2⟩ := Rv.cells3 (M3.out.at _ _ (.tail _ (.tail _ (.head _)))); have z1 := Rv.lt_of_blk (M3.out.at _ _ (.tail _ (.head _))); obtain ⟨d0, d1, d2⟩ := Rv.cells3 (M3.out.at _ _ (.tail _ (.head _)))))
  go_ret2
  exact ⟨_, rfl, Rd.nil _ _, M3.out.2.1⟩
theorem sub_zp (w : World) (O : ∀ W, Calls Tryz.prog 51 #[exI ta ai tb bi, exI tc ci td di] W fun e w' => e = .returned (.tuple #[exI to oi tp pi, .bool true, .nilIface]) ∧ Below W.heap.size W w')
    (C : Cmp ta ai tc ci (0) f) (D : Cmp tb bi td di (1) g) :
    Calls Tryz.prog 52 #[exI ta ai tb bi, exI tc ci td di] w fun e w' => ∃ v, e = .returned (.tuple #[v, .nilIface]) ∧ Rd w' 3 v 1 [.iface td di, .iface tb bi, tv] ∧ Below w.heap.size w w' := by
  have O := Lib.hid O
  obtain ⟨hi1, hf1, C1⟩ := C
  obtain ⟨hi2, hf2, C2⟩ := D
  have C1 := Lib.hid C1
  have C2 := Lib.hid C2
  have M0 := Lib.hid (((Mo.start w).push (exC ta ai tb bi)).push (exC tc ci td di))
  have hz : (w.alloc (exC ta ai tb bi)).heap.size = w.heap.size + 1 := by simp
  rw [hz] at M0
  clear hz
  go_enter Tryz.func52, Tryz.ntmps52
  go_wp2_with (first
    | (go_at_call 51; (with_reducible refine (O.out _).mono ?_); rintro e w1 ⟨rfl, hb1⟩; have M1 := Lib.hid (M0.out.keep hb1); clear hb1; have z0 := Rv.lt_of_blk (M1.out.at _ _ (.tail _ (.head _))); obtain ⟨c0, c1, c2⟩ := Rv.cells3 (M1.out.at _ _ (.tail _ (.head _))); have z1 := Rv.lt_of_blk (M1.out.at _ _ (.head _)); obtain ⟨d0, d1, d2⟩ := Rv.cells3 (M1.out.at _ _ (.head _)))
    | ((with_reducible refine (C1.out _).mono ?_); rintro e w2 ⟨rfl, hb2⟩; have M2 := Lib.hid ((M1.out.push (exC to oi tp pi)).keep hb2); clear hb2 c0 c1 c2 d0 d1 d2 z0 z1; have z0 := Rv.lt_of_blk (M2.out.at _ _ (.tail _ (.tail _ (.head _)))); obtain ⟨c0, c1, c2⟩ := Rv.cells3 (M2.out.at _ _ (.tail _ (.tail _ (.head _)))); have z1 := Rv.lt_of_blk (M2.out.at _ _ (.tail _ (.head _))); obtain ⟨d0, d1, d2⟩ := Rv.cells3 (M2.out.at _ _ (.tail _ (.head _))))
    | ((with_reducible refine (C2.out _).mono ?_); rintro e w3 ⟨rfl, hb3⟩; have M3 := Lib.hid (M2.out.keep hb3); clear hb3 c0 c1 c2 d0 d1 d2 z0 z1; have z0 := Rv.lt_of_blk (M3.out.at _ _ (.tail _ (.tail _ (.head _)))); obtain ⟨c0, c1, c2⟩ := Rv.cells3 (M3.out.at _ _ (.tail _ (.tail _ (.head _)))); have z1 := Rv.lt_of_blk (M3.out.at _ _ (.tail _ (.head _))); obtain ⟨d0, d1, d2⟩ := Rv.cells3 (M3.out.at _ _ (.tail _ (.head _)))))
  go_ret2
  exact ⟨_, rfl, rd_new rfl (by omega), (M3.out.push _).2.1⟩
theorem sub_pm (w : World) (O : ∀ W, Calls Tryz.prog 51 #[exI ta ai tb bi, exI tc ci td di] W fun e w' => e = .returned (.tuple #[exI to oi tp pi, .bool true, .nilIface]) ∧ Below W.heap.size W w')
    (C : Cmp ta ai tc ci (1) f) (D : Cmp tb bi td di (-1) g) :
    Calls Tryz.prog 52 #[exI ta ai tb bi, exI tc ci td di] w fun e w' => ∃ v, e = .returned (.tuple #[v, .nilIface]) ∧ Rd w' 3 v 0 [] ∧ Below w.heap.size w w' := by
  have O := Lib.hid O
  obtain ⟨hi1, hf1, C1⟩ := C
  obtain ⟨hi2, hf2, C2⟩ := D
  have C1 := Lib.hid C1
  have C2 := Lib.hid C2
  have M0 := Lib.hid (((Mo.start w).push (exC ta ai tb bi)).push (exC tc ci td di))
  have hz : (w.alloc (exC ta ai tb bi)).heap.size = w.heap.size + 1 := by simp
  rw [hz] at M0
  clear hz
  go_enter Tryz.func52, Tryz.ntmps52
  go_wp2_with (first
    | (go_at_call 51; (with_reducible refine (O.out _).mono ?_); rintro e w1 ⟨rfl, hb1⟩; have M1 := Lib.hid (M0.out.keep hb1); clear hb1; have z0 := Rv.lt_of_blk (M1.out.at _ _ (.tail _ (.head _))); obtain ⟨c0, c1, c2⟩ := Rv.cells3 (M1.out.at _ _ (.tail _ (.head _))); have z1 := Rv.lt_of_blk (M1.out.at _ _ (.head _)); obtain ⟨d0, d1, d2⟩ := Rv.cells3 (M1.out.at _ _ (.head _)))
    | ((with_reducible refine (C1.out _).mono ?_); rintro e w2 ⟨rfl, hb2⟩; have M2 := Lib.hid ((M1.out.push (exC to oi tp pi)).keep hb2); clear hb2 c0 c1 c2 d0 d1 d2 z0 z1; have z0 := Rv.lt_of_blk (M2.out.at _ _ (.tail _ (.tail _ (.head _)))); obtain ⟨c0, c1, c2⟩ := Rv.cells3 (M2.out.at _ _ (.tail _ (.tail _ (.head _)))); have z1 := Rv.lt_of_blk (M2.out.at _ _ (.tail _ (.head _))); obtain ⟨d0, d1, d2⟩ := Rv.cells3 (M2.out.at _ _ (.tail _ (.head _))))
    | ((with_reducible refine (C2.out _).mono ?_); rintro e w3 ⟨rfl, hb3⟩; have M3 := Lib.hid (M2.out.keep hb3); clear hb3 c0 c1 c2 d0 d1 d2 z0 z1; have z0 := Rv.lt_of_blk (M3.out.at _ _ (.tail _ (.tail _ (.head _)))); obtain ⟨c0, c1, c2⟩ := Rv.cells3 (M3.out.at _ _ (.tail _ (.tail _ (.head _)))); have z1 := Rv.lt_of_blk (M3.out.at _ _ (.tail _ (.head _))); obtain ⟨d0, d1, d2⟩ := Rv.cells3 (M3.out.at _ _ (.tail _ (.head _)))))
  go_ret2
  exact ⟨_, rfl, Rd.nil _ _, M3.out.2.1⟩
theorem sub_pz (w : World) (O : ∀ W, Calls Tryz.prog 51 #[exI ta ai tb bi, exI tc ci td di] W fun e w' => e = .returned (.tuple #[exI to oi tp pi, .bool true, .nilIface]) ∧ Below W.heap.size W w')
    (C : Cmp ta ai tc ci (1) f) (D : Cmp tb bi td di (0) g) :
    Calls Tryz.prog 52 #[exI ta ai tb bi, exI tc ci td di] w fun e w' => ∃ v, e = .returned (.tuple #[v, .nilIface]) ∧ Rd w' 3 v 0 [] ∧ Below w.heap.size w w' := by
  have O := Lib.hid O
  obtain ⟨hi1, hf1, C1⟩ := C
  obtain ⟨hi2, hf2, C2⟩ := D
  have C1 := Lib.hid C1
  have C2 := Lib.hid C2
  have M0 := Lib.hid (((Mo.start w).push (exC ta ai tb bi)).push (exC tc ci td di))
  have hz : (w.alloc (exC ta ai tb bi)).heap.size = w.heap.size + 1 := by simp
  rw [hz] at M0
  clear hz
  go_enter Tryz.func52, Tryz.ntmps52
  go_wp2_with (first
    | (go_at_call 51; (with_reducible refine (O.out _).mono ?_); rintro e w1 ⟨rfl, hb1⟩; have M1 := Lib.hid (M0.out.keep hb1); clear hb1; have z0 := Rv.lt_of_blk (M1.out.at _ _ (.tail _ (.head _))); obtain ⟨c0, c1, c2⟩ := Rv.cells3 (M1.out.at _ _ (.tail _ (.head _))); have z1 := Rv.lt_of_blk (M1.out.at _ _ (.head _)); obtain ⟨d0, d1, d2⟩ := Rv.cells3 (M1.out.at _ _ (.head _)))
    | ((with_reducible refine (C1.out _).mono ?_); rintro e w2 ⟨rfl, hb2⟩; have M2 := Lib.hid ((M1.out.push (exC to oi tp pi)).keep hb2); clear hb2 c0 c1 c2 d0 d1 d2 z0 z1; have z0 := Rv.lt_of_blk (M2.out.at _ _ (.tail _ (.tail _ (.head _)))); obtain ⟨c0, c1, c2⟩ := Rv.cells3 (M2.out.at _ _ (.tail _ (.tail _ (.head _)))); have z1 := Rv.lt_of_blk (M2.out.at _ _ (.tail _ (.head _))); obtain ⟨d0, d1, d2⟩ := Rv.cells3 (M2.out.at _ _ (.tail _ (.head _))))
    | ((with_reducible refine (C2.out _).mono ?_); rintro e w3 ⟨rfl, hb3⟩; have M3 := Lib.hid (M2.out.keep hb3); clear hb3 c0 c1 c2 d0 d1 d2 z0 z1; have z0 := Rv.lt_of_blk (M3.out.at _ _ (.tail _ (.tail _ (.head _)))); obtain ⟨c0, c1, c2⟩ := Rv.cells3 (M3.out.at _ _ (.tail _ (.tail _ (.head _)))); have z1 := Rv.lt_of_blk (M3.out.at _ _ (.tail _ (.head _))); obtain ⟨d0, d1, d2⟩ := Rv.cells3 (M3.out.at _ _ (.tail _ (.head _)))))
  go_ret2
  exact ⟨_, rfl, Rd.nil _ _, M3.out.2.1⟩
theorem sub_pp (w : World) (O : ∀ W, Calls Tryz.prog 51 #[exI ta ai tb bi, exI tc ci td di] W fun e w' => e = .returned (.tuple #[exI to oi tp pi, .bool true, .nilIface]) ∧ Below W.heap.size W w')
    (C : Cmp ta ai tc ci (1) f) (D : Cmp tb bi td di (1) g) :
    Calls Tryz.prog 52 #[exI ta ai tb bi, exI tc ci td di] w fun e w' => ∃ v, e = .returned (.tuple #[v, .nilIface]) ∧ Rd w' 3 v 1 [.iface td di, .iface tb bi, tv] ∧ Below w.heap.size w w' := by
  have O := Lib.hid O
  obtain ⟨hi1, hf1, C1⟩ := C
  obtain ⟨hi2, hf2, C2⟩ := D
  have C1 := Lib.hid C1
  have C2 := Lib.hid C2
  have M0 := Lib.hid (((Mo.start w).push (exC ta ai tb bi)).push (exC tc ci td di))
  have hz : (w.alloc (exC ta ai tb bi)).heap.size = w.heap.size + 1 := by simp
  rw [hz] at M0
  clear hz
  go_enter Tryz.func52, Tryz.ntmps52
  go_wp2_with (first
    | (go_at_call 51; (with_reducible refine (O.out _).mono ?_); rintro e w1 ⟨rfl, hb1⟩; have M1 := Lib.hid (M0.out.keep hb1); clear hb1; have z0 := Rv.lt_of_blk (M1.out.at _ _ (.tail _ (.head _))); obtain ⟨c0, c1, c2⟩ := Rv.cells3 (M1.out.at _ _ (.tail _ (.head _))); have z1 := Rv.lt_of_blk (M1.out.at _ _ (.head _)); obtain ⟨d0, d1, d2⟩ := Rv.cells3 (M1.out.at _ _ (.head _)))
    | ((with_reducible refine (C1.out _).mono ?_); rintro e w2 ⟨rfl, hb2⟩; have M2 := Lib.hid ((M1.out.push (exC to oi tp pi)).keep hb2); clear hb2 c0 c1 c2 d0 d1 d2 z0 z1; have z0 := Rv.lt_of_blk (M2.out.at _ _ (.tail _ (.tail _ (.head _)))); obtain ⟨c0, c1, c2⟩ := Rv.cells3 (M2.out.at _ _ (.tail _ (.tail _ (.head _)))); have z1 := Rv.lt_of_blk (M2.out.at _ _ (.tail _ (.head _))); obtain ⟨d0, d1, d2⟩ := Rv.cells3 (M2.out.at _ _ (.tail _ (.head _))))
    | ((with_reducible refine (C2.out _).mono ?_); rintro e w3 ⟨rfl, hb3⟩; have M3 := Lib.hid (M2.out.keep hb3); clear hb3 c0 c1 c2 d0 d1 d2 z0 z1; have z0 := Rv.lt_of_blk (M3.out.at _ _ (.tail _ (.tail _ (.head _)))); obtain ⟨c0, c1, c2⟩ := Rv.cells3 (M3.out.at _ _ (.tail _ (.tail _ (.head _)))); have z1 := Rv.lt_of_blk (M3.out.at _ _ (.tail _ (.head _))); obtain ⟨d0, d1, d2⟩ := Rv.cells3 (M3.out.at _ _ (.tail _ (.head _)))))
  go_ret2
  exact ⟨_, rfl, rd_new rfl (by omega), (M3.out.push _).2.1⟩
end
end Go.Proofs.YtfnogpelaoofbaaGreatDoor.Rg

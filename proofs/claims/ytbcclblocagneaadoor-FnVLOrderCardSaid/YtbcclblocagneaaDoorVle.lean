/- The walks of VLWrite, a theorem a kind. Conditions: those written at each lemma. -/
import Derived.Test.YtbcclblocagneaaDoorVld
import Derived.Laws.Bits64b
set_option linter.unusedVariables false
set_option linter.unusedSimpArgs false
set_option maxRecDepth 100000
set_option maxHeartbeats 1000000
namespace Go.Proofs.YtbcclblocagneaaDoor.Vl
open Go.RowKit Go.Proofs.YtbcclblocagneaaDoor.B
open Go.Lib (byteCells toUInt8_mod)

/-- The listed table of sizes reads as listed. -/
def Sz (w : World) : Prop := ∀ j, j < 15 → w.cell? ⟨0, j, none⟩ = some (.int .i64 (sz j))
theorem Sz.below {w w1 : World} (h : Sz w) (hb : Below w.heap.size w w1) : Sz w1 := fun j hj => cell_below hb (h j hj)
theorem buf_new (w : World) (cs : Array Value) (t : TypeId) : Buf (w.alloc (.cells cs t)) w.heap.size cs.size :=
  ⟨by simp, fun j hj => ⟨⟨cs[j], (World.cell?_alloc_at _ _ _ _ rfl).trans (Array.getElem?_eq_getElem hj)⟩, World.frozen?_alloc_at _ _ _ _ rfl⟩⟩
theorem mask48 (x : Nat) (h : x < 281474976710656) : bits .and .u64 (x : Int) 281474976710655 = x := by
  have h1 := bits_and_u64_nat x 281474976710655 (by omega) (by omega)
  rw [show ((281474976710655 : Nat) : Int) = 281474976710655 from rfl] at h1
  rw [h1, show (281474976710655 : Nat) = 2 ^ 48 - 1 by decide, Nat.and_two_pow_sub_one_eq_mod, Nat.mod_eq_of_lt (by omega)]

theorem vlWrite_1 (x : Nat) (hx : x < 18446744073709551616) (w : World) (hs : Sz w) :
    Calls Tryd.prog 7 #[.int .i64 1, .int .u64 x] w fun e w' => ∃ g, e = .returned (.slice (some ⟨g, 0, none⟩) 1 1) ∧ Rd w' 1 (.slice (some ⟨g, 0, none⟩) 1 1) 1 (byteCells (Lib.leBytes 1 x)) ∧ Below w.heap.size w w' := by
  have s1 : w.cell? ⟨0, 1, none⟩ = some (.int .i64 1) := hs 1 (by omega)
  have hmk : ∀ W, (Instr.makeSlice 24 (.int .i64 1) (.int .i64 1)).run Tryd.prog W = .ok (.slice (some ⟨W.heap.size, 0, none⟩) 1 1) (W.alloc (.cells #[.int .u8 0] 5)) := fun _ => by kernel_rfl
  have hb := buf_new w #[.int .u8 0] 5
  have hz : IntKind.u8.wrap (IntKind.i8.wrap (x : Int)) = ((x % 256 : Nat) : Int) := by simp [wrap32, wrap64, IntKind.wrap, IntKind.bits, IntKind.signed]; try split <;> omega
  have HW := Lib.hid (write_i8 w.heap.size 1 (x % 256) (IntKind.i8.wrap (x : Int)) hz (by omega) (Nat.le_refl _) (by omega) _ hb)
  rw [leBytes_mod 1 (x % 256) x (Nat.mod_mod _ _)] at HW
  clear hz hb hs
  go_enter Tryd.func7, Tryd.ntmps7
  go_wp2_with (first
    | (go_at_call 16; (with_reducible refine HW.out.mono ?_); rintro e w1 ⟨rfl, hB⟩; have HB := Lib.hid hB; clear hB))
  go_ret
  exact ⟨_, rfl, HB.out.1, ((Below.refl _ _).alloc (Nat.le_refl _) _).trans (HB.out.2 _ (Nat.le_refl _))⟩

theorem vlWrite_2 (x : Nat) (hx : x < 256) (w : World) (hs : Sz w) :
    Calls Tryd.prog 7 #[.int .i64 2, .int .u64 x] w fun e w' => ∃ g, e = .returned (.slice (some ⟨g, 0, none⟩) 1 1) ∧ Rd w' 1 (.slice (some ⟨g, 0, none⟩) 1 1) 1 (byteCells (Lib.leBytes 1 x)) ∧ Below w.heap.size w w' := by
  have s1 : w.cell? ⟨0, 2, none⟩ = some (.int .i64 1) := hs 2 (by omega)
  have hmk : ∀ W, (Instr.makeSlice 24 (.int .i64 1) (.int .i64 1)).run Tryd.prog W = .ok (.slice (some ⟨W.heap.size, 0, none⟩) 1 1) (W.alloc (.cells #[.int .u8 0] 5)) := fun _ => by kernel_rfl
  have hb := buf_new w #[.int .u8 0] 5
  have HW := Lib.hid (write_u8 w.heap.size 1 x hx (Nat.le_refl _) (by omega) _ hb)
  clear hb hs
  go_enter Tryd.func7, Tryd.ntmps7
  go_wp2_with (first
    | (go_at_call 17; (with_reducible refine HW.out.mono ?_); rintro e w1 ⟨rfl, hB⟩; have HB := Lib.hid hB; clear hB))
  go_ret
  exact ⟨_, rfl, HB.out.1, ((Below.refl _ _).alloc (Nat.le_refl _) _).trans (HB.out.2 _ (Nat.le_refl _))⟩

theorem vlWrite_3 (x : Nat) (hx : x < 18446744073709551616) (w : World) (hs : Sz w) :
    Calls Tryd.prog 7 #[.int .i64 3, .int .u64 x] w fun e w' => ∃ g, e = .returned (.slice (some ⟨g, 0, none⟩) 2 2) ∧ Rd w' 1 (.slice (some ⟨g, 0, none⟩) 2 2) 2 (byteCells (Lib.leBytes 2 x)) ∧ Below w.heap.size w w' := by
  have s1 : w.cell? ⟨0, 3, none⟩ = some (.int .i64 2) := hs 3 (by omega)
  have hmk : ∀ W, (Instr.makeSlice 24 (.int .i64 2) (.int .i64 2)).run Tryd.prog W = .ok (.slice (some ⟨W.heap.size, 0, none⟩) 2 2) (W.alloc (.cells #[.int .u8 0, .int .u8 0] 5)) := fun _ => by kernel_rfl
  have hb := buf_new w #[.int .u8 0, .int .u8 0] 5
  have hz : IntKind.u16.wrap (IntKind.i16.wrap (x : Int)) = ((x % 65536 : Nat) : Int) := by simp [wrap32, wrap64, IntKind.wrap, IntKind.bits, IntKind.signed]; try split <;> omega
  have HW := Lib.hid (write_i16 w.heap.size 2 (x % 65536) (IntKind.i16.wrap (x : Int)) hz (by omega) (Nat.le_refl _) (by omega) _ hb)
  rw [leBytes_mod 2 (x % 65536) x (Nat.mod_mod _ _)] at HW
  clear hz hb hs
  go_enter Tryd.func7, Tryd.ntmps7
  go_wp2_with (first
    | (go_at_call 18; (with_reducible refine HW.out.mono ?_); rintro e w1 ⟨rfl, hB⟩; have HB := Lib.hid hB; clear hB))
  go_ret
  exact ⟨_, rfl, HB.out.1, ((Below.refl _ _).alloc (Nat.le_refl _) _).trans (HB.out.2 _ (Nat.le_refl _))⟩

theorem vlWrite_4 (x : Nat) (hx : x < 65536) (w : World) (hs : Sz w) :
    Calls Tryd.prog 7 #[.int .i64 4, .int .u64 x] w fun e w' => ∃ g, e = .returned (.slice (some ⟨g, 0, none⟩) 2 2) ∧ Rd w' 1 (.slice (some ⟨g, 0, none⟩) 2 2) 2 (byteCells (Lib.leBytes 2 x)) ∧ Below w.heap.size w w' := by
  have s1 : w.cell? ⟨0, 4, none⟩ = some (.int .i64 2) := hs 4 (by omega)
  have hmk : ∀ W, (Instr.makeSlice 24 (.int .i64 2) (.int .i64 2)).run Tryd.prog W = .ok (.slice (some ⟨W.heap.size, 0, none⟩) 2 2) (W.alloc (.cells #[.int .u8 0, .int .u8 0] 5)) := fun _ => by kernel_rfl
  have hb := buf_new w #[.int .u8 0, .int .u8 0] 5
  have HW := Lib.hid (write_u16 w.heap.size 2 x hx (Nat.le_refl _) (by omega) _ hb)
  clear hb hs
  go_enter Tryd.func7, Tryd.ntmps7
  go_wp2_with (first
    | (go_at_call 19; (with_reducible refine HW.out.mono ?_); rintro e w1 ⟨rfl, hB⟩; have HB := Lib.hid hB; clear hB))
  go_ret
  exact ⟨_, rfl, HB.out.1, ((Below.refl _ _).alloc (Nat.le_refl _) _).trans (HB.out.2 _ (Nat.le_refl _))⟩

theorem vlWrite_7 (x : Nat) (hx : x < 18446744073709551616) (w : World) (hs : Sz w) :
    Calls Tryd.prog 7 #[.int .i64 7, .int .u64 x] w fun e w' => ∃ g, e = .returned (.slice (some ⟨g, 0, none⟩) 4 4) ∧ Rd w' 1 (.slice (some ⟨g, 0, none⟩) 4 4) 4 (byteCells (Lib.leBytes 4 x)) ∧ Below w.heap.size w w' := by
  have s1 : w.cell? ⟨0, 7, none⟩ = some (.int .i64 4) := hs 7 (by omega)
  have hmk : ∀ W, (Instr.makeSlice 24 (.int .i64 4) (.int .i64 4)).run Tryd.prog W = .ok (.slice (some ⟨W.heap.size, 0, none⟩) 4 4) (W.alloc (.cells #[.int .u8 0, .int .u8 0, .int .u8 0, .int .u8 0] 5)) := fun _ => by kernel_rfl
  have hb := buf_new w #[.int .u8 0, .int .u8 0, .int .u8 0, .int .u8 0] 5
  have hz : IntKind.u32.wrap (wrap32 (x : Int)) = ((x % 4294967296 : Nat) : Int) := by simp [wrap32, wrap64, IntKind.wrap, IntKind.bits, IntKind.signed]; try split <;> omega
  have HW := Lib.hid (write_i32 w.heap.size 4 (x % 4294967296) (wrap32 (x : Int)) hz (by omega) (Nat.le_refl _) (by omega) _ hb)
  rw [leBytes_mod 4 (x % 4294967296) x (Nat.mod_mod _ _)] at HW
  clear hz hb hs
  go_enter Tryd.func7, Tryd.ntmps7
  go_wp2_with (first
    | (go_at_call 22; (with_reducible refine HW.out.mono ?_); rintro e w1 ⟨rfl, hB⟩; have HB := Lib.hid hB; clear hB))
  go_ret
  exact ⟨_, rfl, HB.out.1, ((Below.refl _ _).alloc (Nat.le_refl _) _).trans (HB.out.2 _ (Nat.le_refl _))⟩

theorem vlWrite_8 (x : Nat) (hx : x < 4294967296) (w : World) (hs : Sz w) :
    Calls Tryd.prog 7 #[.int .i64 8, .int .u64 x] w fun e w' => ∃ g, e = .returned (.slice (some ⟨g, 0, none⟩) 4 4) ∧ Rd w' 1 (.slice (some ⟨g, 0, none⟩) 4 4) 4 (byteCells (Lib.leBytes 4 x)) ∧ Below w.heap.size w w' := by
  have s1 : w.cell? ⟨0, 8, none⟩ = some (.int .i64 4) := hs 8 (by omega)
  have hmk : ∀ W, (Instr.makeSlice 24 (.int .i64 4) (.int .i64 4)).run Tryd.prog W = .ok (.slice (some ⟨W.heap.size, 0, none⟩) 4 4) (W.alloc (.cells #[.int .u8 0, .int .u8 0, .int .u8 0, .int .u8 0] 5)) := fun _ => by kernel_rfl
  have hb := buf_new w #[.int .u8 0, .int .u8 0, .int .u8 0, .int .u8 0] 5
  have HW := Lib.hid (write_u32 w.heap.size 4 x hx (Nat.le_refl _) (by omega) _ hb)
  clear hb hs
  go_enter Tryd.func7, Tryd.ntmps7
  go_wp2_with (first
    | (go_at_call 23; (with_reducible refine HW.out.mono ?_); rintro e w1 ⟨rfl, hB⟩; have HB := Lib.hid hB; clear hB))
  go_ret
  exact ⟨_, rfl, HB.out.1, ((Below.refl _ _).alloc (Nat.le_refl _) _).trans (HB.out.2 _ (Nat.le_refl _))⟩

theorem vlWrite_9 (x : Nat) (hx : x < 18446744073709551616) (w : World) (hs : Sz w) :
    Calls Tryd.prog 7 #[.int .i64 9, .int .u64 x] w fun e w' => ∃ g, e = .returned (.slice (some ⟨g, 0, none⟩) 8 8) ∧ Rd w' 1 (.slice (some ⟨g, 0, none⟩) 8 8) 8 (byteCells (Lib.leBytes 8 x)) ∧ Below w.heap.size w w' := by
  have s1 : w.cell? ⟨0, 9, none⟩ = some (.int .i64 8) := hs 9 (by omega)
  have hmk : ∀ W, (Instr.makeSlice 24 (.int .i64 8) (.int .i64 8)).run Tryd.prog W = .ok (.slice (some ⟨W.heap.size, 0, none⟩) 8 8) (W.alloc (.cells #[.int .u8 0, .int .u8 0, .int .u8 0, .int .u8 0, .int .u8 0, .int .u8 0, .int .u8 0, .int .u8 0] 5)) := fun _ => by kernel_rfl
  have hb := buf_new w #[.int .u8 0, .int .u8 0, .int .u8 0, .int .u8 0, .int .u8 0, .int .u8 0, .int .u8 0, .int .u8 0] 5
  have hz : IntKind.u64.wrap (wrap64 (x : Int)) = ((x % 18446744073709551616 : Nat) : Int) := by simp [wrap32, wrap64, IntKind.wrap, IntKind.bits, IntKind.signed]; try split <;> omega
  have HW := Lib.hid (write_i64 w.heap.size 8 (x % 18446744073709551616) (wrap64 (x : Int)) hz (by omega) (Nat.le_refl _) (by omega) _ hb)
  rw [leBytes_mod 8 (x % 18446744073709551616) x (Nat.mod_mod _ _)] at HW
  clear hz hb hs
  go_enter Tryd.func7, Tryd.ntmps7
  go_wp2_with (first
    | (go_at_call 24; (with_reducible refine HW.out.mono ?_); rintro e w1 ⟨rfl, hB⟩; have HB := Lib.hid hB; clear hB))
  go_ret
  exact ⟨_, rfl, HB.out.1, ((Below.refl _ _).alloc (Nat.le_refl _) _).trans (HB.out.2 _ (Nat.le_refl _))⟩

theorem vlWrite_10 (x : Nat) (hx : x < 18446744073709551616) (w : World) (hs : Sz w) :
    Calls Tryd.prog 7 #[.int .i64 10, .int .u64 x] w fun e w' => ∃ g, e = .returned (.slice (some ⟨g, 0, none⟩) 8 8) ∧ Rd w' 1 (.slice (some ⟨g, 0, none⟩) 8 8) 8 (byteCells (Lib.leBytes 8 x)) ∧ Below w.heap.size w w' := by
  have s1 : w.cell? ⟨0, 10, none⟩ = some (.int .i64 8) := hs 10 (by omega)
  have hmk : ∀ W, (Instr.makeSlice 24 (.int .i64 8) (.int .i64 8)).run Tryd.prog W = .ok (.slice (some ⟨W.heap.size, 0, none⟩) 8 8) (W.alloc (.cells #[.int .u8 0, .int .u8 0, .int .u8 0, .int .u8 0, .int .u8 0, .int .u8 0, .int .u8 0, .int .u8 0] 5)) := fun _ => by kernel_rfl
  have hb := buf_new w #[.int .u8 0, .int .u8 0, .int .u8 0, .int .u8 0, .int .u8 0, .int .u8 0, .int .u8 0, .int .u8 0] 5
  have HW := Lib.hid (write_u64 w.heap.size 8 x hx (Nat.le_refl _) (by omega) _ hb)
  clear hb hs
  go_enter Tryd.func7, Tryd.ntmps7
  go_wp2_with (first
    | (go_at_call 25; (with_reducible refine HW.out.mono ?_); rintro e w1 ⟨rfl, hB⟩; have HB := Lib.hid hB; clear hB))
  go_ret
  exact ⟨_, rfl, HB.out.1, ((Below.refl _ _).alloc (Nat.le_refl _) _).trans (HB.out.2 _ (Nat.le_refl _))⟩

theorem vlWrite_11 (x : Nat) (hx : x < 4294967296) (w : World) (hs : Sz w) :
    Calls Tryd.prog 7 #[.int .i64 11, .int .u64 x] w fun e w' => ∃ g, e = .returned (.slice (some ⟨g, 0, none⟩) 4 4) ∧ Rd w' 1 (.slice (some ⟨g, 0, none⟩) 4 4) 4 (byteCells (Lib.leBytes 4 x)) ∧ Below w.heap.size w w' := by
  have s1 : w.cell? ⟨0, 11, none⟩ = some (.int .i64 4) := hs 11 (by omega)
  have hmk : ∀ W, (Instr.makeSlice 24 (.int .i64 4) (.int .i64 4)).run Tryd.prog W = .ok (.slice (some ⟨W.heap.size, 0, none⟩) 4 4) (W.alloc (.cells #[.int .u8 0, .int .u8 0, .int .u8 0, .int .u8 0] 5)) := fun _ => by kernel_rfl
  have hb := buf_new w #[.int .u8 0, .int .u8 0, .int .u8 0, .int .u8 0] 5
  have HW := Lib.hid (write_f32 w.heap.size 4 x hx (Nat.le_refl _) (by omega) _ hb)
  have hf : ∀ W, (callFunc 27 #[.int .u32 x]).run Tryd.prog W = .ok (.value (.float .f32 x)) W := fun W => by kernel_rfl
  clear hb hs
  go_enter Tryd.func7, Tryd.ntmps7
  go_wp2_with (first
    | (go_at_call 26; (with_reducible refine HW.out.mono ?_); rintro e w1 ⟨rfl, hB⟩; have HB := Lib.hid hB; clear hB))
  go_ret
  exact ⟨_, rfl, HB.out.1, ((Below.refl _ _).alloc (Nat.le_refl _) _).trans (HB.out.2 _ (Nat.le_refl _))⟩

theorem vlWrite_12 (x : Nat) (hx : x < 18446744073709551616) (w : World) (hs : Sz w) :
    Calls Tryd.prog 7 #[.int .i64 12, .int .u64 x] w fun e w' => ∃ g, e = .returned (.slice (some ⟨g, 0, none⟩) 8 8) ∧ Rd w' 1 (.slice (some ⟨g, 0, none⟩) 8 8) 8 (byteCells (Lib.leBytes 8 x)) ∧ Below w.heap.size w w' := by
  have s1 : w.cell? ⟨0, 12, none⟩ = some (.int .i64 8) := hs 12 (by omega)
  have hmk : ∀ W, (Instr.makeSlice 24 (.int .i64 8) (.int .i64 8)).run Tryd.prog W = .ok (.slice (some ⟨W.heap.size, 0, none⟩) 8 8) (W.alloc (.cells #[.int .u8 0, .int .u8 0, .int .u8 0, .int .u8 0, .int .u8 0, .int .u8 0, .int .u8 0, .int .u8 0] 5)) := fun _ => by kernel_rfl
  have hb := buf_new w #[.int .u8 0, .int .u8 0, .int .u8 0, .int .u8 0, .int .u8 0, .int .u8 0, .int .u8 0, .int .u8 0] 5
  have HW := Lib.hid (write_f64 w.heap.size 8 x hx (Nat.le_refl _) (by omega) _ hb)
  have hf : ∀ W, (callFunc 29 #[.int .u64 x]).run Tryd.prog W = .ok (.value (.float .f64 x)) W := fun W => by kernel_rfl
  clear hb hs
  go_enter Tryd.func7, Tryd.ntmps7
  go_wp2_with (first
    | (go_at_call 28; (with_reducible refine HW.out.mono ?_); rintro e w1 ⟨rfl, hB⟩; have HB := Lib.hid hB; clear hB))
  go_ret
  exact ⟨_, rfl, HB.out.1, ((Below.refl _ _).alloc (Nat.le_refl _) _).trans (HB.out.2 _ (Nat.le_refl _))⟩

theorem vlWrite_13 (x : Nat) (hx : x < 281474976710656) (w : World) (hs : Sz w) :
    Calls Tryd.prog 7 #[.int .i64 13, .int .u64 x] w fun e w' => ∃ g, e = .returned (.slice (some ⟨g, 0, none⟩) 6 6) ∧ Rd w' 1 (.slice (some ⟨g, 0, none⟩) 6 6) 6 (byteCells (Lib.leBytes 6 x)) ∧ Below w.heap.size w w' := by
  have s1 : w.cell? ⟨0, 13, none⟩ = some (.int .i64 6) := hs 13 (by omega)
  have hmk : ∀ W, (Instr.makeSlice 24 (.int .i64 6) (.int .i64 6)).run Tryd.prog W = .ok (.slice (some ⟨W.heap.size, 0, none⟩) 6 6) (W.alloc (.cells #[.int .u8 0, .int .u8 0, .int .u8 0, .int .u8 0, .int .u8 0, .int .u8 0] 5)) := fun _ => by kernel_rfl
  have hb := buf_new w #[.int .u8 0, .int .u8 0, .int .u8 0, .int .u8 0, .int .u8 0, .int .u8 0] 5
  have HW := Lib.hid (write_48 w.heap.size 6 x hx (Nat.le_refl _) (by omega) _ hb)
  have hand := mask48 x hx
  clear hb hs
  go_enter Tryd.func7, Tryd.ntmps7
  go_wp2_with (first
    | (go_at_call 30; (with_reducible refine HW.out.mono ?_); rintro e w1 ⟨rfl, hB⟩; have HB := Lib.hid hB; clear hB))
  go_ret
  exact ⟨_, rfl, HB.out.1, ((Below.refl _ _).alloc (Nat.le_refl _) _).trans (HB.out.2 _ (Nat.le_refl _))⟩

theorem vlWrite_14 (x : Nat) (hx : x < 281474976710656) (w : World) (hs : Sz w) :
    Calls Tryd.prog 7 #[.int .i64 14, .int .u64 x] w fun e w' => ∃ g, e = .returned (.slice (some ⟨g, 0, none⟩) 6 6) ∧ Rd w' 1 (.slice (some ⟨g, 0, none⟩) 6 6) 6 (byteCells (Lib.leBytes 6 x)) ∧ Below w.heap.size w w' := by
  have s1 : w.cell? ⟨0, 14, none⟩ = some (.int .i64 6) := hs 14 (by omega)
  have hmk : ∀ W, (Instr.makeSlice 24 (.int .i64 6) (.int .i64 6)).run Tryd.prog W = .ok (.slice (some ⟨W.heap.size, 0, none⟩) 6 6) (W.alloc (.cells #[.int .u8 0, .int .u8 0, .int .u8 0, .int .u8 0, .int .u8 0, .int .u8 0] 5)) := fun _ => by kernel_rfl
  have hb := buf_new w #[.int .u8 0, .int .u8 0, .int .u8 0, .int .u8 0, .int .u8 0, .int .u8 0] 5
  have HW := Lib.hid (write_48 w.heap.size 6 x hx (Nat.le_refl _) (by omega) _ hb)
  have hand := mask48 x hx
  clear hb hs
  go_enter Tryd.func7, Tryd.ntmps7
  go_wp2_with (first
    | (go_at_call 30; (with_reducible refine HW.out.mono ?_); rintro e w1 ⟨rfl, hB⟩; have HB := Lib.hid hB; clear hB))
  go_ret
  exact ⟨_, rfl, HB.out.1, ((Below.refl _ _).alloc (Nat.le_refl _) _).trans (HB.out.2 _ (Nat.le_refl _))⟩

end Go.Proofs.YtbcclblocagneaaDoor.Vl

/- The walks of VLRead, a theorem a kind. Conditions: those written at each lemma. -/
import Derived.Test.YtbcclblocagneaaDoorVle
set_option linter.unusedVariables false
set_option linter.unusedSimpArgs false
set_option maxRecDepth 100000
set_option maxHeartbeats 1000000
namespace Go.Proofs.YtbcclblocagneaaDoor.Vl
open Go.RowKit Go.Proofs.YtbcclblocagneaaDoor.B
open Go.Lib (byteCells toUInt8_mod)

theorem vlRead_1 (l : List UInt8) (hl : l.length = 1) (g o c : Nat) (w : World) (hs : Sz w) (hr : Rd w 1 (.slice (some ⟨g, o, none⟩) 1 c) 1 (byteCells l)) :
    Calls Tryd.prog 10 #[.int .i64 1, .slice (some ⟨g, o, none⟩) 1 c] w fun e w' => e = .returned (.int .u64 (num 1 l)) ∧ Below w.heap.size w w' := by
  have s1 : w.cell? ⟨0, 1, none⟩ = some (.int .i64 1) := hs 1 (by omega)
  have hx := leNat_lt l
  rw [hl] at hx
  have hx2 : Lib.leNat l < 256 := hx
  have HR := Lib.hid (read_i8 g o c l hl w hr)
  have HN := Lib.hid (num_n 1 1 l hl (by omega) (by omega))
  clear hs hr hx hl
  go_enter Tryd.func10, Tryd.ntmps10
  go_wp2_with (first
    | (go_at_call 33; (with_reducible refine HR.out.mono ?_); rintro e w1 ⟨rfl, hB⟩; have HB := Lib.hid hB; clear hB))
  go_ret
  refine ⟨ret_int ?_, HB.out⟩
  rw [HN.out]
  simp [sgn, wrap32, wrap64, IntKind.wrap, IntKind.bits, IntKind.signed]; try first | omega | (split <;> omega) | (split <;> split <;> omega)

theorem vlRead_2 (l : List UInt8) (hl : l.length = 1) (g o c : Nat) (w : World) (hs : Sz w) (hr : Rd w 1 (.slice (some ⟨g, o, none⟩) 1 c) 1 (byteCells l)) :
    Calls Tryd.prog 10 #[.int .i64 2, .slice (some ⟨g, o, none⟩) 1 c] w fun e w' => e = .returned (.int .u64 (num 2 l)) ∧ Below w.heap.size w w' := by
  have s1 : w.cell? ⟨0, 2, none⟩ = some (.int .i64 1) := hs 2 (by omega)
  have hx := leNat_lt l
  rw [hl] at hx
  have hx2 : Lib.leNat l < 256 := hx
  have HR := Lib.hid (read_u8 g o c l hl w hr)
  have HN := Lib.hid (num_n 2 1 l hl (by omega) (by omega))
  clear hs hr hx hl
  go_enter Tryd.func10, Tryd.ntmps10
  go_wp2_with (first
    | (go_at_call 34; (with_reducible refine HR.out.mono ?_); rintro e w1 ⟨rfl, hB⟩; have HB := Lib.hid hB; clear hB))
  go_ret
  refine ⟨ret_int ?_, HB.out⟩
  rw [HN.out]
  simp [sgn]

theorem vlRead_3 (l : List UInt8) (hl : l.length = 2) (g o c : Nat) (w : World) (hs : Sz w) (hr : Rd w 1 (.slice (some ⟨g, o, none⟩) 2 c) 2 (byteCells l)) :
    Calls Tryd.prog 10 #[.int .i64 3, .slice (some ⟨g, o, none⟩) 2 c] w fun e w' => e = .returned (.int .u64 (num 3 l)) ∧ Below w.heap.size w w' := by
  have s1 : w.cell? ⟨0, 3, none⟩ = some (.int .i64 2) := hs 3 (by omega)
  have hx := leNat_lt l
  rw [hl] at hx
  have hx2 : Lib.leNat l < 65536 := hx
  have HR := Lib.hid (read_i16 g o c l hl w hr)
  have HN := Lib.hid (num_n 3 2 l hl (by omega) (by omega))
  clear hs hr hx hl
  go_enter Tryd.func10, Tryd.ntmps10
  go_wp2_with (first
    | (go_at_call 35; (with_reducible refine HR.out.mono ?_); rintro e w1 ⟨rfl, hB⟩; have HB := Lib.hid hB; clear hB))
  go_ret
  refine ⟨ret_int ?_, HB.out⟩
  rw [HN.out]
  simp [sgn, wrap32, wrap64, IntKind.wrap, IntKind.bits, IntKind.signed]; try first | omega | (split <;> omega) | (split <;> split <;> omega)

theorem vlRead_4 (l : List UInt8) (hl : l.length = 2) (g o c : Nat) (w : World) (hs : Sz w) (hr : Rd w 1 (.slice (some ⟨g, o, none⟩) 2 c) 2 (byteCells l)) :
    Calls Tryd.prog 10 #[.int .i64 4, .slice (some ⟨g, o, none⟩) 2 c] w fun e w' => e = .returned (.int .u64 (num 4 l)) ∧ Below w.heap.size w w' := by
  have s1 : w.cell? ⟨0, 4, none⟩ = some (.int .i64 2) := hs 4 (by omega)
  have hx := leNat_lt l
  rw [hl] at hx
  have hx2 : Lib.leNat l < 65536 := hx
  have HR := Lib.hid (read_u16 g o c l hl w hr)
  have HN := Lib.hid (num_n 4 2 l hl (by omega) (by omega))
  clear hs hr hx hl
  go_enter Tryd.func10, Tryd.ntmps10
  go_wp2_with (first
    | (go_at_call 36; (with_reducible refine HR.out.mono ?_); rintro e w1 ⟨rfl, hB⟩; have HB := Lib.hid hB; clear hB))
  go_ret
  refine ⟨ret_int ?_, HB.out⟩
  rw [HN.out]
  simp [sgn]

theorem vlRead_7 (l : List UInt8) (hl : l.length = 4) (g o c : Nat) (w : World) (hs : Sz w) (hr : Rd w 1 (.slice (some ⟨g, o, none⟩) 4 c) 4 (byteCells l)) :
    Calls Tryd.prog 10 #[.int .i64 7, .slice (some ⟨g, o, none⟩) 4 c] w fun e w' => e = .returned (.int .u64 (num 7 l)) ∧ Below w.heap.size w w' := by
  have s1 : w.cell? ⟨0, 7, none⟩ = some (.int .i64 4) := hs 7 (by omega)
  have hx := leNat_lt l
  rw [hl] at hx
  have hx2 : Lib.leNat l < 4294967296 := hx
  have HR := Lib.hid (read_i32 g o c l hl w hr)
  have HN := Lib.hid (num_n 7 4 l hl (by omega) (by omega))
  clear hs hr hx hl
  go_enter Tryd.func10, Tryd.ntmps10
  go_wp2_with (first
    | (go_at_call 39; (with_reducible refine HR.out.mono ?_); rintro e w1 ⟨rfl, hB⟩; have HB := Lib.hid hB; clear hB))
  go_ret
  refine ⟨ret_int ?_, HB.out⟩
  rw [HN.out]
  simp [sgn, wrap32, wrap64, IntKind.wrap, IntKind.bits, IntKind.signed]; try first | omega | (split <;> omega) | (split <;> split <;> omega)

theorem vlRead_8 (l : List UInt8) (hl : l.length = 4) (g o c : Nat) (w : World) (hs : Sz w) (hr : Rd w 1 (.slice (some ⟨g, o, none⟩) 4 c) 4 (byteCells l)) :
    Calls Tryd.prog 10 #[.int .i64 8, .slice (some ⟨g, o, none⟩) 4 c] w fun e w' => e = .returned (.int .u64 (num 8 l)) ∧ Below w.heap.size w w' := by
  have s1 : w.cell? ⟨0, 8, none⟩ = some (.int .i64 4) := hs 8 (by omega)
  have hx := leNat_lt l
  rw [hl] at hx
  have hx2 : Lib.leNat l < 4294967296 := hx
  have HR := Lib.hid (read_u32 g o c l hl w hr)
  have HN := Lib.hid (num_n 8 4 l hl (by omega) (by omega))
  clear hs hr hx hl
  go_enter Tryd.func10, Tryd.ntmps10
  go_wp2_with (first
    | (go_at_call 40; (with_reducible refine HR.out.mono ?_); rintro e w1 ⟨rfl, hB⟩; have HB := Lib.hid hB; clear hB))
  go_ret
  refine ⟨ret_int ?_, HB.out⟩
  rw [HN.out]
  simp [sgn]

theorem vlRead_9 (l : List UInt8) (hl : l.length = 8) (g o c : Nat) (w : World) (hs : Sz w) (hr : Rd w 1 (.slice (some ⟨g, o, none⟩) 8 c) 8 (byteCells l)) :
    Calls Tryd.prog 10 #[.int .i64 9, .slice (some ⟨g, o, none⟩) 8 c] w fun e w' => e = .returned (.int .u64 (num 9 l)) ∧ Below w.heap.size w w' := by
  have s1 : w.cell? ⟨0, 9, none⟩ = some (.int .i64 8) := hs 9 (by omega)
  have hx := leNat_lt l
  rw [hl] at hx
  have hx2 : Lib.leNat l < 18446744073709551616 := hx
  have HR := Lib.hid (read_i64 g o c l hl w hr)
  have HN := Lib.hid (num_8 9 l hl)
  clear hs hr hx hl
  go_enter Tryd.func10, Tryd.ntmps10
  go_wp2_with (first
    | (go_at_call 41; (with_reducible refine HR.out.mono ?_); rintro e w1 ⟨rfl, hB⟩; have HB := Lib.hid hB; clear hB))
  go_ret
  refine ⟨ret_int ?_, HB.out⟩
  rw [HN.out]
  simp [sgn, wrap32, wrap64, IntKind.wrap, IntKind.bits, IntKind.signed]; try first | omega | (split <;> omega) | (split <;> split <;> omega)

theorem vlRead_10 (l : List UInt8) (hl : l.length = 8) (g o c : Nat) (w : World) (hs : Sz w) (hr : Rd w 1 (.slice (some ⟨g, o, none⟩) 8 c) 8 (byteCells l)) :
    Calls Tryd.prog 10 #[.int .i64 10, .slice (some ⟨g, o, none⟩) 8 c] w fun e w' => e = .returned (.int .u64 (num 10 l)) ∧ Below w.heap.size w w' := by
  have s1 : w.cell? ⟨0, 10, none⟩ = some (.int .i64 8) := hs 10 (by omega)
  have hx := leNat_lt l
  rw [hl] at hx
  have hx2 : Lib.leNat l < 18446744073709551616 := hx
  have HR := Lib.hid (read_u64 g o c l hl w hr)
  have HN := Lib.hid (num_8 10 l hl)
  clear hs hr hx hl
  go_enter Tryd.func10, Tryd.ntmps10
  go_wp2_with (first
    | (go_at_call 42; (with_reducible refine HR.out.mono ?_); rintro e w1 ⟨rfl, hB⟩; have HB := Lib.hid hB; clear hB))
  go_ret
  refine ⟨ret_int ?_, HB.out⟩
  rw [HN.out]
  skip

theorem vlRead_11 (l : List UInt8) (hl : l.length = 4) (g o c : Nat) (w : World) (hs : Sz w) (hr : Rd w 1 (.slice (some ⟨g, o, none⟩) 4 c) 4 (byteCells l)) :
    Calls Tryd.prog 10 #[.int .i64 11, .slice (some ⟨g, o, none⟩) 4 c] w fun e w' => e = .returned (.int .u64 (num 11 l)) ∧ Below w.heap.size w w' := by
  have s1 : w.cell? ⟨0, 11, none⟩ = some (.int .i64 4) := hs 11 (by omega)
  have hx := leNat_lt l
  rw [hl] at hx
  have hx2 : Lib.leNat l < 4294967296 := hx
  have HR := Lib.hid (read_f32 g o c l hl w hr)
  have HN := Lib.hid (num_n 11 4 l hl (by omega) (by omega))
  have hf : ∀ W, (callFunc 43 #[.float .f32 (Lib.leNat l)]).run Tryd.prog W = .ok (.value (.int .u32 (Lib.leNat l))) W := fun W => by kernel_rfl
  clear hs hr hx hl
  go_enter Tryd.func10, Tryd.ntmps10
  go_wp2_with (first
    | (go_at_call 44; (with_reducible refine HR.out.mono ?_); rintro e w1 ⟨rfl, hB⟩; have HB := Lib.hid hB; clear hB))
  go_ret
  refine ⟨ret_int ?_, HB.out⟩
  rw [HN.out]
  simp [sgn]

theorem vlRead_12 (l : List UInt8) (hl : l.length = 8) (g o c : Nat) (w : World) (hs : Sz w) (hr : Rd w 1 (.slice (some ⟨g, o, none⟩) 8 c) 8 (byteCells l)) :
    Calls Tryd.prog 10 #[.int .i64 12, .slice (some ⟨g, o, none⟩) 8 c] w fun e w' => e = .returned (.int .u64 (num 12 l)) ∧ Below w.heap.size w w' := by
  have s1 : w.cell? ⟨0, 12, none⟩ = some (.int .i64 8) := hs 12 (by omega)
  have hx := leNat_lt l
  rw [hl] at hx
  have hx2 : Lib.leNat l < 18446744073709551616 := hx
  have HR := Lib.hid (read_f64 g o c l hl w hr)
  have HN := Lib.hid (num_8 12 l hl)
  have hf : ∀ W, (callFunc 45 #[.float .f64 (Lib.leNat l)]).run Tryd.prog W = .ok (.value (.int .u64 (Lib.leNat l))) W := fun W => by kernel_rfl
  clear hs hr hx hl
  go_enter Tryd.func10, Tryd.ntmps10
  go_wp2_with (first
    | (go_at_call 46; (with_reducible refine HR.out.mono ?_); rintro e w1 ⟨rfl, hB⟩; have HB := Lib.hid hB; clear hB))
  go_ret
  refine ⟨ret_int ?_, HB.out⟩
  rw [HN.out]
  skip

theorem vlRead_13 (l : List UInt8) (hl : l.length = 6) (g o c : Nat) (w : World) (hs : Sz w) (hr : Rd w 1 (.slice (some ⟨g, o, none⟩) 6 c) 6 (byteCells l)) :
    Calls Tryd.prog 10 #[.int .i64 13, .slice (some ⟨g, o, none⟩) 6 c] w fun e w' => e = .returned (.int .u64 (num 13 l)) ∧ Below w.heap.size w w' := by
  have s1 : w.cell? ⟨0, 13, none⟩ = some (.int .i64 6) := hs 13 (by omega)
  have hx := leNat_lt l
  rw [hl] at hx
  have hx2 : Lib.leNat l < 281474976710656 := hx
  have HR := Lib.hid (read_48i64 g o c l hl w hr)
  have HN := Lib.hid (num_n 13 6 l hl (by omega) (by omega))
  clear hs hr hx hl
  go_enter Tryd.func10, Tryd.ntmps10
  go_wp2_with (first
    | (go_at_call 47; (with_reducible refine HR.out.mono ?_); rintro e w1 ⟨rfl, hB⟩; have HB := Lib.hid hB; clear hB))
  go_ret
  refine ⟨ret_int ?_, HB.out⟩
  rw [HN.out]
  simp [sgn]

theorem vlRead_14 (l : List UInt8) (hl : l.length = 6) (g o c : Nat) (w : World) (hs : Sz w) (hr : Rd w 1 (.slice (some ⟨g, o, none⟩) 6 c) 6 (byteCells l)) :
    Calls Tryd.prog 10 #[.int .i64 14, .slice (some ⟨g, o, none⟩) 6 c] w fun e w' => e = .returned (.int .u64 (num 14 l)) ∧ Below w.heap.size w w' := by
  have s1 : w.cell? ⟨0, 14, none⟩ = some (.int .i64 6) := hs 14 (by omega)
  have hx := leNat_lt l
  rw [hl] at hx
  have hx2 : Lib.leNat l < 281474976710656 := hx
  have HR := Lib.hid (read_48u64 g o c l hl w hr)
  have HN := Lib.hid (num_n 14 6 l hl (by omega) (by omega))
  clear hs hr hx hl
  go_enter Tryd.func10, Tryd.ntmps10
  go_wp2_with (first
    | (go_at_call 48; (with_reducible refine HR.out.mono ?_); rintro e w1 ⟨rfl, hB⟩; have HB := Lib.hid hB; clear hB))
  go_ret
  refine ⟨ret_int ?_, HB.out⟩
  rw [HN.out]
  simp [sgn]

end Go.Proofs.YtbcclblocagneaaDoor.Vl

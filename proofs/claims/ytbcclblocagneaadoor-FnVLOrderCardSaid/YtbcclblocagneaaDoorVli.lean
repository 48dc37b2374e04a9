/- The walk of FnVLOrder: written whole numbers are compared as the numbers are. Conditions: the listed tables of sizes and of encodings read as listed. -/
import Derived.Test.YtbcclblocagneaaDoorVlh
set_option linter.unusedVariables false
set_option linter.unusedSimpArgs false
set_option maxRecDepth 100000
set_option maxHeartbeats 1000000
namespace Go.Proofs.YtbcclblocagneaaDoor.Vl
open Go.RowKit Go.Proofs.YtbcclblocagneaaDoor.B
open Go.Lib (byteCells toUInt8_mod)

/-- The listed table of encodings reads as listed. -/
def En (w : World) : Prop := ∀ j, j < 13 → w.cell? ⟨1, j, none⟩ = some (.int .u8 j)
theorem En.below {w w1 : World} (h : En w) (hb : Below w.heap.size w w1) : En w1 := fun j hj => cell_below hb (h j hj)
theorem outer_1 (l m : List UInt8) (hl : l.length = 1) (hm : m.length = 1) (g h : Nat) (w : World) (hr : Rd w 1 (.slice (some ⟨g, 0, none⟩) 1 1) 1 (byteCells l)) (hs : Rd w 1 (.slice (some ⟨h, 0, none⟩) 1 1) 1 (byteCells m)) :
    Calls Tryd.prog 49 #[.agg #[.int .u8 1, .int .u16 0, .bool false], .slice (some ⟨g, 0, none⟩) 1 1, .slice (some ⟨h, 0, none⟩) 1 1] w fun e w' => e = .returned (.int .i64 (cmpI (IntKind.i8.wrap (Lib.leNat l : Nat)) (IntKind.i8.wrap (Lib.leNat m : Nat)))) ∧ Below w.heap.size w w' := by
  have hb0 : Below w.heap.size w (w.alloc (.cells #[.int .u8 1, .int .u16 0, .bool false] 76)) := (Below.refl _ _).alloc (Nat.le_refl _) _
  have C := Lib.hid (compare_1 l m hl hm g h _ (hr.below hb0) (hs.below hb0))
  clear hr hs hl hm
  go_enter Tryd.func49, Tryd.ntmps49
  go_wp2_with (first
    | (go_at_call 64; (with_reducible refine C.out.mono ?_); rintro e w1 ⟨rfl, hb1⟩; have HB1 := Lib.hid hb1; clear hb1))
  go_ret
  exact ⟨rfl, hb0.trans (HB1.out.mono hb0.size)⟩
theorem vlCompare_1 (l m : List UInt8) (hl : l.length = 1) (hm : m.length = 1) (g h : Nat) (w : World) (he : En w) (hr : Rd w 1 (.slice (some ⟨g, 0, none⟩) 1 1) 1 (byteCells l)) (hs : Rd w 1 (.slice (some ⟨h, 0, none⟩) 1 1) 1 (byteCells m)) :
    Calls Tryd.prog 12 #[.int .i64 1, .slice (some ⟨g, 0, none⟩) 1 1, .slice (some ⟨h, 0, none⟩) 1 1] w fun e w' => e = .returned (.int .i64 (cmpI (IntKind.i8.wrap (Lib.leNat l : Nat)) (IntKind.i8.wrap (Lib.leNat m : Nat)))) ∧ Below w.heap.size w w' := by
  have C := Lib.hid (outer_1 l m hl hm g h w hr hs)
  have e1 : w.cell? ⟨1, 1, none⟩ = some (.int .u8 1) := he 1 (by omega)
  clear hr hs hl hm he
  go_enter Tryd.func12, Tryd.ntmps12
  go_wp2_with (first
    | (go_at_call 49; (with_reducible refine C.out.mono ?_); rintro e w1 ⟨rfl, hb1⟩; have HB1 := Lib.hid hb1; clear hb1))
  go_ret
  exact ⟨rfl, HB1.out⟩
theorem same_1 (l m : List UInt8) (hl : l.length = 1) (hm : m.length = 1) : cmpI (IntKind.i8.wrap (Lib.leNat l : Nat)) (IntKind.i8.wrap (Lib.leNat m : Nat)) = specCmp 1 (num 1 l : Nat) (num 1 m : Nat) := by
  have h1 := leNat_lt l
  have h2 := leNat_lt m
  rw [hl] at h1
  rw [hm] at h2
  simp only [Nat.reducePow] at h1 h2
  rw [num_n 1 1 l hl (by omega) (by omega), num_n 1 1 m hm (by omega) (by omega)]
  have hs : sgn 1 = true := rfl
  unfold cmpI specCmp
  simp only [hs, if_true, true_and, Nat.reducePow]
  have ex : ∀ x : Nat, x < 256 → IntKind.i8.wrap (x : Int) = (if 256 ≤ 2 * x then (x : Int) - 256 else x) := fun x hx => by
    simp [wrap32, IntKind.wrap, IntKind.bits, IntKind.signed]
    try (split <;> split <;> omega)
    try (split <;> omega)
  have eu : ∀ x : Nat, x < 256 → wrap64 ((if 256 ≤ 2 * x then x + 18446744073709551616 - 256 else x : Nat) : Int) = (if 256 ≤ 2 * x then (x : Int) - 256 else x) := fun x hx => by
    simp only [wrap64]
    split <;> omega
  rw [ex _ h1, ex _ h2, eu _ h1, eu _ h2]
  generalize Lib.leNat l = x at *
  generalize Lib.leNat m = y at *
  clear ex eu
  by_cases c1 : 256 ≤ 2 * x <;> by_cases c2 : 256 ≤ 2 * y <;> simp only [c1, c2, if_true, if_false]
  all_goals (repeat' split) <;> omega

theorem outer_2 (l m : List UInt8) (hl : l.length = 1) (hm : m.length = 1) (g h : Nat) (w : World) (hr : Rd w 1 (.slice (some ⟨g, 0, none⟩) 1 1) 1 (byteCells l)) (hs : Rd w 1 (.slice (some ⟨h, 0, none⟩) 1 1) 1 (byteCells m)) :
    Calls Tryd.prog 49 #[.agg #[.int .u8 2, .int .u16 0, .bool false], .slice (some ⟨g, 0, none⟩) 1 1, .slice (some ⟨h, 0, none⟩) 1 1] w fun e w' => e = .returned (.int .i64 (cmpI (Lib.leNat l : Nat) (Lib.leNat m : Nat))) ∧ Below w.heap.size w w' := by
  have hb0 : Below w.heap.size w (w.alloc (.cells #[.int .u8 2, .int .u16 0, .bool false] 76)) := (Below.refl _ _).alloc (Nat.le_refl _) _
  have C := Lib.hid (compare_2 l m hl hm g h _ (hr.below hb0) (hs.below hb0))
  clear hr hs hl hm
  go_enter Tryd.func49, Tryd.ntmps49
  go_wp2_with (first
    | (go_at_call 64; (with_reducible refine C.out.mono ?_); rintro e w1 ⟨rfl, hb1⟩; have HB1 := Lib.hid hb1; clear hb1))
  go_ret
  exact ⟨rfl, hb0.trans (HB1.out.mono hb0.size)⟩
theorem vlCompare_2 (l m : List UInt8) (hl : l.length = 1) (hm : m.length = 1) (g h : Nat) (w : World) (he : En w) (hr : Rd w 1 (.slice (some ⟨g, 0, none⟩) 1 1) 1 (byteCells l)) (hs : Rd w 1 (.slice (some ⟨h, 0, none⟩) 1 1) 1 (byteCells m)) :
    Calls Tryd.prog 12 #[.int .i64 2, .slice (some ⟨g, 0, none⟩) 1 1, .slice (some ⟨h, 0, none⟩) 1 1] w fun e w' => e = .returned (.int .i64 (cmpI (Lib.leNat l : Nat) (Lib.leNat m : Nat))) ∧ Below w.heap.size w w' := by
  have C := Lib.hid (outer_2 l m hl hm g h w hr hs)
  have e1 : w.cell? ⟨1, 2, none⟩ = some (.int .u8 2) := he 2 (by omega)
  clear hr hs hl hm he
  go_enter Tryd.func12, Tryd.ntmps12
  go_wp2_with (first
    | (go_at_call 49; (with_reducible refine C.out.mono ?_); rintro e w1 ⟨rfl, hb1⟩; have HB1 := Lib.hid hb1; clear hb1))
  go_ret
  exact ⟨rfl, HB1.out⟩
theorem same_2 (l m : List UInt8) (hl : l.length = 1) (hm : m.length = 1) : cmpI (Lib.leNat l : Nat) (Lib.leNat m : Nat) = specCmp 2 (num 2 l : Nat) (num 2 m : Nat) := by
  have h1 := leNat_lt l
  have h2 := leNat_lt m
  rw [hl] at h1
  rw [hm] at h2
  simp only [Nat.reducePow] at h1 h2
  rw [num_n 2 1 l hl (by omega) (by omega), num_n 2 1 m hm (by omega) (by omega)]
  have hs : sgn 2 = false := rfl
  unfold cmpI specCmp
  simp only [hs, false_and, if_false, Bool.false_eq_true]

theorem outer_3 (l m : List UInt8) (hl : l.length = 2) (hm : m.length = 2) (g h : Nat) (w : World) (hr : Rd w 1 (.slice (some ⟨g, 0, none⟩) 2 2) 2 (byteCells l)) (hs : Rd w 1 (.slice (some ⟨h, 0, none⟩) 2 2) 2 (byteCells m)) :
    Calls Tryd.prog 49 #[.agg #[.int .u8 3, .int .u16 0, .bool false], .slice (some ⟨g, 0, none⟩) 2 2, .slice (some ⟨h, 0, none⟩) 2 2] w fun e w' => e = .returned (.int .i64 (cmpI (IntKind.i16.wrap (Lib.leNat l : Nat)) (IntKind.i16.wrap (Lib.leNat m : Nat)))) ∧ Below w.heap.size w w' := by
  have hb0 : Below w.heap.size w (w.alloc (.cells #[.int .u8 3, .int .u16 0, .bool false] 76)) := (Below.refl _ _).alloc (Nat.le_refl _) _
  have C := Lib.hid (compare_3 l m hl hm g h _ (hr.below hb0) (hs.below hb0))
  clear hr hs hl hm
  go_enter Tryd.func49, Tryd.ntmps49
  go_wp2_with (first
    | (go_at_call 64; (with_reducible refine C.out.mono ?_); rintro e w1 ⟨rfl, hb1⟩; have HB1 := Lib.hid hb1; clear hb1))
  go_ret
  exact ⟨rfl, hb0.trans (HB1.out.mono hb0.size)⟩
theorem vlCompare_3 (l m : List UInt8) (hl : l.length = 2) (hm : m.length = 2) (g h : Nat) (w : World) (he : En w) (hr : Rd w 1 (.slice (some ⟨g, 0, none⟩) 2 2) 2 (byteCells l)) (hs : Rd w 1 (.slice (some ⟨h, 0, none⟩) 2 2) 2 (byteCells m)) :
    Calls Tryd.prog 12 #[.int .i64 3, .slice (some ⟨g, 0, none⟩) 2 2, .slice (some ⟨h, 0, none⟩) 2 2] w fun e w' => e = .returned (.int .i64 (cmpI (IntKind.i16.wrap (Lib.leNat l : Nat)) (IntKind.i16.wrap (Lib.leNat m : Nat)))) ∧ Below w.heap.size w w' := by
  have C := Lib.hid (outer_3 l m hl hm g h w hr hs)
  have e1 : w.cell? ⟨1, 3, none⟩ = some (.int .u8 3) := he 3 (by omega)
  clear hr hs hl hm he
  go_enter Tryd.func12, Tryd.ntmps12
  go_wp2_with (first
    | (go_at_call 49; (with_reducible refine C.out.mono ?_); rintro e w1 ⟨rfl, hb1⟩; have HB1 := Lib.hid hb1; clear hb1))
  go_ret
  exact ⟨rfl, HB1.out⟩
theorem same_3 (l m : List UInt8) (hl : l.length = 2) (hm : m.length = 2) : cmpI (IntKind.i16.wrap (Lib.leNat l : Nat)) (IntKind.i16.wrap (Lib.leNat m : Nat)) = specCmp 3 (num 3 l : Nat) (num 3 m : Nat) := by
  have h1 := leNat_lt l
  have h2 := leNat_lt m
  rw [hl] at h1
  rw [hm] at h2
  simp only [Nat.reducePow] at h1 h2
  rw [num_n 3 2 l hl (by omega) (by omega), num_n 3 2 m hm (by omega) (by omega)]
  have hs : sgn 3 = true := rfl
  unfold cmpI specCmp
  simp only [hs, if_true, true_and, Nat.reducePow]
  have ex : ∀ x : Nat, x < 65536 → IntKind.i16.wrap (x : Int) = (if 65536 ≤ 2 * x then (x : Int) - 65536 else x) := fun x hx => by
    simp [wrap32, IntKind.wrap, IntKind.bits, IntKind.signed]
    try (split <;> split <;> omega)
    try (split <;> omega)
  have eu : ∀ x : Nat, x < 65536 → wrap64 ((if 65536 ≤ 2 * x then x + 18446744073709551616 - 65536 else x : Nat) : Int) = (if 65536 ≤ 2 * x then (x : Int) - 65536 else x) := fun x hx => by
    simp only [wrap64]
    split <;> omega
  rw [ex _ h1, ex _ h2, eu _ h1, eu _ h2]
  generalize Lib.leNat l = x at *
  generalize Lib.leNat m = y at *
  clear ex eu
  by_cases c1 : 65536 ≤ 2 * x <;> by_cases c2 : 65536 ≤ 2 * y <;> simp only [c1, c2, if_true, if_false]
  all_goals (repeat' split) <;> omega

theorem outer_4 (l m : List UInt8) (hl : l.length = 2) (hm : m.length = 2) (g h : Nat) (w : World) (hr : Rd w 1 (.slice (some ⟨g, 0, none⟩) 2 2) 2 (byteCells l)) (hs : Rd w 1 (.slice (some ⟨h, 0, none⟩) 2 2) 2 (byteCells m)) :
    Calls Tryd.prog 49 #[.agg #[.int .u8 4, .int .u16 0, .bool false], .slice (some ⟨g, 0, none⟩) 2 2, .slice (some ⟨h, 0, none⟩) 2 2] w fun e w' => e = .returned (.int .i64 (cmpI (Lib.leNat l : Nat) (Lib.leNat m : Nat))) ∧ Below w.heap.size w w' := by
  have hb0 : Below w.heap.size w (w.alloc (.cells #[.int .u8 4, .int .u16 0, .bool false] 76)) := (Below.refl _ _).alloc (Nat.le_refl _) _
  have C := Lib.hid (compare_4 l m hl hm g h _ (hr.below hb0) (hs.below hb0))
  clear hr hs hl hm
  go_enter Tryd.func49, Tryd.ntmps49
  go_wp2_with (first
    | (go_at_call 64; (with_reducible refine C.out.mono ?_); rintro e w1 ⟨rfl, hb1⟩; have HB1 := Lib.hid hb1; clear hb1))
  go_ret
  exact ⟨rfl, hb0.trans (HB1.out.mono hb0.size)⟩
theorem vlCompare_4 (l m : List UInt8) (hl : l.length = 2) (hm : m.length = 2) (g h : Nat) (w : World) (he : En w) (hr : Rd w 1 (.slice (some ⟨g, 0, none⟩) 2 2) 2 (byteCells l)) (hs : Rd w 1 (.slice (some ⟨h, 0, none⟩) 2 2) 2 (byteCells m)) :
    Calls Tryd.prog 12 #[.int .i64 4, .slice (some ⟨g, 0, none⟩) 2 2, .slice (some ⟨h, 0, none⟩) 2 2] w fun e w' => e = .returned (.int .i64 (cmpI (Lib.leNat l : Nat) (Lib.leNat m : Nat))) ∧ Below w.heap.size w w' := by
  have C := Lib.hid (outer_4 l m hl hm g h w hr hs)
  have e1 : w.cell? ⟨1, 4, none⟩ = some (.int .u8 4) := he 4 (by omega)
  clear hr hs hl hm he
  go_enter Tryd.func12, Tryd.ntmps12
  go_wp2_with (first
    | (go_at_call 49; (with_reducible refine C.out.mono ?_); rintro e w1 ⟨rfl, hb1⟩; have HB1 := Lib.hid hb1; clear hb1))
  go_ret
  exact ⟨rfl, HB1.out⟩
theorem same_4 (l m : List UInt8) (hl : l.length = 2) (hm : m.length = 2) : cmpI (Lib.leNat l : Nat) (Lib.leNat m : Nat) = specCmp 4 (num 4 l : Nat) (num 4 m : Nat) := by
  have h1 := leNat_lt l
  have h2 := leNat_lt m
  rw [hl] at h1
  rw [hm] at h2
  simp only [Nat.reducePow] at h1 h2
  rw [num_n 4 2 l hl (by omega) (by omega), num_n 4 2 m hm (by omega) (by omega)]
  have hs : sgn 4 = false := rfl
  unfold cmpI specCmp
  simp only [hs, false_and, if_false, Bool.false_eq_true]

theorem outer_7 (l m : List UInt8) (hl : l.length = 4) (hm : m.length = 4) (g h : Nat) (w : World) (hr : Rd w 1 (.slice (some ⟨g, 0, none⟩) 4 4) 4 (byteCells l)) (hs : Rd w 1 (.slice (some ⟨h, 0, none⟩) 4 4) 4 (byteCells m)) :
    Calls Tryd.prog 49 #[.agg #[.int .u8 7, .int .u16 0, .bool false], .slice (some ⟨g, 0, none⟩) 4 4, .slice (some ⟨h, 0, none⟩) 4 4] w fun e w' => e = .returned (.int .i64 (cmpI (wrap32 (Lib.leNat l : Nat)) (wrap32 (Lib.leNat m : Nat)))) ∧ Below w.heap.size w w' := by
  have hb0 : Below w.heap.size w (w.alloc (.cells #[.int .u8 7, .int .u16 0, .bool false] 76)) := (Below.refl _ _).alloc (Nat.le_refl _) _
  have C := Lib.hid (compare_7 l m hl hm g h _ (hr.below hb0) (hs.below hb0))
  clear hr hs hl hm
  go_enter Tryd.func49, Tryd.ntmps49
  go_wp2_with (first
    | (go_at_call 64; (with_reducible refine C.out.mono ?_); rintro e w1 ⟨rfl, hb1⟩; have HB1 := Lib.hid hb1; clear hb1))
  go_ret
  exact ⟨rfl, hb0.trans (HB1.out.mono hb0.size)⟩
theorem vlCompare_7 (l m : List UInt8) (hl : l.length = 4) (hm : m.length = 4) (g h : Nat) (w : World) (he : En w) (hr : Rd w 1 (.slice (some ⟨g, 0, none⟩) 4 4) 4 (byteCells l)) (hs : Rd w 1 (.slice (some ⟨h, 0, none⟩) 4 4) 4 (byteCells m)) :
    Calls Tryd.prog 12 #[.int .i64 7, .slice (some ⟨g, 0, none⟩) 4 4, .slice (some ⟨h, 0, none⟩) 4 4] w fun e w' => e = .returned (.int .i64 (cmpI (wrap32 (Lib.leNat l : Nat)) (wrap32 (Lib.leNat m : Nat)))) ∧ Below w.heap.size w w' := by
  have C := Lib.hid (outer_7 l m hl hm g h w hr hs)
  have e1 : w.cell? ⟨1, 7, none⟩ = some (.int .u8 7) := he 7 (by omega)
  clear hr hs hl hm he
  go_enter Tryd.func12, Tryd.ntmps12
  go_wp2_with (first
    | (go_at_call 49; (with_reducible refine C.out.mono ?_); rintro e w1 ⟨rfl, hb1⟩; have HB1 := Lib.hid hb1; clear hb1))
  go_ret
  exact ⟨rfl, HB1.out⟩
theorem same_7 (l m : List UInt8) (hl : l.length = 4) (hm : m.length = 4) : cmpI (wrap32 (Lib.leNat l : Nat)) (wrap32 (Lib.leNat m : Nat)) = specCmp 7 (num 7 l : Nat) (num 7 m : Nat) := by
  have h1 := leNat_lt l
  have h2 := leNat_lt m
  rw [hl] at h1
  rw [hm] at h2
  simp only [Nat.reducePow] at h1 h2
  rw [num_n 7 4 l hl (by omega) (by omega), num_n 7 4 m hm (by omega) (by omega)]
  have hs : sgn 7 = true := rfl
  unfold cmpI specCmp
  simp only [hs, if_true, true_and, Nat.reducePow]
  have ex : ∀ x : Nat, x < 4294967296 → wrap32 (x : Int) = (if 4294967296 ≤ 2 * x then (x : Int) - 4294967296 else x) := fun x hx => by
    simp [wrap32, IntKind.wrap, IntKind.bits, IntKind.signed]
    try (split <;> split <;> omega)
    try (split <;> omega)
  have eu : ∀ x : Nat, x < 4294967296 → wrap64 ((if 4294967296 ≤ 2 * x then x + 18446744073709551616 - 4294967296 else x : Nat) : Int) = (if 4294967296 ≤ 2 * x then (x : Int) - 4294967296 else x) := fun x hx => by
    simp only [wrap64]
    split <;> omega
  rw [ex _ h1, ex _ h2, eu _ h1, eu _ h2]
  generalize Lib.leNat l = x at *
  generalize Lib.leNat m = y at *
  clear ex eu
  by_cases c1 : 4294967296 ≤ 2 * x <;> by_cases c2 : 4294967296 ≤ 2 * y <;> simp only [c1, c2, if_true, if_false]
  all_goals (repeat' split) <;> omega

theorem outer_8 (l m : List UInt8) (hl : l.length = 4) (hm : m.length = 4) (g h : Nat) (w : World) (hr : Rd w 1 (.slice (some ⟨g, 0, none⟩) 4 4) 4 (byteCells l)) (hs : Rd w 1 (.slice (some ⟨h, 0, none⟩) 4 4) 4 (byteCells m)) :
    Calls Tryd.prog 49 #[.agg #[.int .u8 8, .int .u16 0, .bool false], .slice (some ⟨g, 0, none⟩) 4 4, .slice (some ⟨h, 0, none⟩) 4 4] w fun e w' => e = .returned (.int .i64 (cmpI (Lib.leNat l : Nat) (Lib.leNat m : Nat))) ∧ Below w.heap.size w w' := by
  have hb0 : Below w.heap.size w (w.alloc (.cells #[.int .u8 8, .int .u16 0, .bool false] 76)) := (Below.refl _ _).alloc (Nat.le_refl _) _
  have C := Lib.hid (compare_8 l m hl hm g h _ (hr.below hb0) (hs.below hb0))
  clear hr hs hl hm
  go_enter Tryd.func49, Tryd.ntmps49
  go_wp2_with (first
    | (go_at_call 64; (with_reducible refine C.out.mono ?_); rintro e w1 ⟨rfl, hb1⟩; have HB1 := Lib.hid hb1; clear hb1))
  go_ret
  exact ⟨rfl, hb0.trans (HB1.out.mono hb0.size)⟩
theorem vlCompare_8 (l m : List UInt8) (hl : l.length = 4) (hm : m.length = 4) (g h : Nat) (w : World) (he : En w) (hr : Rd w 1 (.slice (some ⟨g, 0, none⟩) 4 4) 4 (byteCells l)) (hs : Rd w 1 (.slice (some ⟨h, 0, none⟩) 4 4) 4 (byteCells m)) :
    Calls Tryd.prog 12 #[.int .i64 8, .slice (some ⟨g, 0, none⟩) 4 4, .slice (some ⟨h, 0, none⟩) 4 4] w fun e w' => e = .returned (.int .i64 (cmpI (Lib.leNat l : Nat) (Lib.leNat m : Nat))) ∧ Below w.heap.size w w' := by
  have C := Lib.hid (outer_8 l m hl hm g h w hr hs)
  have e1 : w.cell? ⟨1, 8, none⟩ = some (.int .u8 8) := he 8 (by omega)
  clear hr hs hl hm he
  go_enter Tryd.func12, Tryd.ntmps12
  go_wp2_with (first
    | (go_at_call 49; (with_reducible refine C.out.mono ?_); rintro e w1 ⟨rfl, hb1⟩; have HB1 := Lib.hid hb1; clear hb1))
  go_ret
  exact ⟨rfl, HB1.out⟩
theorem same_8 (l m : List UInt8) (hl : l.length = 4) (hm : m.length = 4) : cmpI (Lib.leNat l : Nat) (Lib.leNat m : Nat) = specCmp 8 (num 8 l : Nat) (num 8 m : Nat) := by
  have h1 := leNat_lt l
  have h2 := leNat_lt m
  rw [hl] at h1
  rw [hm] at h2
  simp only [Nat.reducePow] at h1 h2
  rw [num_n 8 4 l hl (by omega) (by omega), num_n 8 4 m hm (by omega) (by omega)]
  have hs : sgn 8 = false := rfl
  unfold cmpI specCmp
  simp only [hs, false_and, if_false, Bool.false_eq_true]

theorem outer_9 (l m : List UInt8) (hl : l.length = 8) (hm : m.length = 8) (g h : Nat) (w : World) (hr : Rd w 1 (.slice (some ⟨g, 0, none⟩) 8 8) 8 (byteCells l)) (hs : Rd w 1 (.slice (some ⟨h, 0, none⟩) 8 8) 8 (byteCells m)) :
    Calls Tryd.prog 49 #[.agg #[.int .u8 9, .int .u16 0, .bool false], .slice (some ⟨g, 0, none⟩) 8 8, .slice (some ⟨h, 0, none⟩) 8 8] w fun e w' => e = .returned (.int .i64 (cmpI (wrap64 (Lib.leNat l : Nat)) (wrap64 (Lib.leNat m : Nat)))) ∧ Below w.heap.size w w' := by
  have hb0 : Below w.heap.size w (w.alloc (.cells #[.int .u8 9, .int .u16 0, .bool false] 76)) := (Below.refl _ _).alloc (Nat.le_refl _) _
  have C := Lib.hid (compare_9 l m hl hm g h _ (hr.below hb0) (hs.below hb0))
  clear hr hs hl hm
  go_enter Tryd.func49, Tryd.ntmps49
  go_wp2_with (first
    | (go_at_call 64; (with_reducible refine C.out.mono ?_); rintro e w1 ⟨rfl, hb1⟩; have HB1 := Lib.hid hb1; clear hb1))
  go_ret
  exact ⟨rfl, hb0.trans (HB1.out.mono hb0.size)⟩
theorem vlCompare_9 (l m : List UInt8) (hl : l.length = 8) (hm : m.length = 8) (g h : Nat) (w : World) (he : En w) (hr : Rd w 1 (.slice (some ⟨g, 0, none⟩) 8 8) 8 (byteCells l)) (hs : Rd w 1 (.slice (some ⟨h, 0, none⟩) 8 8) 8 (byteCells m)) :
    Calls Tryd.prog 12 #[.int .i64 9, .slice (some ⟨g, 0, none⟩) 8 8, .slice (some ⟨h, 0, none⟩) 8 8] w fun e w' => e = .returned (.int .i64 (cmpI (wrap64 (Lib.leNat l : Nat)) (wrap64 (Lib.leNat m : Nat)))) ∧ Below w.heap.size w w' := by
  have C := Lib.hid (outer_9 l m hl hm g h w hr hs)
  have e1 : w.cell? ⟨1, 9, none⟩ = some (.int .u8 9) := he 9 (by omega)
  clear hr hs hl hm he
  go_enter Tryd.func12, Tryd.ntmps12
  go_wp2_with (first
    | (go_at_call 49; (with_reducible refine C.out.mono ?_); rintro e w1 ⟨rfl, hb1⟩; have HB1 := Lib.hid hb1; clear hb1))
  go_ret
  exact ⟨rfl, HB1.out⟩
theorem same_9 (l m : List UInt8) (hl : l.length = 8) (hm : m.length = 8) : cmpI (wrap64 (Lib.leNat l : Nat)) (wrap64 (Lib.leNat m : Nat)) = specCmp 9 (num 9 l : Nat) (num 9 m : Nat) := by
  have h1 := leNat_lt l
  have h2 := leNat_lt m
  rw [hl] at h1
  rw [hm] at h2
  simp only [Nat.reducePow] at h1 h2
  rw [num_8 9 l hl, num_8 9 m hm]
  have hs : sgn 9 = true := rfl
  unfold cmpI specCmp
  simp only [hs, if_true]
  have ex : ((Lib.leNat l : Nat) : Int) = (Lib.leNat m : Nat) ↔ wrap64 (Lib.leNat l : Nat) = wrap64 (Lib.leNat m : Nat) := by
    simp only [wrap64]
    omega
  by_cases h : ((Lib.leNat l : Nat) : Int) = (Lib.leNat m : Nat)
  · rw [if_pos h, if_pos (ex.1 h)]
  · rw [if_neg h, if_neg (fun h2 => h (ex.2 h2))]

theorem outer_10 (l m : List UInt8) (hl : l.length = 8) (hm : m.length = 8) (g h : Nat) (w : World) (hr : Rd w 1 (.slice (some ⟨g, 0, none⟩) 8 8) 8 (byteCells l)) (hs : Rd w 1 (.slice (some ⟨h, 0, none⟩) 8 8) 8 (byteCells m)) :
    Calls Tryd.prog 49 #[.agg #[.int .u8 10, .int .u16 0, .bool false], .slice (some ⟨g, 0, none⟩) 8 8, .slice (some ⟨h, 0, none⟩) 8 8] w fun e w' => e = .returned (.int .i64 (cmpI (Lib.leNat l : Nat) (Lib.leNat m : Nat))) ∧ Below w.heap.size w w' := by
  have hb0 : Below w.heap.size w (w.alloc (.cells #[.int .u8 10, .int .u16 0, .bool false] 76)) := (Below.refl _ _).alloc (Nat.le_refl _) _
  have C := Lib.hid (compare_10 l m hl hm g h _ (hr.below hb0) (hs.below hb0))
  clear hr hs hl hm
  go_enter Tryd.func49, Tryd.ntmps49
  go_wp2_with (first
    | (go_at_call 64; (with_reducible refine C.out.mono ?_); rintro e w1 ⟨rfl, hb1⟩; have HB1 := Lib.hid hb1; clear hb1))
  go_ret
  exact ⟨rfl, hb0.trans (HB1.out.mono hb0.size)⟩
theorem vlCompare_10 (l m : List UInt8) (hl : l.length = 8) (hm : m.length = 8) (g h : Nat) (w : World) (he : En w) (hr : Rd w 1 (.slice (some ⟨g, 0, none⟩) 8 8) 8 (byteCells l)) (hs : Rd w 1 (.slice (some ⟨h, 0, none⟩) 8 8) 8 (byteCells m)) :
    Calls Tryd.prog 12 #[.int .i64 10, .slice (some ⟨g, 0, none⟩) 8 8, .slice (some ⟨h, 0, none⟩) 8 8] w fun e w' => e = .returned (.int .i64 (cmpI (Lib.leNat l : Nat) (Lib.leNat m : Nat))) ∧ Below w.heap.size w w' := by
  have C := Lib.hid (outer_10 l m hl hm g h w hr hs)
  have e1 : w.cell? ⟨1, 10, none⟩ = some (.int .u8 10) := he 10 (by omega)
  clear hr hs hl hm he
  go_enter Tryd.func12, Tryd.ntmps12
  go_wp2_with (first
    | (go_at_call 49; (with_reducible refine C.out.mono ?_); rintro e w1 ⟨rfl, hb1⟩; have HB1 := Lib.hid hb1; clear hb1))
  go_ret
  exact ⟨rfl, HB1.out⟩
theorem same_10 (l m : List UInt8) (hl : l.length = 8) (hm : m.length = 8) : cmpI (Lib.leNat l : Nat) (Lib.leNat m : Nat) = specCmp 10 (num 10 l : Nat) (num 10 m : Nat) := by
  have h1 := leNat_lt l
  have h2 := leNat_lt m
  rw [hl] at h1
  rw [hm] at h2
  simp only [Nat.reducePow] at h1 h2
  rw [num_8 10 l hl, num_8 10 m hm]
  have hs : sgn 10 = false := rfl
  unfold cmpI specCmp
  simp only [hs, false_and, if_false, Bool.false_eq_true]


def asked : List Nat := [1, 2, 3, 4, 7, 8, 9, 10]
theorem asked_kind {k : Nat} (h : k ∈ asked) : k ∈ kinds := by
  simp only [asked, List.mem_cons, List.mem_nil_iff, or_false] at h
  rcases h with rfl | rfl | rfl | rfl | rfl | rfl | rfl | rfl <;> decide
theorem asked_at (i : Nat) (h : i < 8) : kinds.getD (i % 12) 0 ∈ asked := by
  have h2 : ∀ j : Fin 8, kinds.getD (j % 12) 0 ∈ asked := by decide
  exact h2 ⟨i, h⟩
theorem vlCompare_any (k a b : Nat) (hk : k ∈ asked) (g h : Nat) (w : World) (he : En w) (hr : Rd w 1 (.slice (some ⟨g, 0, none⟩) (sz k) (sz k)) (sz k) (byteCells (Lib.leBytes (sz k) a))) (hs : Rd w 1 (.slice (some ⟨h, 0, none⟩) (sz k) (sz k)) (sz k) (byteCells (Lib.leBytes (sz k) b))) :
    Calls Tryd.prog 12 #[.int .i64 k, .slice (some ⟨g, 0, none⟩) (sz k) (sz k), .slice (some ⟨h, 0, none⟩) (sz k) (sz k)] w fun e w' => e = .returned (.int .i64 (specCmp k (cut k a : Nat) (cut k b : Nat))) ∧ Below w.heap.size w w' := by
  have hl := Lib.leBytes_length (sz k) a
  have hm := Lib.leBytes_length (sz k) b
  unfold cut
  simp only [asked, List.mem_cons, List.mem_nil_iff, or_false] at hk
  rcases hk with rfl | rfl | rfl | rfl | rfl | rfl | rfl | rfl
  · rw [← same_1 _ _ hl hm]; exact vlCompare_1 _ _ hl hm g h w he hr hs
  · rw [← same_2 _ _ hl hm]; exact vlCompare_2 _ _ hl hm g h w he hr hs
  · rw [← same_3 _ _ hl hm]; exact vlCompare_3 _ _ hl hm g h w he hr hs
  · rw [← same_4 _ _ hl hm]; exact vlCompare_4 _ _ hl hm g h w he hr hs
  · rw [← same_7 _ _ hl hm]; exact vlCompare_7 _ _ hl hm g h w he hr hs
  · rw [← same_8 _ _ hl hm]; exact vlCompare_8 _ _ hl hm g h w he hr hs
  · rw [← same_9 _ _ hl hm]; exact vlCompare_9 _ _ hl hm g h w he hr hs
  · rw [← same_10 _ _ hl hm]; exact vlCompare_10 _ _ hl hm g h w he hr hs

theorem specCmp_turn (k x y : Nat) (hx : x < 18446744073709551616) (hy : y < 18446744073709551616) : specCmp k y x = -specCmp k x y := by
  unfold specCmp
  have e1 : wrap64 (x : Int) = wrap64 (y : Int) → x = y := by
    simp only [wrap64]
    omega
  generalize wrap64 (x : Int) = u at *
  generalize wrap64 (y : Int) = v at *
  cases sgn k <;> simp only [if_true, if_false, Bool.false_eq_true]
  all_goals (repeat' split) <;> omega
theorem specCmp_bd (k x y : Nat) : -1 ≤ specCmp k x y ∧ specCmp k x y ≤ 1 := by
  unfold specCmp
  (repeat' split) <;> omega
theorem specCmp_same (k x : Nat) : specCmp k x x = 0 := by simp [specCmp]

theorem order_any (a b c : Int) (w : World) (w0 : (Lit.int .u8 a).wf = true) (w1 : (Lit.int .u64 b).wf = true) (w2 : (Lit.int .u64 c).wf = true) (hm : Sz w ∧ En w) :
    Calls Tryd.prog 4 #[.int .u8 a, .int .u64 b, .int .u64 c] w fun e w' => e = .returned (.bool true) ∧ Below w.heap.size w w' := by
  have ba := bounds_u8 w0
  have bb := bounds_u64 w1
  have bc := bounds_u64 w2
  obtain ⟨hm, hn⟩ := hm
  obtain ⟨q, rfl⟩ : ∃ x : Nat, a = x := ⟨a.toNat, by omega⟩
  obtain ⟨x, rfl⟩ : ∃ x : Nat, b = x := ⟨b.toNat, by omega⟩
  obtain ⟨y, rfl⟩ : ∃ y : Nat, c = y := ⟨c.toNat, by omega⟩
  have hx : x < 18446744073709551616 := by omega
  have hy : y < 18446744073709551616 := by omega
  have KA := fun W => kind_any (q % 8) (by omega) W
  rw [show ((q % 8 : Nat) : Int) = (q : Int) % 8 by omega] at KA
  have hk := asked_at (q % 8) (by omega)
  generalize kinds.getD (q % 8 % 12) 0 = k at *
  have hkk := asked_kind hk
  have hp := kinds_pos hkk
  have KA := Lib.hid KA
  have CX := Lib.hid (fun W => cut_any k x hp.2 hp.1 hx W)
  have CY := Lib.hid (fun W => cut_any k y hp.2 hp.1 hy W)
  have WX := Lib.hid (fun W (hW : Below w.heap.size w W) => write_any k x hkk W (hm.below hW))
  have WY := Lib.hid (fun W (hW : Below w.heap.size w W) => write_any k y hkk W (hm.below hW))
  have XY := Lib.hid (fun g h W (hW : Below w.heap.size w W) hr hs => vlCompare_any k x y hk g h W (hn.below hW) hr hs)
  have XX := Lib.hid (fun g h W (hW : Below w.heap.size w W) hr hs => vlCompare_any k x x hk g h W (hn.below hW) hr hs)
  have YX := fun g h W (hW : Below w.heap.size w W) hr hs => vlCompare_any k y x hk g h W (hn.below hW) hr hs
  have lx := cut_lt k x hp.1
  have ly := cut_lt k y hp.1
  rw [specCmp_turn k _ _ lx ly] at YX
  simp only [specCmp_same] at XX
  have YX := Lib.hid YX
  have SP := Lib.hid (fun W => spec_any k hp.2 (cut k x) (cut k y) W)
  have bd := specCmp_bd k (cut k x) (cut k y)
  clear w0 w1 w2 ba bb bc hm hn hk hkk hp lx ly hx hy
  generalize cut k x = X at *
  generalize cut k y = Y at *
  generalize specCmp k (X : Int) (Y : Int) = z at *
  obtain ⟨b1, b2⟩ := bd
  have S1 := Lib.hid (fun W => sign_any z b1 b2 W)
  have S2 := Lib.hid (fun W => sign_any (-z) (by omega) (by omega) W)
  go_enter Tryd.func4, Tryd.ntmps4
  go_wp2_with (first
    | (go_at_call 6; (with_reducible refine (KA.out _).mono ?_); rintro e w1 ⟨rfl, hb1⟩)
    | (go_at_call 8; (with_reducible refine (CX.out _).mono ?_); rintro e w2 ⟨rfl, hb2⟩; have hb02 := hb1.trans (hb2.mono hb1.size); clear hb2 CX)
    | (go_at_call 8; (with_reducible refine (CY.out _).mono ?_); rintro e w3 ⟨rfl, hb3⟩; have hb03 := hb02.trans (hb3.mono hb02.size); clear hb3 CY)
    | (go_at_call 7; (with_reducible refine (WX.out _ hb03).mono ?_); rintro e w4 ⟨g, rfl, hr4, hb4⟩; have hb04 := hb03.trans (hb4.mono hb03.size); have HR4 := Lib.hid hr4; clear hr4 hb4 WX)
    | (go_at_call 7; (with_reducible refine (WY.out _ hb04).mono ?_); rintro e w5 ⟨h, rfl, hr5, hb5⟩; have hb05 := hb04.trans (hb5.mono hb04.size); have HR5 := Lib.hid hr5; have HR45 := Lib.hid (HR4.out.below hb5); clear hr5 hb5 WY)
    | (go_at_call 12; (with_reducible refine (XY.out _ _ _ hb05 HR45.out HR5.out).mono ?_); rintro e w6 ⟨rfl, hb6⟩; have hb06 := hb05.trans (hb6.mono hb05.size); have HP6 := Lib.hid (HR45.out.below hb6); have HQ6 := Lib.hid (HR5.out.below hb6); clear hb6 XY)
    | (go_at_call 11; (with_reducible refine (S1.out _).mono ?_); rintro e w7 ⟨rfl, rfl⟩)
    | (go_at_call 11; (with_reducible refine (S2.out _).mono ?_); rintro e w7 ⟨rfl, rfl⟩)
    | (go_at_call 13; (with_reducible refine (SP.out _).mono ?_); rintro e w8 ⟨rfl, rfl⟩)
    | (go_at_call 12; (with_reducible refine (YX.out _ _ _ hb06 HQ6.out HP6.out).mono ?_); rintro e w9 ⟨rfl, hb9⟩; have hb09 := hb06.trans (hb9.mono hb06.size); have HP9 := Lib.hid (HP6.out.below hb9); clear hb9 YX)
    | (go_at_call 12; (with_reducible refine (XX.out _ _ _ hb09 HP9.out HP9.out).mono ?_); rintro e w10 ⟨rfl, hb10⟩; have hb010 := hb09.trans (hb10.mono hb09.size); clear hb10 XX))
  go_ret
  exact ⟨rfl, hb010⟩

end Go.Proofs.YtbcclblocagneaaDoor.Vl

/- The walks of the readers of numbers. Conditions: those written at each lemma. -/
import Derived.Test.YtbcclblocagneaaDoorVlc
import Derived.IntWalk
set_option linter.unusedVariables false
set_option linter.unusedSimpArgs false
set_option maxRecDepth 100000
set_option maxHeartbeats 1000000
namespace Go.Proofs.YtbcclblocagneaaDoor.Vl
open Go.RowKit Go.Proofs.YtbcclblocagneaaDoor.B
open Go.Lib (byteCells toUInt8_mod)

theorem rd_cell {w : World} {g o n c : Nat} {l : List UInt8} (hr : Rd w 1 (.slice (some ⟨g, o, none⟩) n c) n (byteCells l)) (hl : l.length = n) (j : Nat) (hj : j < l.length) : w.cell? ⟨g, o + j, none⟩ = some (.int .u8 l[j].toNat) := by
  obtain ⟨b, o', c', hv, _, _, _, hc⟩ := hr.open (by omega)
  injection hv with hv _ _
  injection hv with hv
  injection hv with h1 h2
  subst h1; subst h2
  exact hc j _ (by simp only [byteCells, List.getElem?_map, List.getElem?_eq_getElem hj]; rfl)
theorem rd_dr {w W : World} {v : Value} {n : Nat} {cs : List Value} (h : Rd w 1 v n cs) (hd : Dr w W) : Rd W 1 v n cs := by
  obtain ⟨k, rfl⟩ := hd
  exact h.drewN k
theorem below_dr {w W w' : World} (hd : Dr w W) (h : Below W.heap.size W w') : Below w.heap.size w w' := by
  obtain ⟨k, rfl⟩ := hd
  exact (below_drewN (Below.refl _ _) k).trans h
theorem get2 (g o c : Nat) (l : List UInt8) (hl : l.length = 2) (w : World) (hr : Rd w 1 (.slice (some ⟨g, o, none⟩) 2 c) 2 (byteCells l)) :
    Calls Tryd.prog 61 #[.agg #[], .slice (some ⟨g, o, none⟩) 2 c] w fun e w' => e = .returned (.int .u16 (Lib.leNat l)) ∧ Below w.heap.size w w' := by
  have hc := rd_cell hr hl
  match l, hl with
  | [b0, b1], _ =>
    exact Tryd.binary_LE_Uint16 g o 2 c b0 b1 w (by omega) (hc 0 (by simp)) (hc 1 (by simp))
theorem get4 (g o c : Nat) (l : List UInt8) (hl : l.length = 4) (w : World) (hr : Rd w 1 (.slice (some ⟨g, o, none⟩) 4 c) 4 (byteCells l)) :
    Calls Tryd.prog 62 #[.agg #[], .slice (some ⟨g, o, none⟩) 4 c] w fun e w' => e = .returned (.int .u32 (Lib.leNat l)) ∧ Below w.heap.size w w' := by
  have hc := rd_cell hr hl
  match l, hl with
  | [b0, b1, b2, b3], _ =>
    exact Tryd.binary_LE_Uint32 g o 4 c b0 b1 b2 b3 w (by omega) (hc 0 (by simp)) (hc 1 (by simp)) (hc 2 (by simp)) (hc 3 (by simp))
theorem get8 (g o c : Nat) (l : List UInt8) (hl : l.length = 8) (w : World) (hr : Rd w 1 (.slice (some ⟨g, o, none⟩) 8 c) 8 (byteCells l)) :
    Calls Tryd.prog 63 #[.agg #[], .slice (some ⟨g, o, none⟩) 8 c] w fun e w' => e = .returned (.int .u64 (Lib.leNat l)) ∧ Below w.heap.size w w' := by
  have hc := rd_cell hr hl
  match l, hl with
  | [b0, b1, b2, b3, b4, b5, b6, b7], _ =>
    exact Tryd.binary_LE_Uint64 g o 8 c b0 b1 b2 b3 b4 b5 b6 b7 w (by omega) (hc 0 (by simp)) (hc 1 (by simp)) (hc 2 (by simp)) (hc 3 (by simp)) (hc 4 (by simp)) (hc 5 (by simp)) (hc 6 (by simp)) (hc 7 (by simp))
theorem read_i8 (g o c : Nat) (l : List UInt8) (hl : l.length = 1) (w : World) (hr : Rd w 1 (.slice (some ⟨g, o, none⟩) 1 c) 1 (byteCells l)) :
    Calls Tryd.prog 33 #[.slice (some ⟨g, o, none⟩) 1 c] w fun e w' => e = .returned (.int .i8 (IntKind.i8.wrap (Lib.leNat l))) ∧ Below w.heap.size w w' := by
  have hc := rd_cell hr hl
  match l, hl with
  | [b], _ =>
    have h0 : w.cell? ⟨g, o, none⟩ = some (.int .u8 b.toNat) := hc 0 (by simp)
    have e : Lib.leNat [b] = b.toNat := by simp [Lib.leNat]
    have hb := UInt8.toNat_lt b
    rw [e]
    clear e hc hr
    generalize b.toNat = x at *
    go_enter Tryd.func33, Tryd.ntmps33
    go_wp2_with (first
      | (go_at_call 57; (with_reducible refine (expect_any _ _ _ _ (by omega) (by omega) _).mono ?_); rintro e w' ⟨rfl, rfl⟩))
    go_ret
    exact ⟨rfl, Below.refl _ _⟩

theorem read_u8 (g o c : Nat) (l : List UInt8) (hl : l.length = 1) (w : World) (hr : Rd w 1 (.slice (some ⟨g, o, none⟩) 1 c) 1 (byteCells l)) :
    Calls Tryd.prog 34 #[.slice (some ⟨g, o, none⟩) 1 c] w fun e w' => e = .returned (.int .u8 (Lib.leNat l)) ∧ Below w.heap.size w w' := by
  have hc := rd_cell hr hl
  match l, hl with
  | [b], _ =>
    have h0 : w.cell? ⟨g, o, none⟩ = some (.int .u8 b.toNat) := hc 0 (by simp)
    have e : Lib.leNat [b] = b.toNat := by simp [Lib.leNat]
    have hb := UInt8.toNat_lt b
    rw [e]
    clear e hc hr
    generalize b.toNat = x at *
    go_enter Tryd.func34, Tryd.ntmps34
    go_wp2_with (first
      | (go_at_call 57; (with_reducible refine (expect_any _ _ _ _ (by omega) (by omega) _).mono ?_); rintro e w' ⟨rfl, rfl⟩))
    go_ret
    exact ⟨rfl, Below.refl _ _⟩

theorem read_i16 (g o c : Nat) (l : List UInt8) (hl : l.length = 2) (w : World) (hr : Rd w 1 (.slice (some ⟨g, o, none⟩) 2 c) 2 (byteCells l)) :
    Calls Tryd.prog 35 #[.slice (some ⟨g, o, none⟩) 2 c] w fun e w' => e = .returned (.int .i16 (IntKind.i16.wrap (Lib.leNat l))) ∧ Below w.heap.size w w' := by
  have hx := leNat_lt l
  rw [hl] at hx
  have hx2 : Lib.leNat l < 65536 := hx
  clear hx
  have HP := Lib.hid (fun W (hW : Dr w W) => get2 g o c l hl W (rd_dr hr hW))
  clear hr hl
  generalize Lib.leNat l = x at *
  go_enter Tryd.func35, Tryd.ntmps35
  go_wp2_with (first
    | (go_at_call 57; (with_reducible refine (expect_any _ _ _ _ (by omega) (by omega) _).mono ?_); rintro e w' ⟨rfl, rfl⟩)
    | (go_at_call 61; (with_reducible refine (HP.out _ (by first | exact Dr.refl _ | exact (Dr.refl _).drew | exact (Dr.refl _).drew.drew | exact (Dr.refl _).drewN _)).mono ?_); rintro e w2 ⟨rfl, HS⟩; have HS2 := Lib.hid (below_dr (by first | exact Dr.refl _ | exact (Dr.refl _).drew | exact (Dr.refl _).drew.drew | exact (Dr.refl _).drewN _) HS); clear HS))
  go_ret
  exact ⟨rfl, HS2.out⟩

theorem read_u16 (g o c : Nat) (l : List UInt8) (hl : l.length = 2) (w : World) (hr : Rd w 1 (.slice (some ⟨g, o, none⟩) 2 c) 2 (byteCells l)) :
    Calls Tryd.prog 36 #[.slice (some ⟨g, o, none⟩) 2 c] w fun e w' => e = .returned (.int .u16 (Lib.leNat l)) ∧ Below w.heap.size w w' := by
  have hx := leNat_lt l
  rw [hl] at hx
  have hx2 : Lib.leNat l < 65536 := hx
  clear hx
  have HP := Lib.hid (fun W (hW : Dr w W) => get2 g o c l hl W (rd_dr hr hW))
  clear hr hl
  generalize Lib.leNat l = x at *
  go_enter Tryd.func36, Tryd.ntmps36
  go_wp2_with (first
    | (go_at_call 57; (with_reducible refine (expect_any _ _ _ _ (by omega) (by omega) _).mono ?_); rintro e w' ⟨rfl, rfl⟩)
    | (go_at_call 61; (with_reducible refine (HP.out _ (by first | exact Dr.refl _ | exact (Dr.refl _).drew | exact (Dr.refl _).drew.drew | exact (Dr.refl _).drewN _)).mono ?_); rintro e w2 ⟨rfl, HS⟩; have HS2 := Lib.hid (below_dr (by first | exact Dr.refl _ | exact (Dr.refl _).drew | exact (Dr.refl _).drew.drew | exact (Dr.refl _).drewN _) HS); clear HS))
  go_ret
  exact ⟨rfl, HS2.out⟩

theorem read_i32 (g o c : Nat) (l : List UInt8) (hl : l.length = 4) (w : World) (hr : Rd w 1 (.slice (some ⟨g, o, none⟩) 4 c) 4 (byteCells l)) :
    Calls Tryd.prog 39 #[.slice (some ⟨g, o, none⟩) 4 c] w fun e w' => e = .returned (.int .i32 (wrap32 (Lib.leNat l))) ∧ Below w.heap.size w w' := by
  have hx := leNat_lt l
  rw [hl] at hx
  have hx2 : Lib.leNat l < 4294967296 := hx
  clear hx
  have HP := Lib.hid (fun W (hW : Dr w W) => get4 g o c l hl W (rd_dr hr hW))
  clear hr hl
  generalize Lib.leNat l = x at *
  go_enter Tryd.func39, Tryd.ntmps39
  go_wp2_with (first
    | (go_at_call 57; (with_reducible refine (expect_any _ _ _ _ (by omega) (by omega) _).mono ?_); rintro e w' ⟨rfl, rfl⟩)
    | (go_at_call 62; (with_reducible refine (HP.out _ (by first | exact Dr.refl _ | exact (Dr.refl _).drew | exact (Dr.refl _).drew.drew | exact (Dr.refl _).drewN _)).mono ?_); rintro e w2 ⟨rfl, HS⟩; have HS2 := Lib.hid (below_dr (by first | exact Dr.refl _ | exact (Dr.refl _).drew | exact (Dr.refl _).drew.drew | exact (Dr.refl _).drewN _) HS); clear HS))
  go_ret
  exact ⟨rfl, HS2.out⟩

theorem read_u32 (g o c : Nat) (l : List UInt8) (hl : l.length = 4) (w : World) (hr : Rd w 1 (.slice (some ⟨g, o, none⟩) 4 c) 4 (byteCells l)) :
    Calls Tryd.prog 40 #[.slice (some ⟨g, o, none⟩) 4 c] w fun e w' => e = .returned (.int .u32 (Lib.leNat l)) ∧ Below w.heap.size w w' := by
  have hx := leNat_lt l
  rw [hl] at hx
  have hx2 : Lib.leNat l < 4294967296 := hx
  clear hx
  have HP := Lib.hid (fun W (hW : Dr w W) => get4 g o c l hl W (rd_dr hr hW))
  clear hr hl
  generalize Lib.leNat l = x at *
  go_enter Tryd.func40, Tryd.ntmps40
  go_wp2_with (first
    | (go_at_call 57; (with_reducible refine (expect_any _ _ _ _ (by omega) (by omega) _).mono ?_); rintro e w' ⟨rfl, rfl⟩)
    | (go_at_call 62; (with_reducible refine (HP.out _ (by first | exact Dr.refl _ | exact (Dr.refl _).drew | exact (Dr.refl _).drew.drew | exact (Dr.refl _).drewN _)).mono ?_); rintro e w2 ⟨rfl, HS⟩; have HS2 := Lib.hid (below_dr (by first | exact Dr.refl _ | exact (Dr.refl _).drew | exact (Dr.refl _).drew.drew | exact (Dr.refl _).drewN _) HS); clear HS))
  go_ret
  exact ⟨rfl, HS2.out⟩

theorem read_i64 (g o c : Nat) (l : List UInt8) (hl : l.length = 8) (w : World) (hr : Rd w 1 (.slice (some ⟨g, o, none⟩) 8 c) 8 (byteCells l)) :
    Calls Tryd.prog 41 #[.slice (some ⟨g, o, none⟩) 8 c] w fun e w' => e = .returned (.int .i64 (wrap64 (Lib.leNat l))) ∧ Below w.heap.size w w' := by
  have hx := leNat_lt l
  rw [hl] at hx
  have hx2 : Lib.leNat l < 18446744073709551616 := hx
  clear hx
  have HP := Lib.hid (fun W (hW : Dr w W) => get8 g o c l hl W (rd_dr hr hW))
  clear hr hl
  generalize Lib.leNat l = x at *
  go_enter Tryd.func41, Tryd.ntmps41
  go_wp2_with (first
    | (go_at_call 57; (with_reducible refine (expect_any _ _ _ _ (by omega) (by omega) _).mono ?_); rintro e w' ⟨rfl, rfl⟩)
    | (go_at_call 63; (with_reducible refine (HP.out _ (by first | exact Dr.refl _ | exact (Dr.refl _).drew | exact (Dr.refl _).drew.drew | exact (Dr.refl _).drewN _)).mono ?_); rintro e w2 ⟨rfl, HS⟩; have HS2 := Lib.hid (below_dr (by first | exact Dr.refl _ | exact (Dr.refl _).drew | exact (Dr.refl _).drew.drew | exact (Dr.refl _).drewN _) HS); clear HS))
  go_ret
  exact ⟨rfl, HS2.out⟩

theorem read_u64 (g o c : Nat) (l : List UInt8) (hl : l.length = 8) (w : World) (hr : Rd w 1 (.slice (some ⟨g, o, none⟩) 8 c) 8 (byteCells l)) :
    Calls Tryd.prog 42 #[.slice (some ⟨g, o, none⟩) 8 c] w fun e w' => e = .returned (.int .u64 (Lib.leNat l)) ∧ Below w.heap.size w w' := by
  have hx := leNat_lt l
  rw [hl] at hx
  have hx2 : Lib.leNat l < 18446744073709551616 := hx
  clear hx
  have HP := Lib.hid (fun W (hW : Dr w W) => get8 g o c l hl W (rd_dr hr hW))
  clear hr hl
  generalize Lib.leNat l = x at *
  go_enter Tryd.func42, Tryd.ntmps42
  go_wp2_with (first
    | (go_at_call 57; (with_reducible refine (expect_any _ _ _ _ (by omega) (by omega) _).mono ?_); rintro e w' ⟨rfl, rfl⟩)
    | (go_at_call 63; (with_reducible refine (HP.out _ (by first | exact Dr.refl _ | exact (Dr.refl _).drew | exact (Dr.refl _).drew.drew | exact (Dr.refl _).drewN _)).mono ?_); rintro e w2 ⟨rfl, HS⟩; have HS2 := Lib.hid (below_dr (by first | exact Dr.refl _ | exact (Dr.refl _).drew | exact (Dr.refl _).drew.drew | exact (Dr.refl _).drewN _) HS); clear HS))
  go_ret
  exact ⟨rfl, HS2.out⟩

theorem read_f32 (g o c : Nat) (l : List UInt8) (hl : l.length = 4) (w : World) (hr : Rd w 1 (.slice (some ⟨g, o, none⟩) 4 c) 4 (byteCells l)) :
    Calls Tryd.prog 44 #[.slice (some ⟨g, o, none⟩) 4 c] w fun e w' => e = .returned (.float .f32 (Lib.leNat l)) ∧ Below w.heap.size w w' := by
  have hx := leNat_lt l
  have hf : ∀ W, (callFunc 27 #[.int .u32 (Lib.leNat l)]).run Tryd.prog W = .ok (.value (.float .f32 (Lib.leNat l))) W := fun W => by kernel_rfl
  have HP := Lib.hid (fun W (hW : Dr w W) => read_u32 g o c l hl W (rd_dr hr hW))
  clear hr
  go_enter Tryd.func44, Tryd.ntmps44
  go_wp2_with (first
    | (go_at_call 57; (with_reducible refine (expect_any _ _ _ _ (by omega) (by omega) _).mono ?_); rintro e w' ⟨rfl, rfl⟩)
    | (go_at_call 40; (with_reducible refine (HP.out _ (by first | exact Dr.refl _ | exact (Dr.refl _).drew | exact (Dr.refl _).drew.drew | exact (Dr.refl _).drewN _)).mono ?_); rintro e w2 ⟨rfl, HS⟩; have HS2 := Lib.hid (below_dr (by first | exact Dr.refl _ | exact (Dr.refl _).drew | exact (Dr.refl _).drew.drew | exact (Dr.refl _).drewN _) HS); clear HS))
  go_ret
  exact ⟨rfl, HS2.out⟩

theorem read_f64 (g o c : Nat) (l : List UInt8) (hl : l.length = 8) (w : World) (hr : Rd w 1 (.slice (some ⟨g, o, none⟩) 8 c) 8 (byteCells l)) :
    Calls Tryd.prog 46 #[.slice (some ⟨g, o, none⟩) 8 c] w fun e w' => e = .returned (.float .f64 (Lib.leNat l)) ∧ Below w.heap.size w w' := by
  have hx := leNat_lt l
  have hf : ∀ W, (callFunc 29 #[.int .u64 (Lib.leNat l)]).run Tryd.prog W = .ok (.value (.float .f64 (Lib.leNat l))) W := fun W => by kernel_rfl
  have HP := Lib.hid (fun W (hW : Dr w W) => read_u64 g o c l hl W (rd_dr hr hW))
  clear hr
  go_enter Tryd.func46, Tryd.ntmps46
  go_wp2_with (first
    | (go_at_call 57; (with_reducible refine (expect_any _ _ _ _ (by omega) (by omega) _).mono ?_); rintro e w' ⟨rfl, rfl⟩)
    | (go_at_call 42; (with_reducible refine (HP.out _ (by first | exact Dr.refl _ | exact (Dr.refl _).drew | exact (Dr.refl _).drew.drew | exact (Dr.refl _).drewN _)).mono ?_); rintro e w2 ⟨rfl, HS⟩; have HS2 := Lib.hid (below_dr (by first | exact Dr.refl _ | exact (Dr.refl _).drew | exact (Dr.refl _).drew.drew | exact (Dr.refl _).drewN _) HS); clear HS))
  go_ret
  exact ⟨rfl, HS2.out⟩

theorem read_48u64 (g o c : Nat) (l : List UInt8) (hl : l.length = 6) (w : World) (hr : Rd w 1 (.slice (some ⟨g, o, none⟩) 6 c) 6 (byteCells l)) :
    Calls Tryd.prog 48 #[.slice (some ⟨g, o, none⟩) 6 c] w fun e w' => e = .returned (.int .u64 (Lib.leNat l)) ∧ Below w.heap.size w w' := by
  have hc := rd_cell hr hl
  have hg := World.block_lt_of_cell? w _ (hc 0 (by omega))
  have hx := leNat_lt l
  rw [hl] at hx
  have hx2 : Lib.leNat l < 281474976710656 := hx
  match l, hl with
  | [b0, b1, b2, b3, b4, b5], _ =>
    have c0 : w.cell? ⟨g, o, none⟩ = some (.int .u8 b0.toNat) := hc 0 (by simp)
    have c1 : w.cell? ⟨g, o + 1, none⟩ = some (.int .u8 b1.toNat) := hc 1 (by simp)
    have c2 : w.cell? ⟨g, o + 2, none⟩ = some (.int .u8 b2.toNat) := hc 2 (by simp)
    have c3 : w.cell? ⟨g, o + 3, none⟩ = some (.int .u8 b3.toNat) := hc 3 (by simp)
    have c4 : w.cell? ⟨g, o + 4, none⟩ = some (.int .u8 b4.toNat) := hc 4 (by simp)
    have c5 : w.cell? ⟨g, o + 5, none⟩ = some (.int .u8 b5.toNat) := hc 5 (by simp)
    have hg2 : g < w.heap.size := hg
    have HG := Lib.hid (fun W (hW : Dr (w.alloc (.cells #[.int .u8 b0.toNat, .int .u8 b1.toNat, .int .u8 b2.toNat, .int .u8 b3.toNat, .int .u8 b4.toNat, .int .u8 b5.toNat, .int .u8 0, .int .u8 0] 99)) W) => get8 w.heap.size 0 8 [b0, b1, b2, b3, b4, b5, 0, 0] rfl W (rd_dr (Rd.of_own (World.ownsRow_lit (base := w.heap.size) (e := 99) (size := 1) w #[.int .u8 b0.toNat, .int .u8 b1.toNat, .int .u8 b2.toNat, .int .u8 b3.toNat, .int .u8 b4.toNat, .int .u8 b5.toNat, .int .u8 0, .int .u8 0] 8 (Nat.le_refl _) (by simp [maxLen]) rfl)) hW))
    have e : Lib.leNat [b0, b1, b2, b3, b4, b5, 0, 0] = Lib.leNat [b0, b1, b2, b3, b4, b5] := by simp [Lib.leNat]
    rw [e] at HG
    clear e hc hr hg hx
    generalize Lib.leNat [b0, b1, b2, b3, b4, b5] = x at *
    have hwr : IntKind.i64.wrap (x : Int) = x := IntWalk.i64_in _ (by omega)
    go_enter Tryd.func48, Tryd.ntmps48
    go_wp2_with (first
      | (go_at_call 57; (with_reducible refine (expect_any _ _ _ _ (by omega) (by omega) _).mono ?_); rintro e w' ⟨rfl, rfl⟩))
    go_region
    all_goals go_wp2
    all_goals go_region
    all_goals go_wp2
    all_goals go_region
    all_goals go_wp2
    all_goals go_region_with (first | (go_at_call 63; (with_reducible refine (HG.out _ ((Dr.refl _).drewN _)).mono ?_); rintro e w2 ⟨rfl, HS⟩) | (go_at_call 63; (with_reducible refine (HG.out _ (Dr.refl _).drew.drew.drew.drew).mono ?_); rintro e w2 ⟨rfl, HS⟩))
    all_goals go_wp2
    all_goals go_ret
    all_goals exact ⟨rfl, ((Below.refl _ _).alloc (Nat.le_refl _) _).trans ((below_dr (Dr.refl _).drew.drew.drew.drew HS).mono (by simp))⟩

theorem read_48i64 (g o c : Nat) (l : List UInt8) (hl : l.length = 6) (w : World) (hr : Rd w 1 (.slice (some ⟨g, o, none⟩) 6 c) 6 (byteCells l)) :
    Calls Tryd.prog 47 #[.slice (some ⟨g, o, none⟩) 6 c] w fun e w' => e = .returned (.int .i64 (Lib.leNat l)) ∧ Below w.heap.size w w' := by
  have hc := rd_cell hr hl
  have hg := World.block_lt_of_cell? w _ (hc 0 (by omega))
  have hx := leNat_lt l
  rw [hl] at hx
  have hx2 : Lib.leNat l < 281474976710656 := hx
  match l, hl with
  | [b0, b1, b2, b3, b4, b5], _ =>
    have c0 : w.cell? ⟨g, o, none⟩ = some (.int .u8 b0.toNat) := hc 0 (by simp)
    have c1 : w.cell? ⟨g, o + 1, none⟩ = some (.int .u8 b1.toNat) := hc 1 (by simp)
    have c2 : w.cell? ⟨g, o + 2, none⟩ = some (.int .u8 b2.toNat) := hc 2 (by simp)
    have c3 : w.cell? ⟨g, o + 3, none⟩ = some (.int .u8 b3.toNat) := hc 3 (by simp)
    have c4 : w.cell? ⟨g, o + 4, none⟩ = some (.int .u8 b4.toNat) := hc 4 (by simp)
    have c5 : w.cell? ⟨g, o + 5, none⟩ = some (.int .u8 b5.toNat) := hc 5 (by simp)
    have hg2 : g < w.heap.size := hg
    have HG := Lib.hid (fun W (hW : Dr (w.alloc (.cells #[.int .u8 b0.toNat, .int .u8 b1.toNat, .int .u8 b2.toNat, .int .u8 b3.toNat, .int .u8 b4.toNat, .int .u8 b5.toNat, .int .u8 0, .int .u8 0] 99)) W) => get8 w.heap.size 0 8 [b0, b1, b2, b3, b4, b5, 0, 0] rfl W (rd_dr (Rd.of_own (World.ownsRow_lit (base := w.heap.size) (e := 99) (size := 1) w #[.int .u8 b0.toNat, .int .u8 b1.toNat, .int .u8 b2.toNat, .int .u8 b3.toNat, .int .u8 b4.toNat, .int .u8 b5.toNat, .int .u8 0, .int .u8 0] 8 (Nat.le_refl _) (by simp [maxLen]) rfl)) hW))
    have e : Lib.leNat [b0, b1, b2, b3, b4, b5, 0, 0] = Lib.leNat [b0, b1, b2, b3, b4, b5] := by simp [Lib.leNat]
    rw [e] at HG
    clear e hc hr hg hx
    generalize Lib.leNat [b0, b1, b2, b3, b4, b5] = x at *
    have hwr : IntKind.i64.wrap (x : Int) = x := IntWalk.i64_in _ (by omega)
    go_enter Tryd.func47, Tryd.ntmps47
    go_wp2_with (first
      | (go_at_call 57; (with_reducible refine (expect_any _ _ _ _ (by omega) (by omega) _).mono ?_); rintro e w' ⟨rfl, rfl⟩))
    go_region
    all_goals go_wp2
    all_goals go_region
    all_goals go_wp2
    all_goals go_region
    all_goals go_wp2
    all_goals go_region_with (first | (go_at_call 63; (with_reducible refine (HG.out _ ((Dr.refl _).drewN _)).mono ?_); rintro e w2 ⟨rfl, HS⟩) | (go_at_call 63; (with_reducible refine (HG.out _ (Dr.refl _).drew.drew.drew.drew).mono ?_); rintro e w2 ⟨rfl, HS⟩))
    all_goals go_wp2
    all_goals go_ret
    all_goals exact ⟨rfl, ((Below.refl _ _).alloc (Nat.le_refl _) _).trans ((below_dr (Dr.refl _).drew.drew.drew.drew HS).mono (by simp))⟩

end Go.Proofs.YtbcclblocagneaaDoor.Vl

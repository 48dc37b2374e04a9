/- The walks of the writers of numbers. Conditions: those written at each lemma. -/
import Derived.Test.YtbcclblocagneaaDoorVlb
import Derived.Test.YtbcclblocagneaaDoorShelf
import Derived.Laws.IdiomCopy
import Derived.Lib.EndianBits
set_option linter.unusedVariables false
set_option linter.unusedSimpArgs false
set_option maxRecDepth 100000
set_option maxHeartbeats 1000000
namespace Go.Proofs.YtbcclblocagneaaDoor.Vl
open Go.RowKit Go.Proofs.YtbcclblocagneaaDoor.B
open Go.Lib (byteCells toUInt8_mod)

/-- A buffer of the call's own: block g, n cells that may be written. -/
def Buf (w : World) (g n : Nat) : Prop := g < w.heap.size ∧ ∀ j, j < n → (∃ x, w.cell? ⟨g, j, none⟩ = some x) ∧ w.frozen? ⟨g, j, none⟩ = false
def Bs (w w' : World) (g n c : Nat) (l : List UInt8) : Prop := Rd w' 1 (.slice (some ⟨g, 0, none⟩) n c) n (byteCells l) ∧ ∀ B, B ≤ g → Below B w w'

theorem expect_any (A : Option Addr) (n c : Nat) (m : Int) (hm : (n : Int) = m) (hn : n ≤ 8) (w : World) : Calls Tryd.prog 57 #[.slice A n c, .int .u16 m] w fun e w' => e = .returned (.tuple #[]) ∧ w = w' := by
  have e : IntKind.u16.wrap (n : Int) = n := wraps_u16 _ (by omega) (by omega)
  subst hm
  go_enter Tryd.func57, Tryd.ntmps57
  go_wp2
  go_end0
  exact ⟨rfl, rfl⟩

theorem bs_put {w : World} {g n c u : Nat} (hb : Buf w g n) (hc : n ≤ c) (hm : c ≤ 1000) (h0 : 0 < n) (t : TypeId) : Bs w ((w.alloc (.cells #[] t)).setCells g 0 (byteCells (Lib.leBytes n u))) g n c (Lib.leBytes n u) := by
  have hlen : (byteCells (Lib.leBytes n u)).length = n := by rw [Lib.byteCells_length, Lib.leBytes_length]
  have hbe : ∀ B, B ≤ g → Below B w ((w.alloc (.cells #[] t)).setCells g 0 (byteCells (Lib.leBytes n u))) := fun B hB =>
    ((Below.refl _ _).alloc (by have := hb.1; omega) _).trans (Lib.below_setCells_w hB _ _ _)
  refine ⟨⟨by rw [hlen, Nat.mul_one], _, _, rfl, hc, by omega, fun _ => ⟨g, 0, rfl, ?_, ?_⟩⟩, hbe⟩
  · have h1 := (hbe 0 (Nat.zero_le _)).size
    have h2 := hb.1
    omega
  · intro j x hx
    have hj : j < (byteCells (Lib.leBytes n u)).length := by
      rcases Nat.lt_or_ge j (byteCells (Lib.leBytes n u)).length with h | h
      · exact h
      · rw [List.getElem?_eq_none h] at hx; cases hx
    rw [List.getElem?_eq_getElem hj] at hx
    rw [← hx]
    refine World.cell?_setCells_in g _ 0 _ (fun i hi => ?_) j hj
    obtain ⟨⟨y, hy⟩, _⟩ := hb.2 i (by omega)
    rw [show (0 : Nat) + i = i by omega, cell?_alloc_old _ hy]
    rfl

theorem bs_one {w : World} {g c u : Nat} (hu : u < 256) (hc : 1 ≤ c) (hm : c ≤ 1000) (hb : Buf w g 1) : Bs w (w.setCell ⟨g, 0, none⟩ (.int .u8 u)) g 1 c (Lib.leBytes 1 u) := by
  have hbe : ∀ B, B ≤ g → Below B w (w.setCell ⟨g, 0, none⟩ (.int .u8 u)) := fun B hB => (Below.refl _ _).setCell hB _
  obtain ⟨⟨y, hy⟩, _⟩ := hb.2 0 (by omega)
  have e : byteCells (Lib.leBytes 1 u) = [.int .u8 u] := by
    rw [cells_snoc]
    simp [Lib.leBytes, byteCells]
    omega
  refine ⟨⟨by rw [e]; rfl, _, _, rfl, hc, by omega, fun _ => ⟨g, 0, rfl, ?_, ?_⟩⟩, hbe⟩
  · have h1 := (hbe 0 (Nat.zero_le _)).size
    have h2 := hb.1
    omega
  · intro j x hx
    rw [e] at hx
    cases j with
    | zero => simp at hx; subst hx; exact World.cell?_setCell_same _ _ _ hy
    | succ j => simp at hx
theorem buf_dr {w W : World} {g n : Nat} (h : Buf w g n) (hd : Dr w W) : Buf W g n := by
  obtain ⟨k, rfl⟩ := hd
  exact h

theorem bs_dr {w W w' : World} {g n c : Nat} {l : List UInt8} (hd : Dr w W) (h : Bs W w' g n c l) : Bs w w' g n c l := ⟨h.1, fun B hB => (hd.below B).trans (h.2 B hB)⟩

theorem put2 (g c u : Nat) (hu : u < 65536) (hc : 2 ≤ c) (hm : c ≤ 1000) (w : World) (hb : Buf w g 2) :
    Calls Tryd.prog 58 #[.agg #[], .slice (some ⟨g, 0, none⟩) 2 c, .int .u16 u] w fun e w' => e = .returned (.tuple #[]) ∧ Bs w w' g 2 c (Lib.leBytes 2 u) := by
  obtain ⟨⟨x0, c0⟩, f0⟩ := hb.2 0 (by omega)
  obtain ⟨⟨x1, c1⟩, f1⟩ := hb.2 1 (by omega)
  refine (Tryd.binary_LE_PutUint16 g 0 2 c u hu x0 x1 w (by omega) c0 c1 f0 f1).mono ?_
  rintro e w' ⟨rfl, rfl⟩
  exact ⟨rfl, bs_put hb hc hm (by omega) _⟩

theorem put4 (g c u : Nat) (hu : u < 4294967296) (hc : 4 ≤ c) (hm : c ≤ 1000) (w : World) (hb : Buf w g 4) :
    Calls Tryd.prog 59 #[.agg #[], .slice (some ⟨g, 0, none⟩) 4 c, .int .u32 u] w fun e w' => e = .returned (.tuple #[]) ∧ Bs w w' g 4 c (Lib.leBytes 4 u) := by
  obtain ⟨⟨x0, c0⟩, f0⟩ := hb.2 0 (by omega)
  obtain ⟨⟨x1, c1⟩, f1⟩ := hb.2 1 (by omega)
  obtain ⟨⟨x2, c2⟩, f2⟩ := hb.2 2 (by omega)
  obtain ⟨⟨x3, c3⟩, f3⟩ := hb.2 3 (by omega)
  refine (Tryd.binary_LE_PutUint32 g 0 4 c u hu x0 x1 x2 x3 w (by omega) c0 c1 c2 c3 f0 f1 f2 f3).mono ?_
  rintro e w' ⟨rfl, rfl⟩
  exact ⟨rfl, bs_put hb hc hm (by omega) _⟩

theorem put8 (g c u : Nat) (hu : u < 18446744073709551616) (hc : 8 ≤ c) (hm : c ≤ 1000) (w : World) (hb : Buf w g 8) :
    Calls Tryd.prog 60 #[.agg #[], .slice (some ⟨g, 0, none⟩) 8 c, .int .u64 u] w fun e w' => e = .returned (.tuple #[]) ∧ Bs w w' g 8 c (Lib.leBytes 8 u) := by
  obtain ⟨⟨x0, c0⟩, f0⟩ := hb.2 0 (by omega)
  obtain ⟨⟨x1, c1⟩, f1⟩ := hb.2 1 (by omega)
  obtain ⟨⟨x2, c2⟩, f2⟩ := hb.2 2 (by omega)
  obtain ⟨⟨x3, c3⟩, f3⟩ := hb.2 3 (by omega)
  obtain ⟨⟨x4, c4⟩, f4⟩ := hb.2 4 (by omega)
  obtain ⟨⟨x5, c5⟩, f5⟩ := hb.2 5 (by omega)
  obtain ⟨⟨x6, c6⟩, f6⟩ := hb.2 6 (by omega)
  obtain ⟨⟨x7, c7⟩, f7⟩ := hb.2 7 (by omega)
  refine (Tryd.binary_LE_PutUint64 g 0 8 c u hu x0 x1 x2 x3 x4 x5 x6 x7 w (by omega) c0 c1 c2 c3 c4 c5 c6 c7 f0 f1 f2 f3 f4 f5 f6 f7).mono ?_
  rintro e w' ⟨rfl, rfl⟩
  exact ⟨rfl, bs_put hb hc hm (by omega) _⟩

theorem write_i8 (g c u : Nat) (z : Int) (hz : IntKind.u8.wrap z = u) (hu : u < 256) (hc : 1 ≤ c) (hm : c ≤ 1000) (w : World) (hb : Buf w g 1) :
    Calls Tryd.prog 16 #[.slice (some ⟨g, 0, none⟩) 1 c, .int .i8 z] w fun e w' => e = .returned (.slice (some ⟨g, 0, none⟩) 1 c) ∧ Bs w w' g 1 c (Lib.leBytes 1 u) := by
  obtain ⟨⟨x0, c0⟩, f0⟩ := hb.2 0 (by omega)
  have HB := Lib.hid hb
  clear hb
  go_enter Tryd.func16, Tryd.ntmps16
  go_wp2_with (first
    | (go_at_call 57; (with_reducible refine (expect_any _ _ _ _ (by omega) (by omega) _).mono ?_); rintro e w' ⟨rfl, rfl⟩))
  go_ret
  exact ⟨rfl, bs_one hu hc hm HB.out⟩

theorem write_u8 (g c u : Nat) (hu : u < 256) (hc : 1 ≤ c) (hm : c ≤ 1000) (w : World) (hb : Buf w g 1) :
    Calls Tryd.prog 17 #[.slice (some ⟨g, 0, none⟩) 1 c, .int .u8 u] w fun e w' => e = .returned (.slice (some ⟨g, 0, none⟩) 1 c) ∧ Bs w w' g 1 c (Lib.leBytes 1 u) := by
  obtain ⟨⟨x0, c0⟩, f0⟩ := hb.2 0 (by omega)
  have HB := Lib.hid hb
  clear hb
  go_enter Tryd.func17, Tryd.ntmps17
  go_wp2_with (first
    | (go_at_call 57; (with_reducible refine (expect_any _ _ _ _ (by omega) (by omega) _).mono ?_); rintro e w' ⟨rfl, rfl⟩))
  go_ret
  exact ⟨rfl, bs_one hu hc hm HB.out⟩

theorem write_i16 (g c u : Nat) (z : Int) (hz : IntKind.u16.wrap z = u) (hu : u < 65536) (hc : 2 ≤ c) (hm : c ≤ 1000) (w : World) (hb : Buf w g 2) :
    Calls Tryd.prog 18 #[.slice (some ⟨g, 0, none⟩) 2 c, .int .i16 z] w fun e w' => e = .returned (.slice (some ⟨g, 0, none⟩) 2 c) ∧ Bs w w' g 2 c (Lib.leBytes 2 u) := by
  have HP := Lib.hid (put2 g c u hu hc hm w hb)
  clear hb
  go_enter Tryd.func18, Tryd.ntmps18
  go_wp2_with (first
    | (go_at_call 57; (with_reducible refine (expect_any _ _ _ _ (by omega) (by omega) _).mono ?_); rintro e w' ⟨rfl, rfl⟩)
    | (go_at_call 58; (with_reducible refine HP.out.mono ?_); rintro e w' ⟨rfl, hS⟩; have HS := Lib.hid hS; clear hS))
  go_ret
  exact ⟨rfl, HS.out⟩

theorem write_u16 (g c u : Nat) (hu : u < 65536) (hc : 2 ≤ c) (hm : c ≤ 1000) (w : World) (hb : Buf w g 2) :
    Calls Tryd.prog 19 #[.slice (some ⟨g, 0, none⟩) 2 c, .int .u16 u] w fun e w' => e = .returned (.slice (some ⟨g, 0, none⟩) 2 c) ∧ Bs w w' g 2 c (Lib.leBytes 2 u) := by
  have HP := Lib.hid (put2 g c u hu hc hm w hb)
  clear hb
  go_enter Tryd.func19, Tryd.ntmps19
  go_wp2_with (first
    | (go_at_call 57; (with_reducible refine (expect_any _ _ _ _ (by omega) (by omega) _).mono ?_); rintro e w' ⟨rfl, rfl⟩)
    | (go_at_call 58; (with_reducible refine HP.out.mono ?_); rintro e w' ⟨rfl, hS⟩; have HS := Lib.hid hS; clear hS))
  go_ret
  exact ⟨rfl, HS.out⟩

theorem write_i32 (g c u : Nat) (z : Int) (hz : IntKind.u32.wrap z = u) (hu : u < 4294967296) (hc : 4 ≤ c) (hm : c ≤ 1000) (w : World) (hb : Buf w g 4) :
    Calls Tryd.prog 22 #[.slice (some ⟨g, 0, none⟩) 4 c, .int .i32 z] w fun e w' => e = .returned (.slice (some ⟨g, 0, none⟩) 4 c) ∧ Bs w w' g 4 c (Lib.leBytes 4 u) := by
  have HP := Lib.hid (put4 g c u hu hc hm w hb)
  clear hb
  go_enter Tryd.func22, Tryd.ntmps22
  go_wp2_with (first
    | (go_at_call 57; (with_reducible refine (expect_any _ _ _ _ (by omega) (by omega) _).mono ?_); rintro e w' ⟨rfl, rfl⟩)
    | (go_at_call 59; (with_reducible refine HP.out.mono ?_); rintro e w' ⟨rfl, hS⟩; have HS := Lib.hid hS; clear hS))
  go_ret
  exact ⟨rfl, HS.out⟩

theorem write_u32 (g c u : Nat) (hu : u < 4294967296) (hc : 4 ≤ c) (hm : c ≤ 1000) (w : World) (hb : Buf w g 4) :
    Calls Tryd.prog 23 #[.slice (some ⟨g, 0, none⟩) 4 c, .int .u32 u] w fun e w' => e = .returned (.slice (some ⟨g, 0, none⟩) 4 c) ∧ Bs w w' g 4 c (Lib.leBytes 4 u) := by
  have HP := Lib.hid (put4 g c u hu hc hm w hb)
  clear hb
  go_enter Tryd.func23, Tryd.ntmps23
  go_wp2_with (first
    | (go_at_call 57; (with_reducible refine (expect_any _ _ _ _ (by omega) (by omega) _).mono ?_); rintro e w' ⟨rfl, rfl⟩)
    | (go_at_call 59; (with_reducible refine HP.out.mono ?_); rintro e w' ⟨rfl, hS⟩; have HS := Lib.hid hS; clear hS))
  go_ret
  exact ⟨rfl, HS.out⟩

theorem write_i64 (g c u : Nat) (z : Int) (hz : IntKind.u64.wrap z = u) (hu : u < 18446744073709551616) (hc : 8 ≤ c) (hm : c ≤ 1000) (w : World) (hb : Buf w g 8) :
    Calls Tryd.prog 24 #[.slice (some ⟨g, 0, none⟩) 8 c, .int .i64 z] w fun e w' => e = .returned (.slice (some ⟨g, 0, none⟩) 8 c) ∧ Bs w w' g 8 c (Lib.leBytes 8 u) := by
  have HP := Lib.hid (put8 g c u hu hc hm w hb)
  clear hb
  go_enter Tryd.func24, Tryd.ntmps24
  go_wp2_with (first
    | (go_at_call 57; (with_reducible refine (expect_any _ _ _ _ (by omega) (by omega) _).mono ?_); rintro e w' ⟨rfl, rfl⟩)
    | (go_at_call 60; (with_reducible refine HP.out.mono ?_); rintro e w' ⟨rfl, hS⟩; have HS := Lib.hid hS; clear hS))
  go_ret
  exact ⟨rfl, HS.out⟩

theorem write_u64 (g c u : Nat) (hu : u < 18446744073709551616) (hc : 8 ≤ c) (hm : c ≤ 1000) (w : World) (hb : Buf w g 8) :
    Calls Tryd.prog 25 #[.slice (some ⟨g, 0, none⟩) 8 c, .int .u64 u] w fun e w' => e = .returned (.slice (some ⟨g, 0, none⟩) 8 c) ∧ Bs w w' g 8 c (Lib.leBytes 8 u) := by
  have HP := Lib.hid (put8 g c u hu hc hm w hb)
  clear hb
  go_enter Tryd.func25, Tryd.ntmps25
  go_wp2_with (first
    | (go_at_call 57; (with_reducible refine (expect_any _ _ _ _ (by omega) (by omega) _).mono ?_); rintro e w' ⟨rfl, rfl⟩)
    | (go_at_call 60; (with_reducible refine HP.out.mono ?_); rintro e w' ⟨rfl, hS⟩; have HS := Lib.hid hS; clear hS))
  go_ret
  exact ⟨rfl, HS.out⟩

theorem write_f32 (g c u : Nat) (hu : u < 4294967296) (hc : 4 ≤ c) (hm : c ≤ 1000) (w : World) (hb : Buf w g 4) :
    Calls Tryd.prog 26 #[.slice (some ⟨g, 0, none⟩) 4 c, .float .f32 u] w fun e w' => e = .returned (.slice (some ⟨g, 0, none⟩) 4 c) ∧ Bs w w' g 4 c (Lib.leBytes 4 u) := by
  have hf : ∀ W, (callFunc 43 #[.float .f32 u]).run Tryd.prog W = .ok (.value (.int .u32 u)) W := fun W => by kernel_rfl
  have HP := Lib.hid (fun W (hW : Dr w W) => put4 g c u hu hc hm W (buf_dr hb hW))
  clear hb
  go_enter Tryd.func26, Tryd.ntmps26
  go_wp2_with (first
    | (go_at_call 57; (with_reducible refine (expect_any _ _ _ _ (by omega) (by omega) _).mono ?_); rintro e w' ⟨rfl, rfl⟩))
  go_region_with (first | (go_at_call 59; (with_reducible refine (HP.out _ (by first | exact Dr.refl _ | exact (Dr.refl _).drew | exact (Dr.refl _).drew.drew | exact (Dr.refl _).drewN _)).mono ?_); rintro e w' ⟨rfl, HS⟩))
  all_goals
    go_wp2
    go_ret
    exact ⟨rfl, bs_dr (Dr.refl _).drew HS⟩

theorem write_f64 (g c u : Nat) (hu : u < 18446744073709551616) (hc : 8 ≤ c) (hm : c ≤ 1000) (w : World) (hb : Buf w g 8) :
    Calls Tryd.prog 28 #[.slice (some ⟨g, 0, none⟩) 8 c, .float .f64 u] w fun e w' => e = .returned (.slice (some ⟨g, 0, none⟩) 8 c) ∧ Bs w w' g 8 c (Lib.leBytes 8 u) := by
  have hf : ∀ W, (callFunc 45 #[.float .f64 u]).run Tryd.prog W = .ok (.value (.int .u64 u)) W := fun W => by kernel_rfl
  have HP := Lib.hid (fun W (hW : Dr w W) => put8 g c u hu hc hm W (buf_dr hb hW))
  clear hb
  go_enter Tryd.func28, Tryd.ntmps28
  go_wp2_with (first
    | (go_at_call 57; (with_reducible refine (expect_any _ _ _ _ (by omega) (by omega) _).mono ?_); rintro e w' ⟨rfl, rfl⟩))
  go_region_with (first | (go_at_call 60; (with_reducible refine (HP.out _ (by first | exact Dr.refl _ | exact (Dr.refl _).drew | exact (Dr.refl _).drew.drew | exact (Dr.refl _).drewN _)).mono ?_); rintro e w' ⟨rfl, HS⟩))
  all_goals
    go_wp2
    go_ret
    exact ⟨rfl, bs_dr (Dr.refl _).drew HS⟩

theorem write_48 (g c u : Nat) (hu : u < 281474976710656) (hc : 6 ≤ c) (hm : c ≤ 1000) (w : World) (hb : Buf w g 6) :
    Calls Tryd.prog 30 #[.slice (some ⟨g, 0, none⟩) 6 c, .int .u64 u] w fun e w' => e = .returned (.slice (some ⟨g, 0, none⟩) 6 c) ∧ Bs w w' g 6 c (Lib.leBytes 6 u) := by
  have hg := hb.1
  obtain ⟨b0, b1, b2, b3, b4, b5, b6, b7, hB8, hB6⟩ : ∃ b0 b1 b2 b3 b4 b5 b6 b7, Lib.leBytes 8 u = [b0, b1, b2, b3, b4, b5, b6, b7] ∧ Lib.leBytes 6 u = [b0, b1, b2, b3, b4, b5] := ⟨_, _, _, _, _, _, _, _, rfl, rfl⟩
  have HP := Lib.hid (fun W (hW : Dr (w.alloc (.cells #[.int .u8 0, .int .u8 0, .int .u8 0, .int .u8 0, .int .u8 0, .int .u8 0, .int .u8 0, .int .u8 0] 99)) W) => put8 w.heap.size 8 u (by omega) (by omega) (by omega) W (buf_dr ⟨by simp, fun j hj => ⟨by
      have h : j = 0 ∨ j = 1 ∨ j = 2 ∨ j = 3 ∨ j = 4 ∨ j = 5 ∨ j = 6 ∨ j = 7 := by omega
      rcases h with rfl | rfl | rfl | rfl | rfl | rfl | rfl | rfl <;> exact ⟨_, World.cell?_alloc_at _ _ _ _ rfl⟩, World.frozen?_alloc_at _ _ _ _ rfl⟩⟩ hW))
  have HB := Lib.hid hb
  have H6 := Lib.hid hB6
  rw [hB8] at HP
  clear hb hB8 hB6
  go_enter Tryd.func30, Tryd.ntmps30
  go_wp2_with (first
    | (go_at_call 57; (with_reducible refine (expect_any _ _ _ _ (by omega) (by omega) _).mono ?_); rintro e w' ⟨rfl, rfl⟩))
  go_region_with (first | (go_at_call 60; (with_reducible refine (HP.out _ (by first | exact Dr.refl _ | exact (Dr.refl _).drew | exact (Dr.refl _).drew.drew | exact (Dr.refl _).drewN _)).mono ?_); rintro e w2 ⟨rfl, HS⟩))
  have hbel := HS.2 w.heap.size (Nat.le_refl _)
  have hws := hbel.size
  simp at hws
  obtain ⟨_, _, _, hv, _, _, hcc⟩ := HS.1
  injection hv with hv _ _
  subst hv
  obtain ⟨_, _, hA, hbz, hcells⟩ := hcc (by omega)
  injection hA with hA
  injection hA with hA1 hA2
  subst hA1
  subst hA2
  have t0 : w2.cell? ⟨w.heap.size, 0, none⟩ = some (.int .u8 b0.toNat) := hcells 0 _ rfl
  have t1 : w2.cell? ⟨w.heap.size, 1, none⟩ = some (.int .u8 b1.toNat) := hcells 1 _ rfl
  have t2 : w2.cell? ⟨w.heap.size, 2, none⟩ = some (.int .u8 b2.toNat) := hcells 2 _ rfl
  have t3 : w2.cell? ⟨w.heap.size, 3, none⟩ = some (.int .u8 b3.toNat) := hcells 3 _ rfl
  have t4 : w2.cell? ⟨w.heap.size, 4, none⟩ = some (.int .u8 b4.toNat) := hcells 4 _ rfl
  have t5 : w2.cell? ⟨w.heap.size, 5, none⟩ = some (.int .u8 b5.toNat) := hcells 5 _ rfl
  have hbw : Below w.heap.size w w2 := ((Below.refl _ _).alloc (Nat.le_refl _) _).trans (((Dr.refl _).drew.below _).trans hbel)
  have hq : ∀ j, j < 6 → (∃ x, w2.cell? ⟨g, j, none⟩ = some x) ∧ w2.frozen? ⟨g, j, none⟩ = false := fun j hj => by
    obtain ⟨⟨x, h1⟩, h2⟩ := HB.out.2 j hj
    exact ⟨⟨x, (hbw.cell (p := ⟨g, j, none⟩) hg).trans h1⟩, (hbw.frozen (p := ⟨g, j, none⟩) hg).trans h2⟩
  obtain ⟨⟨x0, c0⟩, f0⟩ := hq 0 (by omega)
  obtain ⟨⟨x1, c1⟩, f1⟩ := hq 1 (by omega)
  obtain ⟨⟨x2, c2⟩, f2⟩ := hq 2 (by omega)
  obtain ⟨⟨x3, c3⟩, f3⟩ := hq 3 (by omega)
  obtain ⟨⟨x4, c4⟩, f4⟩ := hq 4 (by omega)
  obtain ⟨⟨x5, c5⟩, f5⟩ := hq 5 (by omega)
  clear hq hcc hcells HS
  have HW := Lib.hid hbw
  clear hbw hbel
  go_wp2
  go_ret
  refine ⟨rfl, ?_⟩
  have hbe : ∀ B, B ≤ g → Below B w2 ((((((w2.setCell ⟨g, 5, none⟩ (.int .u8 b5.toNat)).setCell ⟨g, 4, none⟩ (.int .u8 b4.toNat)).setCell ⟨g, 3, none⟩ (.int .u8 b3.toNat)).setCell ⟨g, 2, none⟩ (.int .u8 b2.toNat)).setCell ⟨g, 1, none⟩ (.int .u8 b1.toNat)).setCell ⟨g, 0, none⟩ (.int .u8 b0.toNat)) := fun B hB =>
    ((((((Below.refl _ _).setCell hB _).setCell hB _).setCell hB _).setCell hB _).setCell hB _).setCell hB _
  rw [H6.out]
  refine ⟨⟨rfl, _, _, rfl, hc, by omega, fun _ => ⟨g, 0, rfl, ?_, ?_⟩⟩, fun B hB => (HW.out.mono (by omega)).trans (hbe B hB)⟩
  · have := (hbe 0 (Nat.zero_le _)).size
    omega
  · intro j x hx
    have h : j = 0 ∨ j = 1 ∨ j = 2 ∨ j = 3 ∨ j = 4 ∨ j = 5 ∨ 6 ≤ j := by omega
    rcases h with rfl | rfl | rfl | rfl | rfl | rfl | h
    rotate_right
    · rw [List.getElem?_eq_none (by simpa [byteCells] using h)] at hx; cases hx
    all_goals simp [byteCells] at hx
    all_goals try subst hx
    all_goals go_simp

end Go.Proofs.YtbcclblocagneaaDoor.Vl

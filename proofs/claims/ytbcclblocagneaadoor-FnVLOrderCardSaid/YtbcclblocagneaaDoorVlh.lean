/- The walks of the comparisons of written numbers. Conditions: those written at each lemma. -/
import Derived.Test.YtbcclblocagneaaDoorVlg
set_option linter.unusedVariables false
set_option linter.unusedSimpArgs false
set_option maxRecDepth 100000
set_option maxHeartbeats 1000000
namespace Go.Proofs.YtbcclblocagneaaDoor.Vl
open Go.RowKit Go.Proofs.YtbcclblocagneaaDoor.B
open Go.Lib (byteCells toUInt8_mod)

/-- Two numbers compared. -/
def cmpI (a b : Int) : Int := if a = b then 0 else if a < b then -1 else 1
theorem cmpI_same (a : Int) : cmpI a a = 0 := by simp [cmpI]
theorem cmpI_turn (a b : Int) : cmpI b a = -cmpI a b := by
  unfold cmpI
  by_cases h : a = b
  · rw [if_pos h, if_pos h.symm]; rfl
  · rw [if_neg h, if_neg (Ne.symm h)]
    split <;> split <;> omega
theorem cmpI_bd (a b : Int) : -1 ≤ cmpI a b ∧ cmpI a b ≤ 1 := by
  unfold cmpI
  split
  · omega
  · split <;> omega
theorem nil_ne (b o n c : Nat) (W : World) : (binOp .eql 24 (.slice (some ⟨b, o, none⟩) n c) (.slice none 0 0)).run Tryd.prog W = .ok (.bool false) W := by kernel_rfl
theorem sign_any (z : Int) (h1 : -1 ≤ z) (h2 : z ≤ 1) (w : World) : Calls Tryd.prog 11 #[.int .i64 z] w fun e w' => e = .returned (.int .i64 z) ∧ w = w' := by
  have h : z = -1 ∨ z = 0 ∨ z = 1 := by omega
  rcases h with rfl | rfl | rfl
  all_goals
    go_enter Tryd.func11, Tryd.ntmps11
    go_wp2
    go_ret
    exact ⟨rfl, rfl⟩
theorem less_any (b : Bool) (w : World) : Calls Tryd.prog 51 #[.bool b] w fun e w' => e = .returned (.int .i64 (if b then -1 else 1)) ∧ w = w' := by
  cases b
  all_goals
    go_enter Tryd.func51, Tryd.ntmps51
    go_wp2
    go_ret
    exact ⟨rfl, rfl⟩
/-- The reference's comparison. -/
def specCmp (k : Nat) (x y : Int) : Int := if x = y then 0 else if sgn k then (if wrap64 x < wrap64 y then -1 else 1) else (if x < y then -1 else 1)
theorem spec_any (k : Nat) (hk : k < 15) (x y : Nat) (w : World) : Calls Tryd.prog 13 #[.int .i64 k, .int .u64 x, .int .u64 y] w fun e w' => e = .returned (.int .i64 (specCmp k x y)) ∧ w = w' := by
  have SG := Lib.hid (fun W => signed_any k hk W)
  obtain ⟨z, hz⟩ : ∃ z, z = specCmp k x y := ⟨_, rfl⟩
  rw [← hz]
  unfold specCmp at hz
  rcases bq (x : Int) y with ⟨h1, h2, h3⟩ | ⟨h1, h2, h3⟩
  · rw [if_pos h3] at hz
    subst hz
    clear h3
    go_enter Tryd.func13, Tryd.ntmps13
    go_wp2
    go_ret
    exact ⟨rfl, rfl⟩
  · rw [if_neg h3] at hz
    clear h3
    rcases Bool.eq_false_or_eq_true (sgn k) with hs | hs
    · have SG1 := Lib.hid (fun W => by have h := SG.out W; rw [hs] at h; exact h)
      rw [if_pos hs] at hz
      have HZ := Lib.hid hz
      have LS := Lib.hid (fun W => less_any (decide (wrap64 (x : Int) < wrap64 (y : Int))) W)
      clear SG hs hz
      go_enter Tryd.func13, Tryd.ntmps13
      go_wp2_with (first
        | (go_at_call 50; (with_reducible refine (SG1.out _).mono ?_); rintro e w1 ⟨rfl, rfl⟩)
        | (go_at_call 51; (with_reducible refine (LS.out _).mono ?_); rintro e w1 ⟨rfl, rfl⟩))
      all_goals
        go_ret
        exact ⟨ret_int (by rw [HZ.out]; first | rw [if_pos (by omega)] | rw [if_neg (by omega)]), rfl⟩
    · have SG1 := Lib.hid (fun W => by have h := SG.out W; rw [hs] at h; exact h)
      rw [if_neg (by rw [hs]; simp)] at hz
      have HZ := Lib.hid hz
      have LS := Lib.hid (fun W => less_any (decide (x < y)) W)
      clear SG hs hz
      go_enter Tryd.func13, Tryd.ntmps13
      go_wp2_with (first
        | (go_at_call 50; (with_reducible refine (SG1.out _).mono ?_); rintro e w1 ⟨rfl, rfl⟩)
        | (go_at_call 51; (with_reducible refine (LS.out _).mono ?_); rintro e w1 ⟨rfl, rfl⟩))
      all_goals
        go_ret
        exact ⟨ret_int (by rw [HZ.out]; first | rw [if_pos (by omega)] | rw [if_neg (by omega)]), rfl⟩
theorem cmp_i8 (a b : Int) (w : World) : Calls Tryd.prog 68 #[.int .i8 a, .int .i8 b] w fun e w' => e = .returned (.int .i64 (cmpI a b)) ∧ w = w' := by
  obtain ⟨z, hz⟩ : ∃ z, z = cmpI a b := ⟨_, rfl⟩
  rw [← hz]
  unfold cmpI at hz
  rcases bq a b with ⟨h1, h2, h3⟩ | ⟨h1, h2, h3⟩
  · rw [if_pos h3] at hz
    subst hz
    clear h3
    go_enter Tryd.func68, Tryd.ntmps68
    go_wp2
    go_ret
    exact ⟨rfl, rfl⟩
  · rw [if_neg h3] at hz
    clear h3
    by_cases h : a < b
    · rw [if_pos h] at hz
      subst hz
      go_enter Tryd.func68, Tryd.ntmps68
      go_wp2
      go_ret
      exact ⟨rfl, rfl⟩
    · rw [if_neg h] at hz
      subst hz
      go_enter Tryd.func68, Tryd.ntmps68
      go_wp2
      go_ret
      exact ⟨rfl, rfl⟩
theorem compare_1 (l m : List UInt8) (hl : l.length = 1) (hm : m.length = 1) (g h : Nat) (w : World) (hr : Rd w 1 (.slice (some ⟨g, 0, none⟩) 1 1) 1 (byteCells l)) (hs : Rd w 1 (.slice (some ⟨h, 0, none⟩) 1 1) 1 (byteCells m)) :
    Calls Tryd.prog 64 #[.agg #[.int .u8 1, .int .u16 0, .bool false], .slice (some ⟨g, 0, none⟩) 1 1, .slice (some ⟨h, 0, none⟩) 1 1] w fun e w' => e = .returned (.int .i64 (cmpI (IntKind.i8.wrap (Lib.leNat l : Nat)) (IntKind.i8.wrap (Lib.leNat m : Nat)))) ∧ Below w.heap.size w w' := by
  have RL := Lib.hid (fun W (hW : Below w.heap.size w W) => read_i8 g 0 1 l hl W (hr.below hW))
  have RM := Lib.hid (fun W (hW : Below w.heap.size w W) => read_i8 h 0 1 m hm W (hs.below hW))
  have hb0 : Below w.heap.size w (w.alloc (.cells #[.int .u8 1, .int .u16 0, .bool false] 76)) := (Below.refl _ _).alloc (Nat.le_refl _) _
  have n1 := nil_ne g 0 1 1
  have n2 := nil_ne h 0 1 1
  clear hr hs hl hm
  go_enter Tryd.func64, Tryd.ntmps64
  go_wp2_with (first
    | (go_at_call 33; (with_reducible refine (RL.out _ hb0).mono ?_); rintro e w1 ⟨rfl, hb1⟩; have hb01 := hb0.trans (hb1.mono hb0.size); clear hb1 RL)
    | (go_at_call 33; (with_reducible refine (RM.out _ hb01).mono ?_); rintro e w2 ⟨rfl, hb2⟩; have hb02 := hb01.trans (hb2.mono hb01.size); clear hb2)
    | (go_at_call 68; (with_reducible refine (cmp_i8 _ _ _).mono ?_); rintro e w3 ⟨rfl, rfl⟩))
  go_ret
  exact ⟨rfl, hb02⟩
theorem cmp_u8 (a b : Int) (w : World) : Calls Tryd.prog 69 #[.int .u8 a, .int .u8 b] w fun e w' => e = .returned (.int .i64 (cmpI a b)) ∧ w = w' := by
  obtain ⟨z, hz⟩ : ∃ z, z = cmpI a b := ⟨_, rfl⟩
  rw [← hz]
  unfold cmpI at hz
  rcases bq a b with ⟨h1, h2, h3⟩ | ⟨h1, h2, h3⟩
  · rw [if_pos h3] at hz
    subst hz
    clear h3
    go_enter Tryd.func69, Tryd.ntmps69
    go_wp2
    go_ret
    exact ⟨rfl, rfl⟩
  · rw [if_neg h3] at hz
    clear h3
    by_cases h : a < b
    · rw [if_pos h] at hz
      subst hz
      go_enter Tryd.func69, Tryd.ntmps69
      go_wp2
      go_ret
      exact ⟨rfl, rfl⟩
    · rw [if_neg h] at hz
      subst hz
      go_enter Tryd.func69, Tryd.ntmps69
      go_wp2
      go_ret
      exact ⟨rfl, rfl⟩
theorem compare_2 (l m : List UInt8) (hl : l.length = 1) (hm : m.length = 1) (g h : Nat) (w : World) (hr : Rd w 1 (.slice (some ⟨g, 0, none⟩) 1 1) 1 (byteCells l)) (hs : Rd w 1 (.slice (some ⟨h, 0, none⟩) 1 1) 1 (byteCells m)) :
    Calls Tryd.prog 64 #[.agg #[.int .u8 2, .int .u16 0, .bool false], .slice (some ⟨g, 0, none⟩) 1 1, .slice (some ⟨h, 0, none⟩) 1 1] w fun e w' => e = .returned (.int .i64 (cmpI (Lib.leNat l : Nat) (Lib.leNat m : Nat))) ∧ Below w.heap.size w w' := by
  have RL := Lib.hid (fun W (hW : Below w.heap.size w W) => read_u8 g 0 1 l hl W (hr.below hW))
  have RM := Lib.hid (fun W (hW : Below w.heap.size w W) => read_u8 h 0 1 m hm W (hs.below hW))
  have hb0 : Below w.heap.size w (w.alloc (.cells #[.int .u8 2, .int .u16 0, .bool false] 76)) := (Below.refl _ _).alloc (Nat.le_refl _) _
  have n1 := nil_ne g 0 1 1
  have n2 := nil_ne h 0 1 1
  clear hr hs hl hm
  go_enter Tryd.func64, Tryd.ntmps64
  go_wp2_with (first
    | (go_at_call 34; (with_reducible refine (RL.out _ hb0).mono ?_); rintro e w1 ⟨rfl, hb1⟩; have hb01 := hb0.trans (hb1.mono hb0.size); clear hb1 RL)
    | (go_at_call 34; (with_reducible refine (RM.out _ hb01).mono ?_); rintro e w2 ⟨rfl, hb2⟩; have hb02 := hb01.trans (hb2.mono hb01.size); clear hb2)
    | (go_at_call 69; (with_reducible refine (cmp_u8 _ _ _).mono ?_); rintro e w3 ⟨rfl, rfl⟩))
  go_ret
  exact ⟨rfl, hb02⟩
theorem cmp_i16 (a b : Int) (w : World) : Calls Tryd.prog 70 #[.int .i16 a, .int .i16 b] w fun e w' => e = .returned (.int .i64 (cmpI a b)) ∧ w = w' := by
  obtain ⟨z, hz⟩ : ∃ z, z = cmpI a b := ⟨_, rfl⟩
  rw [← hz]
  unfold cmpI at hz
  rcases bq a b with ⟨h1, h2, h3⟩ | ⟨h1, h2, h3⟩
  · rw [if_pos h3] at hz
    subst hz
    clear h3
    go_enter Tryd.func70, Tryd.ntmps70
    go_wp2
    go_ret
    exact ⟨rfl, rfl⟩
  · rw [if_neg h3] at hz
    clear h3
    by_cases h : a < b
    · rw [if_pos h] at hz
      subst hz
      go_enter Tryd.func70, Tryd.ntmps70
      go_wp2
      go_ret
      exact ⟨rfl, rfl⟩
    · rw [if_neg h] at hz
      subst hz
      go_enter Tryd.func70, Tryd.ntmps70
      go_wp2
      go_ret
      exact ⟨rfl, rfl⟩
theorem compare_3 (l m : List UInt8) (hl : l.length = 2) (hm : m.length = 2) (g h : Nat) (w : World) (hr : Rd w 1 (.slice (some ⟨g, 0, none⟩) 2 2) 2 (byteCells l)) (hs : Rd w 1 (.slice (some ⟨h, 0, none⟩) 2 2) 2 (byteCells m)) :
    Calls Tryd.prog 64 #[.agg #[.int .u8 3, .int .u16 0, .bool false], .slice (some ⟨g, 0, none⟩) 2 2, .slice (some ⟨h, 0, none⟩) 2 2] w fun e w' => e = .returned (.int .i64 (cmpI (IntKind.i16.wrap (Lib.leNat l : Nat)) (IntKind.i16.wrap (Lib.leNat m : Nat)))) ∧ Below w.heap.size w w' := by
  have RL := Lib.hid (fun W (hW : Below w.heap.size w W) => read_i16 g 0 2 l hl W (hr.below hW))
  have RM := Lib.hid (fun W (hW : Below w.heap.size w W) => read_i16 h 0 2 m hm W (hs.below hW))
  have hb0 : Below w.heap.size w (w.alloc (.cells #[.int .u8 3, .int .u16 0, .bool false] 76)) := (Below.refl _ _).alloc (Nat.le_refl _) _
  have n1 := nil_ne g 0 2 2
  have n2 := nil_ne h 0 2 2
  clear hr hs hl hm
  go_enter Tryd.func64, Tryd.ntmps64
  go_wp2_with (first
    | (go_at_call 35; (with_reducible refine (RL.out _ hb0).mono ?_); rintro e w1 ⟨rfl, hb1⟩; have hb01 := hb0.trans (hb1.mono hb0.size); clear hb1 RL)
    | (go_at_call 35; (with_reducible refine (RM.out _ hb01).mono ?_); rintro e w2 ⟨rfl, hb2⟩; have hb02 := hb01.trans (hb2.mono hb01.size); clear hb2)
    | (go_at_call 70; (with_reducible refine (cmp_i16 _ _ _).mono ?_); rintro e w3 ⟨rfl, rfl⟩))
  go_ret
  exact ⟨rfl, hb02⟩
theorem cmp_u16 (a b : Int) (w : World) : Calls Tryd.prog 71 #[.int .u16 a, .int .u16 b] w fun e w' => e = .returned (.int .i64 (cmpI a b)) ∧ w = w' := by
  obtain ⟨z, hz⟩ : ∃ z, z = cmpI a b := ⟨_, rfl⟩
  rw [← hz]
  unfold cmpI at hz
  rcases bq a b with ⟨h1, h2, h3⟩ | ⟨h1, h2, h3⟩
  · rw [if_pos h3] at hz
    subst hz
    clear h3
    go_enter Tryd.func71, Tryd.ntmps71
    go_wp2
    go_ret
    exact ⟨rfl, rfl⟩
  · rw [if_neg h3] at hz
    clear h3
    by_cases h : a < b
    · rw [if_pos h] at hz
      subst hz
      go_enter Tryd.func71, Tryd.ntmps71
      go_wp2
      go_ret
      exact ⟨rfl, rfl⟩
    · rw [if_neg h] at hz
      subst hz
      go_enter Tryd.func71, Tryd.ntmps71
      go_wp2
      go_ret
      exact ⟨rfl, rfl⟩
theorem compare_4 (l m : List UInt8) (hl : l.length = 2) (hm : m.length = 2) (g h : Nat) (w : World) (hr : Rd w 1 (.slice (some ⟨g, 0, none⟩) 2 2) 2 (byteCells l)) (hs : Rd w 1 (.slice (some ⟨h, 0, none⟩) 2 2) 2 (byteCells m)) :
    Calls Tryd.prog 64 #[.agg #[.int .u8 4, .int .u16 0, .bool false], .slice (some ⟨g, 0, none⟩) 2 2, .slice (some ⟨h, 0, none⟩) 2 2] w fun e w' => e = .returned (.int .i64 (cmpI (Lib.leNat l : Nat) (Lib.leNat m : Nat))) ∧ Below w.heap.size w w' := by
  have RL := Lib.hid (fun W (hW : Below w.heap.size w W) => read_u16 g 0 2 l hl W (hr.below hW))
  have RM := Lib.hid (fun W (hW : Below w.heap.size w W) => read_u16 h 0 2 m hm W (hs.below hW))
  have hb0 : Below w.heap.size w (w.alloc (.cells #[.int .u8 4, .int .u16 0, .bool false] 76)) := (Below.refl _ _).alloc (Nat.le_refl _) _
  have n1 := nil_ne g 0 2 2
  have n2 := nil_ne h 0 2 2
  clear hr hs hl hm
  go_enter Tryd.func64, Tryd.ntmps64
  go_wp2_with (first
    | (go_at_call 36; (with_reducible refine (RL.out _ hb0).mono ?_); rintro e w1 ⟨rfl, hb1⟩; have hb01 := hb0.trans (hb1.mono hb0.size); clear hb1 RL)
    | (go_at_call 36; (with_reducible refine (RM.out _ hb01).mono ?_); rintro e w2 ⟨rfl, hb2⟩; have hb02 := hb01.trans (hb2.mono hb01.size); clear hb2)
    | (go_at_call 71; (with_reducible refine (cmp_u16 _ _ _).mono ?_); rintro e w3 ⟨rfl, rfl⟩))
  go_ret
  exact ⟨rfl, hb02⟩
theorem cmp_i32 (a b : Int) (w : World) : Calls Tryd.prog 72 #[.int .i32 a, .int .i32 b] w fun e w' => e = .returned (.int .i64 (cmpI a b)) ∧ w = w' := by
  obtain ⟨z, hz⟩ : ∃ z, z = cmpI a b := ⟨_, rfl⟩
  rw [← hz]
  unfold cmpI at hz
  rcases bq a b with ⟨h1, h2, h3⟩ | ⟨h1, h2, h3⟩
  · rw [if_pos h3] at hz
    subst hz
    clear h3
    go_enter Tryd.func72, Tryd.ntmps72
    go_wp2
    go_ret
    exact ⟨rfl, rfl⟩
  · rw [if_neg h3] at hz
    clear h3
    by_cases h : a < b
    · rw [if_pos h] at hz
      subst hz
      go_enter Tryd.func72, Tryd.ntmps72
      go_wp2
      go_ret
      exact ⟨rfl, rfl⟩
    · rw [if_neg h] at hz
      subst hz
      go_enter Tryd.func72, Tryd.ntmps72
      go_wp2
      go_ret
      exact ⟨rfl, rfl⟩
theorem compare_7 (l m : List UInt8) (hl : l.length = 4) (hm : m.length = 4) (g h : Nat) (w : World) (hr : Rd w 1 (.slice (some ⟨g, 0, none⟩) 4 4) 4 (byteCells l)) (hs : Rd w 1 (.slice (some ⟨h, 0, none⟩) 4 4) 4 (byteCells m)) :
    Calls Tryd.prog 64 #[.agg #[.int .u8 7, .int .u16 0, .bool false], .slice (some ⟨g, 0, none⟩) 4 4, .slice (some ⟨h, 0, none⟩) 4 4] w fun e w' => e = .returned (.int .i64 (cmpI (wrap32 (Lib.leNat l : Nat)) (wrap32 (Lib.leNat m : Nat)))) ∧ Below w.heap.size w w' := by
  have RL := Lib.hid (fun W (hW : Below w.heap.size w W) => read_i32 g 0 4 l hl W (hr.below hW))
  have RM := Lib.hid (fun W (hW : Below w.heap.size w W) => read_i32 h 0 4 m hm W (hs.below hW))
  have hb0 : Below w.heap.size w (w.alloc (.cells #[.int .u8 7, .int .u16 0, .bool false] 76)) := (Below.refl _ _).alloc (Nat.le_refl _) _
  have n1 := nil_ne g 0 4 4
  have n2 := nil_ne h 0 4 4
  clear hr hs hl hm
  go_enter Tryd.func64, Tryd.ntmps64
  go_wp2_with (first
    | (go_at_call 39; (with_reducible refine (RL.out _ hb0).mono ?_); rintro e w1 ⟨rfl, hb1⟩; have hb01 := hb0.trans (hb1.mono hb0.size); clear hb1 RL)
    | (go_at_call 39; (with_reducible refine (RM.out _ hb01).mono ?_); rintro e w2 ⟨rfl, hb2⟩; have hb02 := hb01.trans (hb2.mono hb01.size); clear hb2)
    | (go_at_call 72; (with_reducible refine (cmp_i32 _ _ _).mono ?_); rintro e w3 ⟨rfl, rfl⟩))
  go_ret
  exact ⟨rfl, hb02⟩
theorem cmp_u32 (a b : Int) (w : World) : Calls Tryd.prog 73 #[.int .u32 a, .int .u32 b] w fun e w' => e = .returned (.int .i64 (cmpI a b)) ∧ w = w' := by
  obtain ⟨z, hz⟩ : ∃ z, z = cmpI a b := ⟨_, rfl⟩
  rw [← hz]
  unfold cmpI at hz
  rcases bq a b with ⟨h1, h2, h3⟩ | ⟨h1, h2, h3⟩
  · rw [if_pos h3] at hz
    subst hz
    clear h3
    go_enter Tryd.func73, Tryd.ntmps73
    go_wp2
    go_ret
    exact ⟨rfl, rfl⟩
  · rw [if_neg h3] at hz
    clear h3
    by_cases h : a < b
    · rw [if_pos h] at hz
      subst hz
      go_enter Tryd.func73, Tryd.ntmps73
      go_wp2
      go_ret
      exact ⟨rfl, rfl⟩
    · rw [if_neg h] at hz
      subst hz
      go_enter Tryd.func73, Tryd.ntmps73
      go_wp2
      go_ret
      exact ⟨rfl, rfl⟩
theorem compare_8 (l m : List UInt8) (hl : l.length = 4) (hm : m.length = 4) (g h : Nat) (w : World) (hr : Rd w 1 (.slice (some ⟨g, 0, none⟩) 4 4) 4 (byteCells l)) (hs : Rd w 1 (.slice (some ⟨h, 0, none⟩) 4 4) 4 (byteCells m)) :
    Calls Tryd.prog 64 #[.agg #[.int .u8 8, .int .u16 0, .bool false], .slice (some ⟨g, 0, none⟩) 4 4, .slice (some ⟨h, 0, none⟩) 4 4] w fun e w' => e = .returned (.int .i64 (cmpI (Lib.leNat l : Nat) (Lib.leNat m : Nat))) ∧ Below w.heap.size w w' := by
  have RL := Lib.hid (fun W (hW : Below w.heap.size w W) => read_u32 g 0 4 l hl W (hr.below hW))
  have RM := Lib.hid (fun W (hW : Below w.heap.size w W) => read_u32 h 0 4 m hm W (hs.below hW))
  have hb0 : Below w.heap.size w (w.alloc (.cells #[.int .u8 8, .int .u16 0, .bool false] 76)) := (Below.refl _ _).alloc (Nat.le_refl _) _
  have n1 := nil_ne g 0 4 4
  have n2 := nil_ne h 0 4 4
  clear hr hs hl hm
  go_enter Tryd.func64, Tryd.ntmps64
  go_wp2_with (first
    | (go_at_call 40; (with_reducible refine (RL.out _ hb0).mono ?_); rintro e w1 ⟨rfl, hb1⟩; have hb01 := hb0.trans (hb1.mono hb0.size); clear hb1 RL)
    | (go_at_call 40; (with_reducible refine (RM.out _ hb01).mono ?_); rintro e w2 ⟨rfl, hb2⟩; have hb02 := hb01.trans (hb2.mono hb01.size); clear hb2)
    | (go_at_call 73; (with_reducible refine (cmp_u32 _ _ _).mono ?_); rintro e w3 ⟨rfl, rfl⟩))
  go_ret
  exact ⟨rfl, hb02⟩
theorem cmp_i64 (a b : Int) (w : World) : Calls Tryd.prog 74 #[.int .i64 a, .int .i64 b] w fun e w' => e = .returned (.int .i64 (cmpI a b)) ∧ w = w' := by
  obtain ⟨z, hz⟩ : ∃ z, z = cmpI a b := ⟨_, rfl⟩
  rw [← hz]
  unfold cmpI at hz
  rcases bq a b with ⟨h1, h2, h3⟩ | ⟨h1, h2, h3⟩
  · rw [if_pos h3] at hz
    subst hz
    clear h3
    go_enter Tryd.func74, Tryd.ntmps74
    go_wp2
    go_ret
    exact ⟨rfl, rfl⟩
  · rw [if_neg h3] at hz
    clear h3
    by_cases h : a < b
    · rw [if_pos h] at hz
      subst hz
      go_enter Tryd.func74, Tryd.ntmps74
      go_wp2
      go_ret
      exact ⟨rfl, rfl⟩
    · rw [if_neg h] at hz
      subst hz
      go_enter Tryd.func74, Tryd.ntmps74
      go_wp2
      go_ret
      exact ⟨rfl, rfl⟩
theorem compare_9 (l m : List UInt8) (hl : l.length = 8) (hm : m.length = 8) (g h : Nat) (w : World) (hr : Rd w 1 (.slice (some ⟨g, 0, none⟩) 8 8) 8 (byteCells l)) (hs : Rd w 1 (.slice (some ⟨h, 0, none⟩) 8 8) 8 (byteCells m)) :
    Calls Tryd.prog 64 #[.agg #[.int .u8 9, .int .u16 0, .bool false], .slice (some ⟨g, 0, none⟩) 8 8, .slice (some ⟨h, 0, none⟩) 8 8] w fun e w' => e = .returned (.int .i64 (cmpI (wrap64 (Lib.leNat l : Nat)) (wrap64 (Lib.leNat m : Nat)))) ∧ Below w.heap.size w w' := by
  have RL := Lib.hid (fun W (hW : Below w.heap.size w W) => read_i64 g 0 8 l hl W (hr.below hW))
  have RM := Lib.hid (fun W (hW : Below w.heap.size w W) => read_i64 h 0 8 m hm W (hs.below hW))
  have hb0 : Below w.heap.size w (w.alloc (.cells #[.int .u8 9, .int .u16 0, .bool false] 76)) := (Below.refl _ _).alloc (Nat.le_refl _) _
  have n1 := nil_ne g 0 8 8
  have n2 := nil_ne h 0 8 8
  clear hr hs hl hm
  go_enter Tryd.func64, Tryd.ntmps64
  go_wp2_with (first
    | (go_at_call 41; (with_reducible refine (RL.out _ hb0).mono ?_); rintro e w1 ⟨rfl, hb1⟩; have hb01 := hb0.trans (hb1.mono hb0.size); clear hb1 RL)
    | (go_at_call 41; (with_reducible refine (RM.out _ hb01).mono ?_); rintro e w2 ⟨rfl, hb2⟩; have hb02 := hb01.trans (hb2.mono hb01.size); clear hb2)
    | (go_at_call 74; (with_reducible refine (cmp_i64 _ _ _).mono ?_); rintro e w3 ⟨rfl, rfl⟩))
  go_ret
  exact ⟨rfl, hb02⟩
theorem cmp_u64 (a b : Int) (w : World) : Calls Tryd.prog 75 #[.int .u64 a, .int .u64 b] w fun e w' => e = .returned (.int .i64 (cmpI a b)) ∧ w = w' := by
  obtain ⟨z, hz⟩ : ∃ z, z = cmpI a b := ⟨_, rfl⟩
  rw [← hz]
  unfold cmpI at hz
  rcases bq a b with ⟨h1, h2, h3⟩ | ⟨h1, h2, h3⟩
  · rw [if_pos h3] at hz
    subst hz
    clear h3
    go_enter Tryd.func75, Tryd.ntmps75
    go_wp2
    go_ret
    exact ⟨rfl, rfl⟩
  · rw [if_neg h3] at hz
    clear h3
    by_cases h : a < b
    · rw [if_pos h] at hz
      subst hz
      go_enter Tryd.func75, Tryd.ntmps75
      go_wp2
      go_ret
      exact ⟨rfl, rfl⟩
    · rw [if_neg h] at hz
      subst hz
      go_enter Tryd.func75, Tryd.ntmps75
      go_wp2
      go_ret
      exact ⟨rfl, rfl⟩
theorem compare_10 (l m : List UInt8) (hl : l.length = 8) (hm : m.length = 8) (g h : Nat) (w : World) (hr : Rd w 1 (.slice (some ⟨g, 0, none⟩) 8 8) 8 (byteCells l)) (hs : Rd w 1 (.slice (some ⟨h, 0, none⟩) 8 8) 8 (byteCells m)) :
    Calls Tryd.prog 64 #[.agg #[.int .u8 10, .int .u16 0, .bool false], .slice (some ⟨g, 0, none⟩) 8 8, .slice (some ⟨h, 0, none⟩) 8 8] w fun e w' => e = .returned (.int .i64 (cmpI (Lib.leNat l : Nat) (Lib.leNat m : Nat))) ∧ Below w.heap.size w w' := by
  have RL := Lib.hid (fun W (hW : Below w.heap.size w W) => read_u64 g 0 8 l hl W (hr.below hW))
  have RM := Lib.hid (fun W (hW : Below w.heap.size w W) => read_u64 h 0 8 m hm W (hs.below hW))
  have hb0 : Below w.heap.size w (w.alloc (.cells #[.int .u8 10, .int .u16 0, .bool false] 76)) := (Below.refl _ _).alloc (Nat.le_refl _) _
  have n1 := nil_ne g 0 8 8
  have n2 := nil_ne h 0 8 8
  clear hr hs hl hm
  go_enter Tryd.func64, Tryd.ntmps64
  go_wp2_with (first
    | (go_at_call 42; (with_reducible refine (RL.out _ hb0).mono ?_); rintro e w1 ⟨rfl, hb1⟩; have hb01 := hb0.trans (hb1.mono hb0.size); clear hb1 RL)
    | (go_at_call 42; (with_reducible refine (RM.out _ hb01).mono ?_); rintro e w2 ⟨rfl, hb2⟩; have hb02 := hb01.trans (hb2.mono hb01.size); clear hb2)
    | (go_at_call 75; (with_reducible refine (cmp_u64 _ _ _).mono ?_); rintro e w3 ⟨rfl, rfl⟩))
  go_ret
  exact ⟨rfl, hb02⟩

end Go.Proofs.YtbcclblocagneaaDoor.Vl

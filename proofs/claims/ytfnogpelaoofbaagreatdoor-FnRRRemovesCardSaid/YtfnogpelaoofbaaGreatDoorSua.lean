/- Lists of ranges and of places in memory; the reference's ascending lists. Conditions: those written at each lemma. -/
import Derived.Test.YtfnogpelaoofbaaGreatDoorOvg
import Derived.Test.YtfnogpelaoofbaaGreatDoorBx
set_option linter.unusedVariables false
set_option linter.unusedSimpArgs false
set_option maxRecDepth 100000
set_option maxHeartbeats 4000000
namespace Go.Proofs.YtfnogpelaoofbaaGreatDoor.Rg
open Go.RowKit Go.Proofs.YtfnogpelaoofbaaGreatDoor.B Go.Proofs.YtfnogpelaoofbaaGreatDoor.Sp

abbrev nums (xs : List Int) : List Value := xs.map (Value.int .i64)
theorem take_snocA {α : Type} (l : List α) (k : Nat) (h : k < l.length) : l.take (k + 1) = l.take k ++ [l[k]] := List.take_succ_eq_append_getElem h
theorem rd_num {w : World} {A : Option Addr} {n c : Nat} {l : List Int} (h : Rd w 1 (.slice A n c) n (nums l)) (k : Nat) (hk : k < l.length) : ∃ b o, A = some ⟨b, o, none⟩ ∧ b < w.heap.size ∧ w.cell? ⟨b, o + k, none⟩ = some (.int .i64 l[k]) := by
  have hn : n = l.length := by have := h.len; simp at this; omega
  obtain ⟨b, o, c', hv, _, _, hb, hc⟩ := h.open (by omega)
  injection hv with e1 _ _
  refine ⟨b, o, e1, hb, hc k _ ?_⟩
  rw [List.getElem?_map, List.getElem?_eq_getElem hk]
  rfl
/-- The cells of a list of ranges. -/
def clc : List Cl → List Value
  | [] => []
  | c :: r => [.int .i64 c.a, .int .i64 c.x, .int .i64 c.b, .int .i64 c.y] ++ clc r
theorem clc_len : ∀ cs : List Cl, (clc cs).length = cs.length * 4
  | [] => rfl
  | c :: r => by rw [clc, List.length_append, clc_len r]; simp; omega
theorem clc_append : ∀ (cs ds : List Cl), clc (cs ++ ds) = clc cs ++ clc ds
  | [], _ => rfl
  | c :: r, ds => by rw [List.cons_append, clc, clc_append r ds, clc, List.append_assoc]
theorem clc_one (c : Cl) : clc [c] = [.int .i64 c.a, .int .i64 c.x, .int .i64 c.b, .int .i64 c.y] := rfl
theorem clc_get : ∀ (cs : List Cl) (k : Nat) (h : k < cs.length), (clc cs)[k * 4]? = some (.int .i64 cs[k].a) ∧ (clc cs)[k * 4 + 1]? = some (.int .i64 cs[k].x) ∧ (clc cs)[k * 4 + 2]? = some (.int .i64 cs[k].b) ∧ (clc cs)[k * 4 + 3]? = some (.int .i64 cs[k].y)
  | c :: r, 0, _ => ⟨rfl, rfl, rfl, rfl⟩
  | c :: r, k + 1, h => by
    have ih := clc_get r k (by simpa using h)
    have e : (k + 1) * 4 = k * 4 + 1 + 1 + 1 + 1 := by omega
    rw [clc, e]
    exact ih
theorem clc_one_cell : ∀ cs : List Cl, ∀ u ∈ clc cs, u.oneCell' = true
  | [], u, h => by cases h
  | c :: r, u, h => by
    rw [clc, List.mem_append] at h
    rcases h with h | h
    · simp at h
      rcases h with rfl | rfl | rfl | rfl <;> rfl
    · exact clc_one_cell r u h
/-- The range number k. -/
theorem rd_cl {w : World} {A : Option Addr} {n c : Nat} {l : List Cl} (h : Rd w 4 (.slice A n c) n (clc l)) (k : Nat) (hk : k < l.length) :
    ∃ b o, A = some ⟨b, o, none⟩ ∧ b < w.heap.size ∧ w.cell? ⟨b, o + k * 4, none⟩ = some (.int .i64 l[k].a) ∧ w.cell? ⟨b, o + k * 4 + 1, none⟩ = some (.int .i64 l[k].x) ∧ w.cell? ⟨b, o + k * 4 + 2, none⟩ = some (.int .i64 l[k].b) ∧ w.cell? ⟨b, o + k * 4 + 3, none⟩ = some (.int .i64 l[k].y) := by
  have hn : n = l.length := by have := h.len; rw [clc_len] at this; omega
  obtain ⟨b, o, c', hv, _, _, hb, hc⟩ := h.open (by omega)
  injection hv with e1 _ _
  obtain ⟨g0, g1, g2, g3⟩ := clc_get l k hk
  exact ⟨b, o, e1, hb, hc _ _ g0, hc _ _ g1, hc _ _ g2, hc _ _ g3⟩

/-! ### ascending lists -/
/-- What the reference appends, from some number on, where x is already there or not. -/
def putR (x : Int) : Bool → List Int → List Int
  | d, [] => if d then [] else [x]
  | d, y :: r => (if !d && decide (x ≤ y) then [x] else []) ++ ((if y ≠ x then [y] else []) ++ putR x (d || decide (x ≤ y)) r)
theorem putR_len (x : Int) : ∀ (d : Bool) (l : List Int), (putR x d l).length ≤ l.length + (if d then 0 else 1)
  | d, [] => by cases d <;> simp [putR]
  | d, y :: r => by
    have h := putR_len x (d || decide (x ≤ y)) r
    rw [putR]
    simp only [List.length_append, List.length_cons]
    cases d <;> by_cases h1 : x ≤ y <;> by_cases h2 : y = x <;> simp [h1, h2] at h ⊢ <;> omega
theorem putR_drop (x : Int) (d : Bool) (l : List Int) (k : Nat) (h : k < l.length) : putR x d (l.drop k) = (if !d && decide (x ≤ l[k]) then [x] else []) ++ ((if l[k] ≠ x then [l[k]] else []) ++ putR x (d || decide (x ≤ l[k])) (l.drop (k + 1))) := by
  rw [List.drop_eq_getElem_cons h, putR]
theorem info3 : (Tryz.prog.info? 3).map (fun i => (i.zero, i.size, i.bytes)) = some (some (.int .i64 0), 1, 8) := by kernel_rfl
theorem info27 : (Tryz.prog.info? 54).map (fun i => (i.zero, i.size, i.bytes)) = some (some (.agg #[.int .i64 0, .int .i64 0, .int .i64 0, .int .i64 0]), 4, 32) := by kernel_rfl
theorem info28 : (Tryz.prog.info? 22).map (fun i => (i.zero, i.size, i.bytes)) = some (some (.slice none 0 0), 1, 24) := by kernel_rfl
theorem isPut_own (va : Value) (l : List Int) (x : Int) (w : World) (hr : Rd w 1 va l.length (nums l)) (hl : l.length ≤ 100000) :
    Calls Tryz.prog 62 #[va, .int .i64 x] w fun e w' => ∃ v, e = .returned v ∧ w'.ownsRow w.heap.size 3 1 v (putR x false l).length (nums (putR x false l)) ∧ Below w.heap.size w w' := by
  obtain ⟨A, c, rfl, hlc, hcm⟩ := hr.shape
  have HR := Lib.hid hr
  clear hr
  go_enter Tryz.func62, Tryz.ntmps62
  go_wp2
  go_loopw [5, 6, 7] (fun v5 v6 v7 wr => ∃ (k : Nat) (d : Bool) (P : List Int), v7 = .int .i64 k ∧ k ≤ l.length ∧ v6 = .bool d ∧ P.length ≤ 2 * k ∧ Hid (putR x false l = P ++ putR x d (l.drop k)) ∧ Hid (wr.ownsRow w.heap.size 3 1 v5 P.length (nums P)) ∧ Below w.heap.size w wr) (fun _ _ v7 _ => (l.length - (intOf v7)).toNat)
  case atStart => exact ⟨0, false, [], rfl, Nat.zero_le _, rfl, by simp, Lib.hid (by simp), Lib.hid (World.ownsRow_nil _ _ _ _), Below.refl _ _⟩
  case round =>
    obtain ⟨k, d, P, rfl, hk, rfl, hP, HE, HO, hbel⟩ := hrel
    have hbs := hbel.size
    by_cases hlt : k < l.length
    · obtain ⟨b, o, rfl, hb, hc⟩ := rd_num HR.out k hlt
      have hcw : wr.cell? ⟨b, o + k, none⟩ = some (.int .i64 l[k]) := (hbel.cell (p := ⟨b, o + k, none⟩) hb).trans hc
      have HD := Lib.hid (putR_drop x d l k hlt)
      have HC := Lib.hid hc
      clear hc
      generalize l[k] = y at *
      have hno : ∀ (v : Bool) (W : World), (Op.unary .not (.bool v)).run Tryz.prog W = .ok (.bool (!v)) W := fun _ _ => rfl
      cases d with
      | false =>
        by_cases hxy : x ≤ y
        · rcases bq y x with ⟨h1, h2, h3⟩ | ⟨h1, h2, h3⟩
          · have HE1 : Hid (putR x false l = (P ++ [x]) ++ putR x true (l.drop (k + 1))) := Lib.hid (by rw [HE.out, HD.out]; simp [hxy, h3])
            clear h3 HE HD
            go_wp2_with (first
              | (at_builtin; refine app1 (w0 := w) w.heap.size rfl (.tmp 24) (.tmp 26) 41 3 (.int .i64 0) 1 8 rfl Tryz.underlying41 info3 rfl (by omega) (by omega) u5 _ _ _ rfl rfl rfl (one1 rfl) HO.out hbel hbs (by omega) ?_; intro v1 w1 hown1 hb1 _ _; have hbs1 := hb1.size; have HO1 := Lib.hid hown1; have hcw1 : w1.cell? ⟨b, o + k, none⟩ = some (.int .i64 y) := (hb1.cell (p := ⟨b, o + k, none⟩) hb).trans HC.out; clear hown1))
            go_roundw
            case rel => exact ⟨k + 1, true, P ++ [x], by go_num, by omega, rfl, by simp; omega, HE1, Lib.hid (by have h := HO1.out; simpa [nums] using h), hb1⟩
            case measure => simp [intOf]; omega
          · have HE1 : Hid (putR x false l = (P ++ [x, y]) ++ putR x true (l.drop (k + 1))) := Lib.hid (by rw [HE.out, HD.out]; simp [hxy, h3])
            clear h3 HE HD
            go_wp2_with (first
              | (at_builtin; refine app1 (w0 := w) w.heap.size rfl (.tmp 24) (.tmp 26) 41 3 (.int .i64 0) 1 8 rfl Tryz.underlying41 info3 rfl (by omega) (by omega) u5 _ _ _ rfl rfl rfl (one1 rfl) HO.out hbel hbs (by omega) ?_; intro v1 w1 hown1 hb1 _ _; have hbs1 := hb1.size; have HO1 := Lib.hid hown1; have hcw1 : w1.cell? ⟨b, o + k, none⟩ = some (.int .i64 y) := (hb1.cell (p := ⟨b, o + k, none⟩) hb).trans HC.out; clear hown1)
              | (at_builtin; refine app1 (w0 := w) w.heap.size rfl (.tmp 34) (.tmp 39) 41 3 (.int .i64 0) 1 8 rfl Tryz.underlying41 info3 rfl (by omega) (by omega) v1 _ _ _ rfl rfl rfl (one1 rfl) HO1.out hb1 hbs1 (by omega) ?_; intro v2 w2 hown2 hb2 _ _; have HO2 := Lib.hid hown2; clear hown2))
            go_roundw
            case rel => exact ⟨k + 1, true, P ++ [x, y], by go_num, by omega, rfl, by simp; omega, HE1, Lib.hid (by have h := HO2.out; simpa [nums] using h), hb2⟩
            case measure => simp [intOf]; omega
        · have h3 : ¬ y = x := by omega
          have h2 : (y != x) = true := by simpa using h3
          have HE1 : Hid (putR x false l = (P ++ [y]) ++ putR x false (l.drop (k + 1))) := Lib.hid (by rw [HE.out, HD.out]; simp [hxy, h3])
          clear h3 HE HD
          go_wp2_with (first
            | (at_builtin; refine app1 (w0 := w) w.heap.size rfl (.tmp 34) (.tmp 39) 41 3 (.int .i64 0) 1 8 rfl Tryz.underlying41 info3 rfl (by omega) (by omega) u5 _ _ _ rfl rfl rfl (one1 rfl) HO.out hbel hbs (by omega) ?_; intro v2 w2 hown2 hb2 _ _; have HO2 := Lib.hid hown2; clear hown2))
          go_roundw
          case rel => exact ⟨k + 1, false, P ++ [y], by go_num, by omega, rfl, by simp; omega, HE1, Lib.hid (by have h := HO2.out; simpa [nums] using h), hb2⟩
          case measure => simp [intOf]; omega
      | true =>
        rcases bq y x with ⟨h1, h2, h3⟩ | ⟨h1, h2, h3⟩
        · have HE1 : Hid (putR x false l = P ++ putR x true (l.drop (k + 1))) := Lib.hid (by rw [HE.out, HD.out]; simp [h3])
          clear h3 HE HD
          go_wp2
          go_roundw
          case rel => exact ⟨k + 1, true, P, by go_num, by omega, rfl, by omega, HE1, HO, hbel⟩
          case measure => simp [intOf]; omega
        · have HE1 : Hid (putR x false l = (P ++ [y]) ++ putR x true (l.drop (k + 1))) := Lib.hid (by rw [HE.out, HD.out]; simp [h3])
          clear h3 HE HD
          go_wp2_with (first
            | (at_builtin; refine app1 (w0 := w) w.heap.size rfl (.tmp 34) (.tmp 39) 41 3 (.int .i64 0) 1 8 rfl Tryz.underlying41 info3 rfl (by omega) (by omega) u5 _ _ _ rfl rfl rfl (one1 rfl) HO.out hbel hbs (by omega) ?_; intro v2 w2 hown2 hb2 _ _; have HO2 := Lib.hid hown2; clear hown2))
          go_roundw
          case rel => exact ⟨k + 1, true, P ++ [y], by go_num, by omega, rfl, by simp; omega, HE1, Lib.hid (by have h := HO2.out; simpa [nums] using h), hb2⟩
          case measure => simp [intOf]; omega
    · obtain rfl : k = l.length := by omega
      rw [List.drop_length] at HE
      have hno : ∀ (v : Bool) (W : World), (Op.unary .not (.bool v)).run Tryz.prog W = .ok (.bool (!v)) W := fun _ _ => rfl
      cases d with
      | false =>
        go_wp2_with (first
          | (at_builtin; refine app1 (w0 := w) w.heap.size rfl (.tmp 43) (.tmp 45) 41 3 (.int .i64 0) 1 8 rfl Tryz.underlying41 info3 rfl (by omega) (by omega) u5 _ _ _ rfl rfl rfl (one1 rfl) HO.out hbel hbs (by omega) ?_; intro v1 w1 hown1 hb1 _ _; have HO1 := Lib.hid hown1; clear hown1))
        go_ret
        exact ⟨_, rfl, by have h := HO1.out; rw [HE.out]; simpa [putR, nums] using h, hb1⟩
      | true =>
        go_wp2
        go_ret
        exact ⟨_, rfl, by have h := HO.out; rw [HE.out]; simpa [putR, nums] using h, hbel⟩
/-- One more number, or none. -/
theorem isPut_any (va : Value) (l : List Int) (x : Int) (w : World) (hr : Rd w 1 va l.length (nums l)) (hl : l.length ≤ 100000) :
    Calls Tryz.prog 62 #[va, .int .i64 x] w fun e w' => ∃ A c r, e = .returned (.slice A r.length c) ∧ Rd w' 1 (.slice A r.length c) r.length (nums r) ∧ r.length ≤ l.length + 1 ∧ Below w.heap.size w w' := by
  refine (isPut_own va l x w hr hl).mono ?_
  rintro e w' ⟨v, rfl, ho, hb⟩
  have h := Rd.of_own ho
  obtain ⟨A, c, rfl, _⟩ := h.shape
  exact ⟨A, c, _, rfl, h, by simpa using putR_len x false l, hb⟩
end Go.Proofs.YtfnogpelaoofbaaGreatDoor.Rg

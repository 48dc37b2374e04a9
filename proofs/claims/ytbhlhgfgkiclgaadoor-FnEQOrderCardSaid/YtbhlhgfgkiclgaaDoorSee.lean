/- The walks of the reference's lists: a number put in, whether it is there; a set of a list of numbers. Conditions: those written at each lemma. -/
import Derived.Test.YtbhlhgfgkiclgaaDoorSed
set_option linter.unusedVariables false
set_option linter.unusedSimpArgs false
set_option maxRecDepth 100000
set_option maxHeartbeats 2000000
namespace Go.Proofs.YtbhlhgfgkiclgaaDoor.Set
open Go.RowKit Go.Proofs.YtbhlhgfgkiclgaaDoor.B

theorem isHas_any (va : Value) (l : List Int) (x : Int) (w : World) (hr : Rd w 1 va l.length (nums l)) (hl : l.length ≤ 2147483647) :
    Calls Tryd.prog 10 #[va, .int .i64 x] w fun e w' => e = .returned (.bool (decide (x ∈ l))) ∧ w = w' := by
  obtain ⟨A, c, rfl, hlc, hcm⟩ := hr.shape
  have HR := Lib.hid hr
  clear hr
  go_enter Tryd.func10, Tryd.ntmps10
  go_wp2
  go_loop [5] (fun v5 => ∃ k : Nat, v5 = .int .i64 k ∧ k ≤ l.length ∧ Hid (x ∉ l.take k)) (fun v5 => (l.length - (intOf v5)).toNat)
  case atStart => exact ⟨0, rfl, Nat.zero_le _, Lib.hid (by simp)⟩
  case round =>
    obtain ⟨k, rfl, hk, HX⟩ := hrel
    by_cases hlt : k < l.length
    · obtain ⟨b, o, rfl, hb, hc⟩ := rd_num HR.out k hlt
      have HS := Lib.hid (take_snoc l k hlt)
      have HM := Lib.hid (List.getElem_mem hlt)
      generalize l[k] = y at *
      rcases bq y x with ⟨h1, h2, h3⟩ | ⟨h1, h2, h3⟩
      · subst h3
        go_wp2
        go_ret
        exact ⟨ret_bool (by rw [decide_eq_true HM.out]), rfl⟩
      · have HN : Hid (x ∉ l.take (k + 1)) := Lib.hid (by rw [HS.out, List.mem_append]; rintro (h | h); exact HX.out h; exact h3 (List.mem_singleton.1 h).symm)
        clear h3
        go_wp2
        go_round
        case rel => exact ⟨k + 1, by go_num, by omega, HN⟩
        case measure => simp [intOf]; omega
    · have HN : Hid (x ∉ l) := Lib.hid (by have h := HX.out; rwa [List.take_of_length_le (by omega)] at h)
      go_wp2
      go_ret
      exact ⟨ret_bool (by rw [decide_eq_false HN.out]), rfl⟩

theorem putR_len (x : Int) : ∀ (d : Bool) (l : List Int), (putR x d l).length ≤ 2 * l.length + 1
  | d, [] => by cases d <;> simp [putR]
  | d, y :: r => by
    have h := putR_len x (d || decide (x ≤ y)) r
    rw [putR]
    simp only [List.length_append, List.length_cons]
    split <;> split <;> simp <;> omega
theorem putR_drop (x : Int) (d : Bool) (l : List Int) (k : Nat) (h : k < l.length) : putR x d (l.drop k) = (if !d && decide (x ≤ l[k]) then [x] else []) ++ ((if l[k] ≠ x then [l[k]] else []) ++ putR x (d || decide (x ≤ l[k])) (l.drop (k + 1))) := by
  rw [List.drop_eq_getElem_cons h, putR]

set_option maxHeartbeats 4000000 in
theorem isPut_any (va : Value) (l : List Int) (x : Int) (w : World) (hr : Rd w 1 va l.length (nums l)) (hl : l.length ≤ 100000) :
    Calls Tryd.prog 6 #[va, .int .i64 x] w fun e w' => ∃ v, e = .returned v ∧ w'.ownsRow w.heap.size 3 1 v (putR x false l).length (nums (putR x false l)) ∧ Below w.heap.size w w' := by
  obtain ⟨A, c, rfl, hlc, hcm⟩ := hr.shape
  have HR := Lib.hid hr
  clear hr
  go_enter Tryd.func6, Tryd.ntmps6
  go_wp2
  go_loopw [5, 6, 7] (fun v5 v6 v7 wr => ∃ (k : Nat) (d : Bool) (P : List Int), v7 = .int .i64 k ∧ k ≤ l.length ∧ v6 = .bool d ∧ P.length ≤ 2 * k ∧ Hid (putR x false l = P ++ putR x d (l.drop k)) ∧ Hid (wr.ownsRow w.heap.size 3 1 v5 P.length (nums P)) ∧ Below w.heap.size w wr) (fun _ _ v7 _ => (l.length - (intOf v7)).toNat)
  case atStart => exact ⟨0, false, [], rfl, Nat.zero_le _, rfl, by simp, Lib.hid (by simp), Lib.hid (World.ownsRow_nil _ _ _ _), Below.refl _ _⟩
  case round =>
    obtain ⟨k, d, P, rfl, hk, rfl, hP, HE, HO, hbel⟩ := hrel
    have hbs := hbel.size
    by_cases hlt : k < l.length
    · obtain ⟨b, o, rfl, hb, hc⟩ := rd_num HR.out k hlt
      have hcw : wr.cell? ⟨b, o + k, none⟩ = some (.int .i64 l[k]) := (hbel.cell (p := ⟨b, o + k, none⟩) hb).trans hc
      have HD := Lib.hid (putR_drop x d l k hlt)
      have HC := Lib.hid hc
      clear hc
      generalize l[k] = y at *
      have hno : ∀ (v : Bool) (W : World), (Op.unary .not (.bool v)).run Tryd.prog W = .ok (.bool (!v)) W := fun _ _ => rfl
      cases d with
      | false =>
        by_cases hxy : x ≤ y
        · rcases bq y x with ⟨h1, h2, h3⟩ | ⟨h1, h2, h3⟩
          · have HE1 : Hid (putR x false l = (P ++ [x]) ++ putR x true (l.drop (k + 1))) := Lib.hid (by rw [HE.out, HD.out]; simp [hxy, h3])
            clear h3 HE HD
            go_wp2_with (first
              | (at_builtin; refine app1 (w0 := w) w.heap.size rfl (.tmp 24) (.tmp 26) 22 3 (.int .i64 0) 1 8 rfl Tryd.underlying22 info3 rfl (by omega) (by omega) u5 _ _ _ rfl rfl rfl (one1 rfl) HO.out hbel hbs (by omega) ?_; intro v1 w1 hown1 hb1 _ _; have hbs1 := hb1.size; have HO1 := Lib.hid hown1; have hcw1 : w1.cell? ⟨b, o + k, none⟩ = some (.int .i64 y) := (hb1.cell (p := ⟨b, o + k, none⟩) hb).trans HC.out; clear hown1))
            go_roundw
            case rel => exact ⟨k + 1, true, P ++ [x], by go_num, by omega, rfl, by simp; omega, HE1, Lib.hid (by have h := HO1.out; simpa [nums] using h), hb1⟩
            case measure => simp [intOf]; omega
          · have HE1 : Hid (putR x false l = (P ++ [x, y]) ++ putR x true (l.drop (k + 1))) := Lib.hid (by rw [HE.out, HD.out]; simp [hxy, h3])
            clear h3 HE HD
            go_wp2_with (first
              | (at_builtin; refine app1 (w0 := w) w.heap.size rfl (.tmp 24) (.tmp 26) 22 3 (.int .i64 0) 1 8 rfl Tryd.underlying22 info3 rfl (by omega) (by omega) u5 _ _ _ rfl rfl rfl (one1 rfl) HO.out hbel hbs (by omega) ?_; intro v1 w1 hown1 hb1 _ _; have hbs1 := hb1.size; have HO1 := Lib.hid hown1; have hcw1 : w1.cell? ⟨b, o + k, none⟩ = some (.int .i64 y) := (hb1.cell (p := ⟨b, o + k, none⟩) hb).trans HC.out; clear hown1)
              | (at_builtin; refine app1 (w0 := w) w.heap.size rfl (.tmp 34) (.tmp 39) 22 3 (.int .i64 0) 1 8 rfl Tryd.underlying22 info3 rfl (by omega) (by omega) v1 _ _ _ rfl rfl rfl (one1 rfl) HO1.out hb1 hbs1 (by omega) ?_; intro v2 w2 hown2 hb2 _ _; have HO2 := Lib.hid hown2; clear hown2))
            go_roundw
            case rel => exact ⟨k + 1, true, P ++ [x, y], by go_num, by omega, rfl, by simp; omega, HE1, Lib.hid (by have h := HO2.out; simpa [nums] using h), hb2⟩
            case measure => simp [intOf]; omega
        · have h3 : ¬ y = x := by omega
          have h2 : (y != x) = true := by simpa using h3
          have HE1 : Hid (putR x false l = (P ++ [y]) ++ putR x false (l.drop (k + 1))) := Lib.hid (by rw [HE.out, HD.out]; simp [hxy, h3])
          clear h3 HE HD
          go_wp2_with (first
            | (at_builtin; refine app1 (w0 := w) w.heap.size rfl (.tmp 34) (.tmp 39) 22 3 (.int .i64 0) 1 8 rfl Tryd.underlying22 info3 rfl (by omega) (by omega) u5 _ _ _ rfl rfl rfl (one1 rfl) HO.out hbel hbs (by omega) ?_; intro v2 w2 hown2 hb2 _ _; have HO2 := Lib.hid hown2; clear hown2))
          go_roundw
          case rel => exact ⟨k + 1, false, P ++ [y], by go_num, by omega, rfl, by simp; omega, HE1, Lib.hid (by have h := HO2.out; simpa [nums] using h), hb2⟩
          case measure => simp [intOf]; omega
      | true =>
        rcases bq y x with ⟨h1, h2, h3⟩ | ⟨h1, h2, h3⟩
        · have HE1 : Hid (putR x false l = P ++ putR x true (l.drop (k + 1))) := Lib.hid (by rw [HE.out, HD.out]; simp [h3])
          clear h3 HE HD
          go_wp2
          go_roundw
          case rel => exact ⟨k + 1, true, P, by go_num, by omega, rfl, by omega, HE1, HO, hbel⟩
          case measure => simp [intOf]; omega
        · have HE1 : Hid (putR x false l = (P ++ [y]) ++ putR x true (l.drop (k + 1))) := Lib.hid (by rw [HE.out, HD.out]; simp [h3])
          clear h3 HE HD
          go_wp2_with (first
            | (at_builtin; refine app1 (w0 := w) w.heap.size rfl (.tmp 34) (.tmp 39) 22 3 (.int .i64 0) 1 8 rfl Tryd.underlying22 info3 rfl (by omega) (by omega) u5 _ _ _ rfl rfl rfl (one1 rfl) HO.out hbel hbs (by omega) ?_; intro v2 w2 hown2 hb2 _ _; have HO2 := Lib.hid hown2; clear hown2))
          go_roundw
          case rel => exact ⟨k + 1, true, P ++ [y], by go_num, by omega, rfl, by simp; omega, HE1, Lib.hid (by have h := HO2.out; simpa [nums] using h), hb2⟩
          case measure => simp [intOf]; omega
    · obtain rfl : k = l.length := by omega
      have hno : ∀ (v : Bool) (W : World), (Op.unary .not (.bool v)).run Tryd.prog W = .ok (.bool (!v)) W := fun _ _ => rfl
      cases d with
      | true =>
        have HE1 : Hid (putR x false l = P) := Lib.hid (by rw [HE.out]; simp [putR])
        clear HE
        go_wp2
        go_ret
        rw [HE1.out]
        exact ⟨_, rfl, HO.out, hbel⟩
      | false =>
        have HE1 : Hid (putR x false l = P ++ [x]) := Lib.hid (by rw [HE.out]; simp [putR])
        clear HE
        go_wp2_with (first
          | (at_builtin; refine app1 (w0 := w) w.heap.size rfl (.tmp 43) (.tmp 45) 22 3 (.int .i64 0) 1 8 rfl Tryd.underlying22 info3 rfl (by omega) (by omega) u5 _ _ _ rfl rfl rfl (one1 rfl) HO.out hbel hbs (by omega) ?_; intro v1 w1 hown1 hb1 _ _; have HO1 := Lib.hid hown1; clear hown1))
        go_ret
        rw [HE1.out]
        exact ⟨_, rfl, by have h := HO1.out; simpa [nums] using h, hb1⟩

end Go.Proofs.YtbhlhgfgkiclgaaDoor.Set

/- The law FnISNext. Conditions: the listed table of math/bits reads as listed. -/
import Derived.Test.YtbhlhgfgkiclgaaDoorSef
set_option linter.unusedVariables false
set_option linter.unusedSimpArgs false
set_option maxRecDepth 100000
set_option maxHeartbeats 4000000
namespace Go.Proofs.YtbhlhgfgkiclgaaDoor.Set
open Go.RowKit Go.Proofs.YtbhlhgfgkiclgaaDoor.B

theorem nx_find : ∀ (xs : List Int) (x : Int), nx xs x = xs.find? (fun y => decide (x ≤ y))
  | [], x => rfl
  | y :: r, x => by
    have h := nx_find r x
    unfold nx lo at *
    rw [List.takeWhile_cons, List.find?_cons]
    by_cases hy : y < x
    · simp only [decide_eq_true hy, decide_eq_false (show ¬ x ≤ y by omega), if_true, List.length_cons, List.getElem?_cons_succ]
      exact h
    · simp only [decide_eq_false hy, decide_eq_true (show x ≤ y by omega)]
      rfl
theorem find_drop (xs : List Int) (x : Int) (k : Nat) (h : k < xs.length) : (xs.drop k).find? (fun y => decide (x ≤ y)) = if x ≤ xs[k] then some xs[k] else (xs.drop (k + 1)).find? (fun y => decide (x ≤ y)) := by
  rw [List.drop_eq_getElem_cons h, List.find?_cons]
  by_cases hx : x ≤ xs[k] <;> simp [hx]

def A200 (l : List Int) : List Int := ins (isL (l.take 40)) 200
theorem A200_ok (l : List Int) : Srt (A200 l) ∧ (∀ u ∈ A200 l, 0 ≤ u ∧ u ≤ 200) ∧ 200 ∈ A200 l := by
  obtain ⟨h1, h2⟩ := isL_ok (l.take 40)
  refine ⟨srt_ins h1 _, fun u hu => ?_, (mem_ins h1 _ _).2 (.inr rfl)⟩
  rcases (mem_ins h1 _ u).1 hu with h | h
  · exact h2 u h
  · omega

theorem law_any (A : Option Addr) (len cap : Nat) (zs : List Int) (f : Int) (w : World) (hr : IsRow .i64 w A len cap zs) (wf : (Lit.int .u8 f).wf = true) (hT : Tab w) :
    Calls Tryd.prog 3 #[.slice A len cap, .int .u8 f] w fun e w' => e = .returned (.bool true) ∧ Below w.heap.size w w' := by
  have hmx := hr.rd.1.le
  by_cases hbig : len ≤ 2147483647
  · obtain ⟨rd, _⟩ := hr.rd
    have hzl : (zs.take len).length = len := by have := rd.len; simpa using this
    generalize zs.take len = l at *
    have hf := bounds_u8 wf
    obtain ⟨x, hx, hx0, hx1⟩ : ∃ x : Int, x = f % 251 ∧ 0 ≤ x ∧ x ≤ 250 := ⟨f % 251, rfl, by omega, by omega⟩
    obtain ⟨ok1, ok2, ok3⟩ := A200_ok l
    obtain ⟨is1, is2⟩ := isL_ok (l.take 40)
    have hal : (A200 l).length ≤ 201 := srt_len ok1 200 ok2
    have hil := isL_len (l.take 40)
    rw [← hzl] at rd
    have IS := Lib.hid (isSet_any _ l w rd (by omega))
    have hput := putR_ins 200 _ is1
    have PU := Lib.hid (fun v W (hr : Rd W 1 v (isL (l.take 40)).length (nums (isL (l.take 40)))) => show Calls Tryd.prog 6 #[v, .int .i64 200] W fun e w' => ∃ A c, e = .returned (.slice A (ins (isL (l.take 40)) 200).length c) ∧ Rd w' 1 (.slice A (ins (isL (l.take 40)) 200).length c) (ins (isL (l.take 40)) 200).length (nums (ins (isL (l.take 40)) 200)) ∧ Below W.heap.size W w' from by
      have h := isPut_any v (isL (l.take 40)) 200 W hr (by omega)
      rw [hput] at h
      refine h.mono ?_
      rintro e w' ⟨v, rfl, ho, hb⟩
      have hr := Rd.of_own ho
      obtain ⟨A, c, rfl, _⟩ := hr.shape
      exact ⟨A, c, rfl, hr, hb⟩)
    have NX := Lib.hid (fun v W (hW : Below w.heap.size w W) hr => isNext_any v (A200 l) x W (tab_below hT hW) hr ok1 ok2 ⟨hx0, by omega⟩)
    have CX := Lib.hid (fun v W (hW : Below w.heap.size w W) hr => isContains_any v (A200 l) x W (tab_below hT hW) hr ok1 ok2 ok3)
    have C2 := Lib.hid (fun v W (hW : Below w.heap.size w W) hr => by
      have h := isContains_any v (A200 l) 200 W (tab_below hT hW) hr ok1 ok2 ok3
      rw [decide_eq_true ok3] at h
      exact h)
    have HA := Lib.hid (fun v W hr => isHas_any v (A200 l) x W hr (by omega))
    have HF := Lib.hid (nx_find (A200 l) x)
    have HD := Lib.hid (find_drop (A200 l) x)
    unfold A200 at hal NX CX C2 HA HF HD
    generalize hins : ins (isL (l.take 40)) 200 = a at *
    generalize isL (l.take 40) = s0 at *
    clear rd hr wf ok1 ok2 ok3 is1 is2 hT hput hins hil
    have HX := Lib.hid hx
    clear hx
    subst hzl
    go_enter Tryd.func3, Tryd.ntmps3
    go_wp2_with (first
      | (go_at_call 7; (with_reducible refine IS.out.mono ?_); rintro e w1 ⟨v1, rfl, hown1, hb1⟩; have HR1 := Lib.hid (Rd.of_own hown1); clear hown1)
      | (go_at_call 6; (with_reducible refine (PU.out _ _ HR1.out).mono ?_); rintro e w2 ⟨A2, c2, rfl, hr2, hb2⟩; have HR2 := Lib.hid hr2; have hb02 := hb1.trans (hb2.mono hb1.size); clear hr2 hb2))
    rw [← HX.out]
    go_loop [7, 8, 9] (fun v7 v8 v9 => ∃ (k : Nat) (o : Option Int), v9 = .int .i64 ((k : Int) - 1) ∧ k ≤ a.length ∧ v7 = .int .i64 (o.getD 0) ∧ v8 = .bool o.isSome ∧ Hid (o = (a.drop k).find? (fun y => decide (x ≤ y)))) (fun _ _ v9 => (intOf v9 + 1).toNat)
    case atStart => exact ⟨a.length, none, by go_num, Nat.le_refl _, rfl, rfl, Lib.hid (by simp)⟩
    case round =>
      obtain ⟨k, o, rfl, hk, rfl, rfl, HO⟩ := hrel
      by_cases hlt : 0 < k
      · obtain ⟨j, rfl⟩ : ∃ j, k = j + 1 := ⟨k - 1, by omega⟩
        obtain ⟨b, of, rfl, hb, hc⟩ := rd_num HR2.out j (by omega)
        have hd := HD.out j (by omega)
        rw [← HO.out] at hd
        generalize a[j] = y at *
        by_cases hxy : x ≤ y
        · rw [if_pos hxy] at hd
          have HE := Lib.hid hd
          clear hd
          go_wp2
          go_round
          case rel => exact ⟨j, some y, by go_num, by omega, rfl, rfl, Lib.hid HE.out.symm⟩
          case measure => simp [intOf]
        · rw [if_neg hxy] at hd
          have HE := Lib.hid hd
          clear hd
          go_wp2
          go_round
          case rel => exact ⟨j, o, by go_num, by omega, rfl, rfl, Lib.hid HE.out.symm⟩
          case measure => simp [intOf]
      · obtain rfl : k = 0 := by omega
        have ho : o = nx a x := by rw [HF.out, HO.out, List.drop_zero]
        subst ho
        generalize decide (x ∈ a) = mb at CX HA
        rcases hn : nx a x with _ | v
        · have NX := Lib.hid (fun v W hW hr => by have h := NX.out v W hW hr; rw [hn] at h; exact h)
          clear hn HO HF HD
          cases mb
          all_goals
            go_wp2_with (first
              | (go_at_call 8; (with_reducible refine (NX.out _ _ hb02 HR2.out).mono ?_); rintro e w3 ⟨rfl, hb3⟩; have hb03 := hb02.trans (hb3.mono hb02.size); have HR3 := Lib.hid (HR2.out.below hb3); clear hb3 NX)
              | (go_at_call 9; (with_reducible refine (CX.out _ _ hb03 HR3.out).mono ?_); rintro e w4 ⟨rfl, hb4⟩; have hb04 := hb03.trans (hb4.mono hb03.size); have HR4 := Lib.hid (HR3.out.below hb4); clear hb4 CX)
              | (go_at_call 10; (with_reducible refine (HA.out _ _ HR4.out).mono ?_); rintro e w5 ⟨rfl, rfl⟩)
              | (go_at_call 9; (with_reducible refine (C2.out _ _ hb04 HR4.out).mono ?_); rintro e w6 ⟨rfl, hb6⟩; have hb06 := hb04.trans (hb6.mono hb04.size); clear hb6 C2))
            go_ret
            exact ⟨rfl, hb06⟩
        · have NX := Lib.hid (fun v W hW hr => by have h := NX.out v W hW hr; rw [hn] at h; exact h)
          clear hn HO HF HD
          cases mb
          all_goals
            go_wp2_with (first
              | (go_at_call 8; (with_reducible refine (NX.out _ _ hb02 HR2.out).mono ?_); rintro e w3 ⟨rfl, hb3⟩; have hb03 := hb02.trans (hb3.mono hb02.size); have HR3 := Lib.hid (HR2.out.below hb3); clear hb3 NX)
              | (go_at_call 9; (with_reducible refine (CX.out _ _ hb03 HR3.out).mono ?_); rintro e w4 ⟨rfl, hb4⟩; have hb04 := hb03.trans (hb4.mono hb03.size); have HR4 := Lib.hid (HR3.out.below hb4); clear hb4 CX)
              | (go_at_call 10; (with_reducible refine (HA.out _ _ HR4.out).mono ?_); rintro e w5 ⟨rfl, rfl⟩)
              | (go_at_call 9; (with_reducible refine (C2.out _ _ hb04 HR4.out).mono ?_); rintro e w6 ⟨rfl, hb6⟩; have hb06 := hb04.trans (hb6.mono hb04.size); clear hb6 C2))
            go_ret
            exact ⟨rfl, hb06⟩
  · go_enter Tryd.func3, Tryd.ntmps3
    go_wp2
    go_ret
    exact ⟨rfl, Below.refl _ _⟩

end Go.Proofs.YtbhlhgfgkiclgaaDoor.Set

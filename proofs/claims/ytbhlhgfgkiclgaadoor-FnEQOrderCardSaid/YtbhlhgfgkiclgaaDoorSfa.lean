/- The walks of sorted slices behind pointers: copied, joined, filtered, compared. Conditions: those written at each lemma. -/
import Derived.Test.YtbhlhgfgkiclgaaDoorSed
set_option linter.unusedVariables false
set_option linter.unusedSimpArgs false
set_option maxRecDepth 100000
set_option maxHeartbeats 2000000
namespace Go.Proofs.YtbhlhgfgkiclgaaDoor.Set
open Go.RowKit Go.Proofs.YtbhlhgfgkiclgaaDoor.B

theorem min_any (B p : Nat) (xs : List Int) (w : World) (hs : Sp w B p xs) :
    Calls Tryd.prog 64 #[.pointer (some ⟨p, 0, none⟩)] w fun e w' => e = .returned (.int .i64 (orMax xs[0]?)) ∧ w = w' := by
  obtain ⟨A, c, hcell, hlc, hcm, hA⟩ := hs.open
  have hlen := hs.len
  clear hs
  by_cases hl : 0 < xs.length
  · obtain ⟨g, rfl, hg⟩ := hA hl
    have hci := hg 0 hl
    rw [List.getElem?_eq_getElem hl]
    have hne : ((xs.length : Int) == 0) = false := by simp; intro h; rw [h] at hl; simp at hl
    clear hg hA
    generalize xs[0] = y at *
    go_enter Tryd.func64, Tryd.ntmps64
    go_wp2
    go_ret
    exact ⟨rfl, rfl⟩
  · obtain rfl : xs = [] := by simpa using hl
    clear hA hl
    go_enter Tryd.func64, Tryd.ntmps64
    go_wp2
    go_ret
    exact ⟨rfl, rfl⟩

theorem max_any (B p : Nat) (xs : List Int) (w : World) (hs : Sp w B p xs) :
    Calls Tryd.prog 69 #[.pointer (some ⟨p, 0, none⟩)] w fun e w' => e = .returned (.int .i64 (xs.getLast?.getD (-9223372036854775808))) ∧ Dr w w' := by
  obtain ⟨A, c, hcell, hlc, hcm, hA⟩ := hs.open
  have hlen := hs.len
  clear hs
  by_cases hl : 0 < xs.length
  · obtain ⟨g, rfl, hg⟩ := hA hl
    have hci := hg (xs.length - 1) (by omega)
    have e : xs.getLast?.getD (-9223372036854775808) = xs[xs.length - 1] := by rw [List.getLast?_eq_getElem?, List.getElem?_eq_getElem (by omega)]; rfl
    rw [e]
    obtain ⟨m, hm⟩ : ∃ m, xs.length = m + 1 := ⟨xs.length - 1, by omega⟩
    have em : xs.length - 1 = m := by omega
    simp only [em] at hci ⊢
    have hi1 : IntKind.i64.wrap ((xs.length : Int) - 1) = m := by rw [hm]; exact IntWalk.i64_in _ (by omega) |>.trans (by omega)
    have hne : ((xs.length : Int) == 0) = false := by simp; intro h; rw [h] at hl; simp at hl
    have h0 : (0 : Int) ≤ (m : Int) := by omega
    have h1 : (m : Int) < (xs.length : Int) := by omega
    clear hg hA e
    generalize xs[m] = y at *
    clear em
    go_enter Tryd.func69, Tryd.ntmps69
    go_wp2
    go_quiet (fail)
    go_wp2
    go_ret
    exact ⟨rfl, (Dr.refl _).drewN _⟩
  · obtain rfl : xs = [] := by simpa using hl
    clear hA hl
    go_enter Tryd.func69, Tryd.ntmps69
    go_wp2
    go_ret
    exact ⟨rfl, Dr.refl _⟩

theorem Sp.grown {w w' : World} {B B1 p p1 : Nat} {xs ys : List Int} (h : Sp w B p xs) (h1 : Sp w B1 p1 ys) (hg : w.grownBy w' (some p1)) (hne : p ≠ p1) : Sp w' B p xs := by
  obtain ⟨a1, a2, v, a3, a4⟩ := h
  obtain ⟨_, _, v1, b3, _⟩ := h1
  refine ⟨a1, a2, v, by rw [hg.block p (lt_of_block a3) (fun e => hne (Option.some.inj e))]; exact a3, a4.kept hg ?_⟩
  rcases a4.2 with ⟨rfl, _⟩ | ⟨g, cap, cur, rfl, _, hgb, _⟩
  · exact .inl rfl
  · right
    intro e
    simp [Value.ownBlock] at e
    subst e
    rw [hgb] at b3
    injection b3 with b3
    injection b3 with _ b3 _
    cases b3

theorem copy_any (B B1 p p1 : Nat) (xs : List Int) (v0 : Value) (w : World) (hp : w.heap[p]? = some (.cells #[v0] 75 (0, 0))) (hBp : B ≤ p) (hB : B ≤ w.heap.size) (hs : Sp w B1 p1 xs) :
    Calls Tryd.prog 65 #[.pointer (some ⟨p, 0, none⟩), .pointer (some ⟨p1, 0, none⟩)] w fun e w' => e = .returned (.tuple #[]) ∧ Sp w' B p xs ∧ w.grownBy w' (some p) := by
  obtain ⟨A, c, hblk, hlc, hrd⟩ := hs.rd
  have hlen := hs.len
  have hpl := lt_of_block hp
  have c0 := cell_of_one hp
  have f0 := free_of_one hp
  have c1 := cell_of_one hblk
  have HR := Lib.hid hrd
  have HP := Lib.hid hp
  clear hs hrd hblk hp
  go_enter Tryd.func65, Tryd.ntmps65
  go_wp2_with (first
    | (at_builtin; refine appRs (w0 := w) rfl (.const (.slice none 0 0)) (.tmp 8) 22 rfl w.heap.size 3 (.int .i64 0) 1 8 Tryd.underlying22 info3 rfl (by omega) (by omega) _ 0 _ rfl (World.ownsRow_nil _ _ _ _) (Below.refl _ _) _ _ _ rfl HR.out (nums_one _) (by omega) (by omega) ?_; intro A1 a1 w1 hown1 hb1 _; have HO1 := Lib.hid hown1; have HB1 := Lib.hid hb1; have d0 : w1.cell? ⟨p, 0, none⟩ = some v0 := (hb1.cell (p := ⟨p, 0, none⟩) hpl).trans c0; have g0 : w1.frozen? ⟨p, 0, none⟩ = false := (hb1.frozen (p := ⟨p, 0, none⟩) hpl).trans f0; clear hown1 hb1))
  go_end0
  refine ⟨rfl, ⟨hBp, hlen, _, one_setCell (by rw [HB1.out.block p hpl]; exact HP.out), ?_⟩, grown_set HB1.out p 0 _⟩
  have h := (ownsRow_setCell_below HO1.out (a := ⟨p, 0, none⟩) hpl (.slice A1 (0 + xs.length) a1)).mono hB
  simpa using h


/-- All of ys put into xs. -/
def uni (xs ys : List Int) : List Int := ys.foldl ins xs
theorem uni_snoc (xs ys : List Int) (y : Int) : uni xs (ys ++ [y]) = ins (uni xs ys) y := by unfold uni; rw [List.foldl_append]; rfl
theorem ins_len (xs : List Int) (x : Int) : (ins xs x).length ≤ xs.length + 1 := by
  unfold ins
  split
  · omega
  · have := lo_le xs x
    simp
    omega
theorem uni_len (xs : List Int) : ∀ ys : List Int, (uni xs ys).length ≤ xs.length + ys.length := by
  intro ys
  have hk : ∀ k, k ≤ ys.length → (uni xs (ys.take k)).length ≤ xs.length + k := by
    intro k
    induction k with
    | zero => intro _; simp [uni]
    | succ k ih => intro hk; rw [take_snoc ys k (by omega), uni_snoc]; have := ins_len (uni xs (ys.take k)) ys[k]; have := ih (by omega); omega
  have := hk ys.length (Nat.le_refl _)
  rwa [List.take_length] at this

theorem unionWith_any (B B1 p p1 : Nat) (xs ys : List Int) (w : World) (hB : B ≤ w.heap.size) (hs : Sp w B p xs) (h1 : Sp w B1 p1 ys) (hne : p1 ≠ p) (hl : xs.length + ys.length < 1000000) :
    Calls Tryd.prog 66 #[.pointer (some ⟨p, 0, none⟩), .pointer (some ⟨p1, 0, none⟩)] w fun e w' => e = .returned (.tuple #[]) ∧ Sp w' B p (uni xs ys) ∧ w.grownBy w' (some p) := by
  obtain ⟨A, c, hcell, hlc, hcm, hA⟩ := h1.open
  have hpB := hs.1
  have hp1 := lt_of_block h1.2.2.choose_spec.1
  have HS := Lib.hid hs
  have H1 := Lib.hid h1
  have HA := Lib.hid hA
  clear hs h1 hA
  go_enter Tryd.func66, Tryd.ntmps66
  go_wp2
  go_loopw [11] (fun v11 wr => ∃ k : Nat, v11 = .int .i64 k ∧ k ≤ ys.length ∧ Hid (Sp wr B p (uni xs (ys.take k))) ∧ Hid (w.grownBy wr (some p))) (fun v11 _ => (ys.length - (intOf v11)).toNat)
  case atStart => exact ⟨0, rfl, Nat.zero_le _, HS, Lib.hid (World.grownBy.refl _ _)⟩
  case round =>
    obtain ⟨k, rfl, hk, HP, HG⟩ := hrel
    by_cases hlt : k < ys.length
    · obtain ⟨g, rfl, hg⟩ := HA.out (by omega)
      obtain ⟨A2, c2, e1, _, _, hA2⟩ := (H1.out.grown HS.out HG.out hne).open
      have e0 := (World.grownBy.cell HG.out hcell (fun e => hne (Option.some.inj e)))
      rw [e0] at e1
      injection e1 with e1
      injection e1 with e1 e1b e1c
      clear e1b e1c
      subst e1
      obtain ⟨g2, hg2, hc2⟩ := hA2 (by omega)
      injection hg2 with hg2
      injection hg2 with hg2 hg2b hg2c
      clear hg2b hg2c
      subst hg2
      have hci := hc2 k hlt
      have hul := uni_len xs (ys.take k)
      rw [List.length_take] at hul
      have HI := Lib.hid (insert_any B p (uni xs (ys.take k)) ys[k] wr HP.out (by omega) (Nat.le_trans hB HG.out.size))
      have HU := Lib.hid (by have h := uni_snoc xs (ys.take k) ys[k]; rw [← take_snoc ys k hlt] at h; exact h)
      clear hg hc2 hA2 e0
      generalize ys[k] = y at *
      go_wp2_with (first
        | (go_at_call 52; (with_reducible refine HI.out.mono ?_); rintro e w2 ⟨rfl, hsp, hg⟩; have HP2 := Lib.hid hsp; have HG2 := Lib.hid (World.grownBy.trans HG.out hg); clear hsp hg))
      go_roundw
      case rel => exact ⟨k + 1, by go_num, by omega, Lib.hid (by rw [HU.out]; exact HP2.out), HG2⟩
      case measure => simp [intOf]; omega
    · obtain rfl : k = ys.length := by omega
      rw [List.take_length] at HP
      go_wp2
      go_end0
      exact ⟨rfl, HP.out, HG.out⟩

theorem filter_any (B B1 p p1 : Nat) (xs ys : List Int) (b : Bool) (w : World) (hB : B ≤ w.heap.size) (hs : Sp w B p xs) (h1 : Sp w B1 p1 ys) :
    Calls Tryd.prog 70 #[.pointer (some ⟨p, 0, none⟩), .pointer (some ⟨p1, 0, none⟩), .bool b] w fun e w' => e = .returned (.tuple #[]) ∧ Sp w' B p (xs.filter fun u => hasB ys u == b) ∧ w.grownBy w' (some p) := by
  obtain ⟨A, c, hcell, hlc, hcm, hA⟩ := hs.open
  have hlen := hs.len
  have hpB := hs.1
  obtain ⟨_, _, v0, hblk, _⟩ := hs
  have hp := lt_of_block hblk
  have f0 := free_of_one hblk
  have HK := Lib.hid hblk
  have HA := Lib.hid hA
  have HH := Lib.hid (fun u W (hW : Below w.heap.size w W) => has_any B1 p1 ys u W (h1.below hW))
  clear hblk hA h1
  generalize hf : (fun u => hasB ys u == b) = f at *
  have HF := Lib.hid (fun u => congrFun hf u)
  clear hf
  go_enter Tryd.func70, Tryd.ntmps70
  go_wp2
  go_loopw [6, 14] (fun v6 v14 wr => ∃ k : Nat, v14 = .int .i64 k ∧ k ≤ xs.length ∧ Hid (wr.ownsRow w.heap.size 3 1 v6 ((xs.take k).filter f).length (nums ((xs.take k).filter f))) ∧ Below w.heap.size w wr) (fun _ v14 _ => (xs.length - (intOf v14)).toNat)
  case atStart => exact ⟨0, rfl, Nat.zero_le _, Lib.hid (World.ownsRow_nil _ _ _ _), Below.refl _ _⟩
  case round =>
    obtain ⟨k, rfl, hk, HO, hbel⟩ := hrel
    have hbs := hbel.size
    have hfl : ((xs.take k).filter f).length ≤ k := Nat.le_trans (List.length_filter_le _ _) (by rw [List.length_take]; omega)
    by_cases hlt : k < xs.length
    · obtain ⟨g, rfl, hg⟩ := HA.out (by omega)
      have hci0 := hg k hlt
      have hgl : g < w.heap.size := World.block_lt_of_cell? w ⟨g, k, none⟩ hci0
      have hci : wr.cell? ⟨g, k, none⟩ = some (.int .i64 xs[k]) := (hbel.cell (p := ⟨g, k, none⟩) hgl).trans hci0
      have HU := Lib.hid (by have h := congrArg (List.filter f) (take_snoc xs k hlt); rw [List.filter_append] at h; exact h)
      have hfx := HF.out xs[k]
      have HC := HH.out xs[k] wr hbel
      clear hg hci0
      generalize xs[k] = x at *
      have HC := Lib.hid HC
      rcases Bool.eq_false_or_eq_true (f x) with hx | hx
      · have hb : hasB ys x = b := by rw [hx] at hfx; simpa using hfx
        have HE : Hid ((xs.take (k + 1)).filter f = (xs.take k).filter f ++ [x]) := Lib.hid (by rw [HU.out]; simp [hx])
        rw [hb] at HC
        clear hfx hx hb HU
        go_wp2_with (first
          | (go_at_call 39; (with_reducible refine HC.out.mono ?_); rintro e w2 ⟨rfl, rfl⟩)
          | (at_builtin; refine app1 (w0 := w) w.heap.size rfl (.tmp 23) (.tmp 25) 22 3 (.int .i64 0) 1 8 rfl Tryd.underlying22 info3 rfl (by omega) (by omega) u6 _ _ _ rfl rfl rfl (one1 rfl) HO.out hbel hbs (by omega) ?_; intro v1 w1 hown1 hb1 _ _; have HO1 := Lib.hid hown1; clear hown1))
        go_roundw
        case rel => exact ⟨k + 1, by go_num, by omega, Lib.hid (by rw [HE.out]; have h := HO1.out; simpa [nums] using h), hb1⟩
        case measure => simp [intOf]; omega
      · have hb : hasB ys x = !b := by rw [hx] at hfx; revert hfx; cases hasB ys x <;> cases b <;> simp
        have HE : Hid ((xs.take (k + 1)).filter f = (xs.take k).filter f) := Lib.hid (by rw [HU.out]; simp [hx])
        rw [hb] at HC
        clear hfx hx hb HU
        cases b
        all_goals
          go_wp2_with (first
            | (go_at_call 39; (with_reducible refine HC.out.mono ?_); rintro e w2 ⟨rfl, rfl⟩))
          go_roundw
          case rel => exact ⟨k + 1, by go_num, by omega, Lib.hid (by rw [HE.out]; exact HO.out), hbel⟩
          case measure => simp [intOf]; omega
    · obtain rfl : k = xs.length := by omega
      rw [List.take_length] at HO hfl
      obtain ⟨A1, a1, hv, _⟩ := (Rd.of_own HO.out).shape
      subst hv
      have c1 : wr.cell? ⟨p, 0, none⟩ = some (.slice A xs.length c) := (hbel.cell (p := ⟨p, 0, none⟩) hp).trans hcell
      have f1 : wr.frozen? ⟨p, 0, none⟩ = false := (hbel.frozen (p := ⟨p, 0, none⟩) hp).trans f0
      have HB := Lib.hid hbel
      clear hbel
      go_wp2
      go_end0
      refine ⟨rfl, ⟨hpB, by omega, _, one_setCell (by rw [HB.out.block p hp]; exact HK.out), ?_⟩, grown_set HB.out p 0 _⟩
      exact (ownsRow_setCell_below HO.out (a := ⟨p, 0, none⟩) hp _).mono hB


theorem intersects_any (B B1 p p1 : Nat) (xs ys : List Int) (w : World) (hs : Sp w B p xs) (h1 : Sp w B1 p1 ys) :
    Calls Tryd.prog 63 #[.pointer (some ⟨p, 0, none⟩), .pointer (some ⟨p1, 0, none⟩)] w fun e w' => e = .returned (.bool (xs.any (hasB ys))) ∧ w = w' := by
  obtain ⟨A, c, hcell, hlc, hcm, hA⟩ := hs.open
  have hlen := hs.len
  have HA := Lib.hid hA
  have HH := Lib.hid (fun u => has_any B1 p1 ys u w h1)
  clear hs hA h1
  go_enter Tryd.func63, Tryd.ntmps63
  go_wp2
  go_loop [12] (fun v12 => ∃ k : Nat, v12 = .int .i64 k ∧ k ≤ xs.length ∧ Hid (xs.any (hasB ys) = (xs.drop k).any (hasB ys))) (fun v12 => (xs.length - (intOf v12)).toNat)
  case atStart => exact ⟨0, rfl, Nat.zero_le _, Lib.hid (by rw [List.drop_zero])⟩
  case round =>
    obtain ⟨k, rfl, hk, HX⟩ := hrel
    by_cases hlt : k < xs.length
    · obtain ⟨g, rfl, hg⟩ := HA.out (by omega)
      have hci := hg k hlt
      have hd : xs.any (hasB ys) = (hasB ys xs[k] || (xs.drop (k + 1)).any (hasB ys)) := by rw [HX.out, List.drop_eq_getElem_cons hlt, List.any_cons]
      have HC := HH.out xs[k]
      clear hg
      generalize xs[k] = x at *
      rcases Bool.eq_false_or_eq_true (hasB ys x) with hx | hx
      · rw [hx] at HC hd
        have HC := Lib.hid HC
        have HE := Lib.hid hd
        clear hx hd
        go_wp2_with (first
          | (go_at_call 39; (with_reducible refine HC.out.mono ?_); rintro e w2 ⟨rfl, rfl⟩))
        go_ret
        exact ⟨ret_bool (by rw [HE.out]; rfl), rfl⟩
      · rw [hx] at HC hd
        have HC := Lib.hid HC
        have HE := Lib.hid hd
        clear hx hd
        go_wp2_with (first
          | (go_at_call 39; (with_reducible refine HC.out.mono ?_); rintro e w2 ⟨rfl, rfl⟩))
        go_round
        case rel => exact ⟨k + 1, by go_num, by omega, Lib.hid (by rw [HE.out]; rfl)⟩
        case measure => simp [intOf]; omega
    · obtain rfl : k = xs.length := by omega
      have HE : Hid (xs.any (hasB ys) = false) := Lib.hid (by rw [HX.out, List.drop_length]; rfl)
      go_wp2
      go_ret
      exact ⟨ret_bool (by rw [HE.out]), rfl⟩

theorem subsetOf_any (B B1 p p1 : Nat) (xs ys : List Int) (w : World) (hs : Sp w B p xs) (h1 : Sp w B1 p1 ys) :
    Calls Tryd.prog 62 #[.pointer (some ⟨p, 0, none⟩), .pointer (some ⟨p1, 0, none⟩)] w fun e w' => e = .returned (.bool (xs.all (hasB ys))) ∧ w = w' := by
  obtain ⟨A, c, hcell, hlc, hcm, hA⟩ := hs.open
  have hlen := hs.len
  have HA := Lib.hid hA
  have HH := Lib.hid (fun u => has_any B1 p1 ys u w h1)
  clear hs hA h1
  go_enter Tryd.func62, Tryd.ntmps62
  go_wp2
  go_loop [12] (fun v12 => ∃ k : Nat, v12 = .int .i64 k ∧ k ≤ xs.length ∧ Hid (xs.all (hasB ys) = (xs.drop k).all (hasB ys))) (fun v12 => (xs.length - (intOf v12)).toNat)
  case atStart => exact ⟨0, rfl, Nat.zero_le _, Lib.hid (by rw [List.drop_zero])⟩
  case round =>
    obtain ⟨k, rfl, hk, HX⟩ := hrel
    by_cases hlt : k < xs.length
    · obtain ⟨g, rfl, hg⟩ := HA.out (by omega)
      have hci := hg k hlt
      have hd : xs.all (hasB ys) = (hasB ys xs[k] && (xs.drop (k + 1)).all (hasB ys)) := by rw [HX.out, List.drop_eq_getElem_cons hlt, List.all_cons]
      have HC := HH.out xs[k]
      clear hg
      generalize xs[k] = x at *
      rcases Bool.eq_false_or_eq_true (hasB ys x) with hx | hx
      · rw [hx] at HC hd
        have HC := Lib.hid HC
        have HE := Lib.hid hd
        clear hx hd
        go_wp2_with (first
          | (go_at_call 39; (with_reducible refine HC.out.mono ?_); rintro e w2 ⟨rfl, rfl⟩))
        go_round
        case rel => exact ⟨k + 1, by go_num, by omega, Lib.hid (by rw [HE.out]; rfl)⟩
        case measure => simp [intOf]; omega
      · rw [hx] at HC hd
        have HC := Lib.hid HC
        have HE := Lib.hid hd
        clear hx hd
        go_wp2_with (first
          | (go_at_call 39; (with_reducible refine HC.out.mono ?_); rintro e w2 ⟨rfl, rfl⟩))
        go_ret
        exact ⟨ret_bool (by rw [HE.out]; rfl), rfl⟩
    · obtain rfl : k = xs.length := by omega
      have HE : Hid (xs.all (hasB ys) = true) := Lib.hid (by rw [HX.out, List.drop_length]; rfl)
      go_wp2
      go_ret
      exact ⟨ret_bool (by rw [HE.out]), rfl⟩

theorem Sp.dr {w W : World} {B p : Nat} {xs : List Int} (h : Sp w B p xs) (hd : Dr w W) : Sp W B p xs := by
  obtain ⟨k, rfl⟩ := hd
  exact h

theorem equals_any (B B1 p p1 : Nat) (xs ys : List Int) (w : World) (hs : Sp w B p xs) (h1 : Sp w B1 p1 ys) :
    Calls Tryd.prog 60 #[.pointer (some ⟨p, 0, none⟩), .pointer (some ⟨p1, 0, none⟩)] w fun e w' => e = .returned (.bool (decide (xs.length = ys.length) && xs.all (hasB ys))) ∧ Dr w w' := by
  obtain ⟨A, c, hcell, _, _, _⟩ := hs.open
  obtain ⟨A1, c1, hcell1, _, _, _⟩ := h1.open
  have hlen := hs.len
  have hlen1 := h1.len
  have SU := Lib.hid (fun k => subsetOf_any B B1 p p1 xs ys (w.drewN k) hs h1)
  clear hs h1
  by_cases hl : xs.length = ys.length
  · have HE : Hid ((decide (xs.length = ys.length) && xs.all (hasB ys)) = xs.all (hasB ys)) := Lib.hid (by rw [decide_eq_true hl, Bool.true_and])
    have hl2 : decide ((xs.length : Int) = ys.length) = true := decide_eq_true (by omega)
    have hl3 : ((xs.length : Int) == ys.length) = true := by simp; omega
    clear hl
    go_enter Tryd.func60, Tryd.ntmps60
    go_wp2
    go_quiet ((go_at_call 62; exact quiet_same (SU.out _)))
    go_wp2
    go_ret
    exact ⟨ret_bool HE.out.symm, (Dr.refl _).drewN _⟩
  · have HE : Hid ((decide (xs.length = ys.length) && xs.all (hasB ys)) = false) := Lib.hid (by rw [decide_eq_false hl, Bool.false_and])
    have hl2 : decide ((xs.length : Int) = ys.length) = false := decide_eq_false (by omega)
    have hl3 : ((xs.length : Int) == ys.length) = false := by simp; omega
    clear hl
    go_enter Tryd.func60, Tryd.ntmps60
    go_wp2
    go_quiet ((go_at_call 62; exact quiet_same (SU.out _)))
    go_wp2
    go_ret
    exact ⟨ret_bool HE.out.symm, (Dr.refl _).drewN _⟩

end Go.Proofs.YtbhlhgfgkiclgaaDoor.Set

/- The walks of the reference's lists: in both, all, the same; the next column. Conditions: the listed table of math/bits reads as listed; those written at each lemma. -/
import Derived.Test.YtbhlhgfgkiclgaaDoorSfp
import Derived.Test.YtbhlhgfgkiclgaaDoorSeg
set_option linter.unusedVariables false
set_option linter.unusedSimpArgs false
set_option maxRecDepth 100000
set_option maxHeartbeats 4000000
namespace Go.Proofs.YtbhlhgfgkiclgaaDoor.Set
open Go.RowKit Go.Proofs.YtbhlhgfgkiclgaaDoor.B

def cn (ys : List Int) (x : Int) : Int := IntKind.u16.wrap (wrap64 (orMax (nx ys (x - 1)) + 1))
theorem csnext_any (va : Value) (ys : List Int) (x : Int) (w : World) (hT : Tab w) (hr : Rd w 1 va (up ys).length (nums (up ys))) (hs : Srt ys) (hbd : ∀ u ∈ ys, 0 ≤ u ∧ u ≤ 200) (h0 : 1 ≤ x) (h1 : x ≤ 1000) :
    Calls Tryd.prog 16 #[va, .int .i64 x] w fun e w' => e = .returned (.tuple #[.int .i64 (cn ys x), .bool (nx ys (x - 1)).isSome]) ∧ Below w.heap.size w w' := by
  have C1 := Lib.hid (cols_any va ys w hT hr hs hbd)
  have NX := Lib.hid (fun W s L (hW : Below w.heap.size w W) (hv : Fv W w.heap.size s L ys) => (show Calls Tryd.prog 35 #[.agg #[s, L], .int .u16 x] W fun e w' => e = .returned (.tuple #[.int .u16 (cn ys x), .bool (nx ys (x - 1)).isSome]) ∧ Below W.heap.size W w' from cnext_any w.heap.size s L ys x W (tab_below hT hW) hv h0 h1))
  have hw : IntKind.u16.wrap x = x := by rw [IntKind.wrap_u16]; omega
  have hc : 0 ≤ cn ys x ∧ cn ys x ≤ 65535 := by unfold cn; rw [IntKind.wrap_u16]; omega
  clear hT hr hs hbd
  generalize cn ys x = z at *
  generalize (nx ys (x - 1)).isSome = b at *
  have hw2 : wrap64 z = z := by unfold wrap64; omega
  go_enter Tryd.func16, Tryd.ntmps16
  go_wp2_with (first
    | (go_at_call 24; (with_reducible refine C1.out.mono ?_); rintro e w1 ⟨n1, P1, rfl, hf1, hb1⟩; have HF1 := Lib.hid hf1; have HB1 := Lib.hid hb1; clear hf1 hb1)
    | (go_at_call 35; (with_reducible refine (NX.out _ _ _ HB1.out HF1.out).mono ?_); rintro e w2 ⟨rfl, hb2⟩; have HB2 := Lib.hid (HB1.out.trans (hb2.mono HB1.out.size)); clear hb2))
  go_ret2
  exact ⟨rfl, HB2.out⟩

def flt (m : List Int) (b : Bool) (l : List Int) : List Int := l.filter fun u => decide (u ∈ m) == b
theorem isBoth_any (va vb : Value) (l m : List Int) (b : Bool) (w : World) (hr : Rd w 1 va l.length (nums l)) (hr2 : Rd w 1 vb m.length (nums m)) (hl : l.length ≤ 100000) (hm : m.length ≤ 100000) :
    Calls Tryd.prog 17 #[va, vb, .bool b] w fun e w' => ∃ v, e = .returned v ∧ w'.ownsRow w.heap.size 3 1 v (flt m b l).length (nums (flt m b l)) ∧ Below w.heap.size w w' := by
  obtain ⟨A, c, rfl, hlc, hcm⟩ := hr.shape
  have HR := Lib.hid hr
  have HH := Lib.hid (fun u W (hW : Below w.heap.size w W) => isHas_any vb m u W (hr2.below hW) (by omega))
  clear hr hr2
  unfold flt
  generalize hf : (fun u => decide (u ∈ m) == b) = f at *
  have HF := Lib.hid (fun u => congrFun hf u)
  clear hf
  go_enter Tryd.func17, Tryd.ntmps17
  go_wp2
  go_loopw [7, 8] (fun v7 v8 wr => ∃ k : Nat, v8 = .int .i64 k ∧ k ≤ l.length ∧ Hid (wr.ownsRow w.heap.size 3 1 v7 ((l.take k).filter f).length (nums ((l.take k).filter f))) ∧ Below w.heap.size w wr) (fun _ v8 _ => (l.length - (intOf v8)).toNat)
  case atStart => exact ⟨0, rfl, Nat.zero_le _, Lib.hid (World.ownsRow_nil _ _ _ _), Below.refl _ _⟩
  case round =>
    obtain ⟨k, rfl, hk, HO, hbel⟩ := hrel
    have hbs := hbel.size
    have hfl : ((l.take k).filter f).length ≤ k := Nat.le_trans (List.length_filter_le _ _) (by rw [List.length_take]; omega)
    by_cases hlt : k < l.length
    · obtain ⟨g, o, rfl, hb, hc⟩ := rd_num HR.out k hlt
      have hcw : wr.cell? ⟨g, o + k, none⟩ = some (.int .i64 l[k]) := (hbel.cell (p := ⟨g, o + k, none⟩) hb).trans hc
      have HU := Lib.hid (by have h := congrArg (List.filter f) (take_snoc l k hlt); rw [List.filter_append] at h; exact h)
      have hfx := HF.out l[k]
      have HC := HH.out l[k] wr hbel
      clear hc
      generalize l[k] = x at *
      have HC := Lib.hid HC
      rcases Bool.eq_false_or_eq_true (f x) with hx | hx
      · have hb2 : decide (x ∈ m) = b := by rw [hx] at hfx; simpa using hfx
        have HE : Hid ((l.take (k + 1)).filter f = (l.take k).filter f ++ [x]) := Lib.hid (by rw [HU.out]; simp [hx])
        rw [hb2] at HC
        clear hfx hx hb2 HU
        go_wp2_with (first
          | (go_at_call 10; (with_reducible refine HC.out.mono ?_); rintro e w2 ⟨rfl, rfl⟩)
          | (at_builtin; refine app1 (w0 := w) w.heap.size rfl (.tmp 23) (.tmp 28) 22 3 (.int .i64 0) 1 8 rfl Tryd.underlying22 info3 rfl (by omega) (by omega) u7 _ _ _ rfl rfl rfl (one1 rfl) HO.out hbel hbs (by omega) ?_; intro v1 w1 hown1 hb1 _ _; have HO1 := Lib.hid hown1; clear hown1))
        go_roundw
        case rel => exact ⟨k + 1, by go_num, by omega, Lib.hid (by rw [HE.out]; have h := HO1.out; simpa [nums] using h), hb1⟩
        case measure => simp [intOf]; omega
      · have hb2 : decide (x ∈ m) = !b := by rw [hx] at hfx; revert hfx; cases decide (x ∈ m) <;> cases b <;> simp
        have HE : Hid ((l.take (k + 1)).filter f = (l.take k).filter f) := Lib.hid (by rw [HU.out]; simp [hx])
        rw [hb2] at HC
        clear hfx hx hb2 HU
        cases b
        all_goals
          go_wp2_with (first
            | (go_at_call 10; (with_reducible refine HC.out.mono ?_); rintro e w2 ⟨rfl, rfl⟩))
          go_roundw
          case rel => exact ⟨k + 1, by go_num, by omega, Lib.hid (by rw [HE.out]; exact HO.out), hbel⟩
          case measure => simp [intOf]; omega
    · obtain rfl : k = l.length := by omega
      rw [List.take_length] at HO hfl
      go_wp2
      go_ret
      exact ⟨_, rfl, HO.out, hbel⟩

theorem isAll_any (va vb : Value) (l m : List Int) (w : World) (hr : Rd w 1 va l.length (nums l)) (hr2 : Rd w 1 vb m.length (nums m)) (hs : Srt l) (hl : l.length + m.length ≤ 100000) :
    Calls Tryd.prog 19 #[va, vb] w fun e w' => ∃ v, e = .returned v ∧ Rd w' 1 v (uni l m).length (nums (uni l m)) ∧ Below w.heap.size w w' := by
  obtain ⟨A, c, rfl, hlc, hcm⟩ := hr2.shape
  have HR := Lib.hid hr2
  have HR1 := Lib.hid hr
  have HS := Lib.hid hs
  clear hr hr2 hs
  go_enter Tryd.func19, Tryd.ntmps19
  go_wp2
  go_loopw [5, 6] (fun v5 v6 wr => ∃ k : Nat, v6 = .int .i64 k ∧ k ≤ m.length ∧ Hid (Rd wr 1 v5 (uni l (m.take k)).length (nums (uni l (m.take k)))) ∧ Below w.heap.size w wr) (fun _ v6 _ => (m.length - (intOf v6)).toNat)
  case atStart => exact ⟨0, rfl, Nat.zero_le _, Lib.hid HR1.out, Below.refl _ _⟩
  case round =>
    obtain ⟨k, rfl, hk, HO, hbel⟩ := hrel
    have hbs := hbel.size
    by_cases hlt : k < m.length
    · obtain ⟨g, o, rfl, hb, hc⟩ := rd_num HR.out k hlt
      have hcw : wr.cell? ⟨g, o + k, none⟩ = some (.int .i64 m[k]) := (hbel.cell (p := ⟨g, o + k, none⟩) hb).trans hc
      have hul := uni_len l (m.take k)
      rw [List.length_take] at hul
      have hput := putR_ins m[k] (uni l (m.take k)) (srt_uni HS.out _).1
      rw [← uni_snoc, ← take_snoc m k hlt] at hput
      have PU := isPut_any u5 (uni l (m.take k)) m[k] wr HO.out (by omega)
      rw [hput] at PU
      have PU := Lib.hid PU
      clear hc hput
      generalize m[k] = y at *
      go_wp2_with (first
        | (go_at_call 6; (with_reducible refine PU.out.mono ?_); rintro e w1 ⟨v1, rfl, hown, hb1⟩; have HO1 := Lib.hid (Rd.of_own hown); have hbel1 := hbel.trans (hb1.mono hbs); clear hown hb1))
      go_roundw
      case rel => exact ⟨k + 1, by go_num, by omega, HO1, hbel1⟩
      case measure => simp [intOf]; omega
    · obtain rfl : k = m.length := by omega
      rw [List.take_length] at HO
      go_wp2
      go_ret
      exact ⟨_, rfl, HO.out, hbel⟩

theorem isSame_any (va vb : Value) (l m : List Int) (w : World) (hr : Rd w 1 va l.length (nums l)) (hr2 : Rd w 1 vb m.length (nums m)) (hl : l.length ≤ 100000) (hm : m.length ≤ 100000) :
    Calls Tryd.prog 18 #[va, vb] w fun e w' => e = .returned (.bool (decide (l = m))) ∧ Dr w w' := by
  obtain ⟨A, c, rfl, hlc, hcm⟩ := hr.shape
  obtain ⟨A2, c2, rfl, hlc2, hcm2⟩ := hr2.shape
  have HR := Lib.hid hr
  have HR2 := Lib.hid hr2
  clear hr hr2
  by_cases hlm : l.length = m.length
  · have hl2 : ((l.length : Int) != m.length) = false := by simp; omega
    have HL := Lib.hid hlm
    go_enter Tryd.func18, Tryd.ntmps18
    go_wp2
    go_loopw [5] (fun v5 wr => ∃ k : Nat, v5 = .int .i64 k ∧ k ≤ l.length ∧ Hid (l.take k = m.take k) ∧ Hid (Dr w wr)) (fun v5 _ => (l.length - (intOf v5)).toNat)
    case atStart => exact ⟨0, rfl, Nat.zero_le _, Lib.hid rfl, Lib.hid (Dr.refl _)⟩
    case round =>
      obtain ⟨k, rfl, hk, HE, HD⟩ := hrel
      by_cases hlt : k < l.length
      · have hltm : k < m.length := by omega
        obtain ⟨g, o, rfl, hb, hc⟩ := rd_num (HR.out.below (HD.out.below _)) k hlt
        obtain ⟨g2, o2, rfl, hb2, hc2⟩ := rd_num (HR2.out.below (HD.out.below _)) k hltm
        have HT1 := Lib.hid (take_snoc l k hlt)
        have HT2 := Lib.hid (take_snoc m k hltm)
        have HG1 := Lib.hid (List.getElem?_eq_getElem hlt)
        have HG2 := Lib.hid (List.getElem?_eq_getElem hltm)
        generalize l[k] = x at *
        generalize m[k] = y at *
        rcases bq x y with ⟨h1, h2, h3⟩ | ⟨h1, h2, h3⟩
        · have HE1 : Hid (l.take (k + 1) = m.take (k + 1)) := Lib.hid (by rw [HT1.out, HT2.out, HE.out, h3])
          clear h3
          go_wp2
          go_quiet (fail)
          go_wp2
          go_roundw
          case rel => exact ⟨k + 1, by go_num, by omega, HE1, Lib.hid (by first | exact HD.out.drewN _ | exact HD.out.drew)⟩
          case measure => simp [intOf]; omega
        · have HN : Hid (decide (l = m) = false) := Lib.hid (decide_eq_false fun e => h3 (by subst e; have := HG1.out.symm.trans HG2.out; exact Option.some.inj this))
          clear h3
          go_wp2
          go_quiet (fail)
          go_wp2
          go_ret
          exact ⟨ret_bool HN.out.symm, by first | exact HD.out.drewN _ | exact HD.out.drew⟩
      · obtain rfl : k = l.length := by omega
        have HE1 : Hid (decide (l = m) = true) := Lib.hid (decide_eq_true (by have h := HE.out; rw [List.take_length, HL.out, List.take_length] at h; exact h))
        go_wp2
        go_ret
        exact ⟨ret_bool HE1.out.symm, HD.out⟩
  · have hl2 : ((l.length : Int) != m.length) = true := by simp; omega
    have HN : Hid (decide (l = m) = false) := Lib.hid (decide_eq_false fun e => hlm (by rw [e]))
    go_enter Tryd.func18, Tryd.ntmps18
    go_wp2
    go_ret
    exact ⟨ret_bool HN.out.symm, Dr.refl _⟩
end Go.Proofs.YtbhlhgfgkiclgaaDoor.Set

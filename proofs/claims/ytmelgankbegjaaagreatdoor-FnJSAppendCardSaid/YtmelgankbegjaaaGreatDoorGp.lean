/- Part p of the chain. Conditions: those written at each lemma. -/
import Derived.Test.YtmelgankbegjaaaGreatDoorGm
import Derived.Test.YtmelgankbegjaaaGreatDoorGj
import Derived.Test.YtmelgankbegjaaaGreatDoorGo
set_option linter.unusedVariables false
set_option linter.unusedSimpArgs false
set_option maxRecDepth 100000
set_option maxHeartbeats 8000000
namespace Go.Proofs.YtmelgankbegjaaaGreatDoor.Js
open Go.RowKit Go.Proofs.YtmelgankbegjaaaGreatDoor.B

/-- The steps l lead from t to tc. -/
def Pre (t : J) (l : List Sp) (tc : J) : Prop := ∀ r, Way tc r → Way t (l ++ r)
theorem Pre.nil (t : J) : Pre t [] t := fun r h => h
theorem Pre.step {t tc : J} {l : List Sp} (h : Pre t l tc) (s : Sp) (k : Nat) (hf : fI tc s = (k : Int)) (hk : k < tc.is.length) : Pre t (l ++ [s]) tc.is[k] := fun r hr => by
  rw [List.append_assoc]
  exact h _ (.cons tc s r k hf hk hr)
theorem Pre.done {t tc : J} {l : List Sp} (h : Pre t l tc) : Way t l := by
  have := h [] (.nil tc)
  rwa [List.append_nil] at this
/-- What JSGet answers, once it has been called. -/
def Jw (E : Nat → Prop) (sp : Sp) (tc : J) (L : Nat → Bool) (f : Nat → Value) (W : World) : Prop := L 6 = true → ∃ (u : Value) (b : Bool) (c : J), f 6 = .tuple #[u, .bool b] ∧ JN E W c u ∧ ((b = true ∧ getJ [sp] tc = some c ∧ Wf c) ∨ (b = false ∧ getJ [sp] tc = none))
section
variable {E : Nat → Prop} {sp : Sp} {tc : J} {L : Nat → Bool} {f : Nat → Value} {W W' : World}
theorem Jw.loc {n : Nat} (hn : 6 < n) (L L' : Nat → Bool) (f f' : Nat → Value) (w : World) (h1 : ∀ k, k < n → L k = L' k) (h2 : ∀ k, k < n → f k = f' k) (h : Jw E sp tc L f w) : Jw E sp tc L' f' w := by
  unfold Jw at *
  rw [← h1 6 hn, ← h2 6 hn]
  exact h
theorem Jw.keep {i : Nat} (h8 : i ≠ 6) (v : Value) (hb : Below W.heap.size W W') (h : Jw E sp tc L f W) : Jw E sp tc (Rv.put L i) (Rv.upd f i v) W' := by
  unfold Jw Rv.put Rv.upd at *
  rw [if_neg (Ne.symm h8), if_neg (Ne.symm h8)]
  exact fun hl => (h hl).imp fun u h => h.imp fun b h => h.imp fun c h => ⟨h.1, h.2.1.below hb, h.2.2⟩
theorem Jw.call {u : Value} {b : Bool} {c : J} (h : JN E W' c u) (h2 : (b = true ∧ getJ [sp] tc = some c ∧ Wf c) ∨ (b = false ∧ getJ [sp] tc = none)) : Jw E sp tc (Rv.put L 6) (Rv.upd f 6 (.tuple #[u, .bool b])) W' := by
  unfold Jw Rv.put Rv.upd
  rw [if_pos rfl, if_pos rfl]
  exact fun _ => ⟨u, b, c, rfl, h, h2⟩
theorem Jw.store {i g : Nat} (h8 : i ≠ 6) (v : Value) (hg : W.grownBy W' (some g)) (hb : ∀ x, E x → x < g) (h : Jw E sp tc L f W) : Jw E sp tc (Rv.put L i) (Rv.upd f i v) W' := by
  unfold Jw Rv.put Rv.upd at *
  rw [if_neg (Ne.symm h8), if_neg (Ne.symm h8)]
  exact fun hl => (h hl).imp fun u h => h.imp fun b h => h.imp fun c h => ⟨h.1, h.2.1.grown hg (fun x hx e => by have := hb x hx; injection e with e; omega), h.2.2⟩
end
theorem info51 : (Tryz.prog.info? 51).map (fun i => (i.zero, i.size, i.bytes)) = some (some (.agg #[.string ⟨#[]⟩, .int .i64 0, .bool false]), 3, 32) := by kernel_rfl
/-- What jsWay answers. -/
def OutW (t : J) (w : World) (e : Ending) (w' : World) : Prop :=
  (∃ (A0 : Option Addr) (c0 : Nat) (l : List Sp), e = .returned (.tuple #[.slice A0 l.length c0, .bool true]) ∧ Way t l ∧ (∀ s ∈ l, Stp s) ∧ l.length ≤ 4 ∧ Rd w' 3 (.slice A0 l.length c0) l.length (stc l) ∧ Below w.heap.size w w') ∨ (e = .returned (.tuple #[.slice none 0 0, .bool false]) ∧ Below w.heap.size w w')
theorem way_any (E : Nat → Prop) (t : J) (v : Value) (AC : Option Addr) (nc cc : Nat) (xs : List Int) (w : World) (hE : ∀ x, E x → x < w.heap.size) (hj : JN E w t v) (hwf : Wf t) (hr : Rd w 1 (.slice AC nc cc) nc (u8s xs)) (hx : ∀ z ∈ xs, 0 ≤ z ∧ z ≤ 255) :
    Calls Tryz.prog 7 #[v, .slice AC nc cc] w (OutW t w) := by
  obtain ⟨A, c, A2, c2, rfl, _⟩ := hj.five
  have hba := (Below.refl w.heap.size w).alloc (Nat.le_refl _) (.cells #[.int .i64 t.k, .int .i64 t.n, .string t.s, .slice A t.ns.length c, .slice A2 t.is.length c2] 26)
  have hn1 := heap_alloc_new w (.cells #[.int .i64 t.k, .int .i64 t.n, .string t.s, .slice A t.ns.length c, .slice A2 t.is.length c2] 26)
  have hsz1 : (w.alloc (.cells #[.int .i64 t.k, .int .i64 t.n, .string t.s, .slice A t.ns.length c, .slice A2 t.is.length c2] 26)).heap.size = w.heap.size + 1 := by simp
  have hn2 := heap_alloc_new (w.alloc (.cells #[.int .i64 t.k, .int .i64 t.n, .string t.s, .slice A t.ns.length c, .slice A2 t.is.length c2] 26)) (.cells #[.slice AC nc cc, .int .i64 0] 46)
  have hbb := (Below.refl (w.alloc (.cells #[.int .i64 t.k, .int .i64 t.n, .string t.s, .slice A t.ns.length c, .slice A2 t.is.length c2] 26)).heap.size (w.alloc (.cells #[.int .i64 t.k, .int .i64 t.n, .string t.s, .slice A t.ns.length c, .slice A2 t.is.length c2] 26))).alloc (Nat.le_refl _) (.cells #[.slice AC nc cc, .int .i64 0] 46)
  have HG1 := Lib.hid ((hbb.block _ (Rv.lt_of_blk hn1)).trans hn1)
  rw [hsz1] at hn2
  have HX := Lib.hid (hba.trans (hbb.mono hba.size))
  have HM := Lib.hid (show Mst w ((w.alloc (.cells #[.int .i64 t.k, .int .i64 t.n, .string t.s, .slice A t.ns.length c, .slice A2 t.is.length c2] 26)).alloc (.cells #[.slice AC nc cc, .int .i64 0] 46)) (w.heap.size + 1) from ⟨AC, nc, cc, 0, xs, hn2, hr, hx, HX.out⟩)
  have HJ := Lib.hid (hj.below HX.out)
  have HW := Lib.hid hwf
  have HE := Lib.hid hE
  have BY := Lib.hid (fun W h => byte_any w W (w.heap.size + 1) (by omega) h)
  have WD := Lib.hid (fun W h => word_any w W (w.heap.size + 1) (by omega) h)
  clear hba hn1 hsz1 hn2 hbb hj hwf hE hr hx
  go_enter Tryz.func7, Tryz.ntmps7
  go_upto_region 3 with fail
  generalize (w.alloc (.cells #[.int .i64 t.k, .int .i64 t.n, .string t.s, .slice A t.ns.length c, .slice A2 t.is.length c2] 26)).alloc (.cells #[.slice AC nc cc, .int .i64 0] 46) = X at *
  go_wp2_with (go_at_call 15; (with_reducible refine (BY.out _ HM.out).mono ?_); rintro e w1 ⟨x, rfl, hx0, hx1, hm, hg⟩; have HM1 := Lib.hid hm; have HG11 := Lib.hid (blk_grown HG1.out hg (fun e => by injection e with e; omega)); have HX1 := Lib.hid (HX.out.grown hg HX.out.size (fun k hk => by injection hk with hk; omega)); have HJ1 := Lib.hid (HJ.out.grown hg (fun y hy e => by have := HE.out y hy; injection e with e; omega)); clear hm hg)
  go_loopg [7, 8] (x % 5).toNat (fun kq v7 v8 wr => ∃ (n : Int) (l : List Sp) (tc : J) (A1 : Option Addr) (c1 : Nat) (B1 : Option Addr) (d1 : Nat) (A9 : Option Addr) (c9 : Nat), v7 = .slice A9 l.length c9 ∧ v8 = .int .i64 n ∧ n = (kq : Int) ∧ l.length + kq ≤ 4 ∧ Hid (Pre t l tc) ∧ Hid (∀ s ∈ l, Stp s) ∧ Hid (Wf tc) ∧ Hid (JN E wr tc (.agg #[.int .i64 tc.k, .int .i64 tc.n, .string tc.s, .slice A1 tc.ns.length c1, .slice B1 tc.is.length d1])) ∧ Hid (wr.heap[w.heap.size]? = some (.cells #[.int .i64 tc.k, .int .i64 tc.n, .string tc.s, .slice A1 tc.ns.length c1, .slice B1 tc.is.length d1] 26 (0, 0))) ∧ Hid (wr.ownsRow (w.heap.size + 2) 51 3 (.slice A9 l.length c9) l.length (stc l)) ∧ Hid (Mst w wr (w.heap.size + 1)) ∧ Hid (Below w.heap.size w wr))
  case atStart =>
    refine ⟨_, [], t, A, c, A2, c2, _, _, rfl, rfl, ?_, ?_, Lib.hid (Pre.nil t), Lib.hid (fun s hs => by cases hs), HW, HJ1, HG11, Lib.hid (World.ownsRow_nil _ _ _ _), HM1, HX1⟩
    · exact (Int.toNat_of_nonneg (Int.emod_nonneg _ (by omega))).symm
    · have := Int.emod_lt_of_pos x (show (0 : Int) < 5 by omega); simp; omega
  case round =>
    obtain ⟨n, l, tc, A1, c1, B1, d1, A9, c9, rfl, rfl, hn0, hn4, HP, HS, HWC, HJC, HG, HO, HMr, HB⟩ := hrel
    clear HM1 HG11 HX1 HJ1 HM HG1 HX HJ
    by_cases hlt : 0 < n
    · go_upto_region 8 with (first
        | (go_at_call 15; (with_reducible refine (BY.out _ HMr.out).mono ?_); rintro e w2 ⟨y, rfl, hy0, hy1, hm, hg⟩; have HM2 := Lib.hid hm; have HG2 := Lib.hid hg; clear hm hg)
        | (go_at_call 16; (with_reducible refine (WD.out _ HM2.out).mono ?_); rintro e w3 ⟨sw, rfl, hw, hm, hg⟩; have HM3 := Lib.hid hm; have HG3 := Lib.hid (grown_then HG2.out hg); have HSW := Lib.hid hw; have hcat : ∀ W, (Op.stringOp .add (⟨#[110]⟩ : ByteArray) sw).run Tryz.prog W = .ok (.string ((⟨#[110]⟩ : ByteArray) ++ sw)) W := (fun W => run_string_add_sum W _ _ (by have := hw.1; show 1 + sw.size ≤ 9223372036854775807; omega)); clear hm hg))
      have hal : Below w3.heap.size w3 (w3.alloc (.cells #[.string (⟨#[110]⟩ ++ sw), .int .i64 (y / 2 % 6), .bool (y % 2 == 0)] 51)) := (Below.refl _ _).alloc (Nat.le_refl _) _
      have hg3 := HG3.out.size
      have HOL : Hid (∀ k, (Value.slice A9 l.length c9).ownBlock = some k → k < w3.heap.size) := Lib.hid (fun k hk => Nat.lt_of_lt_of_le (HO.out.lt k hk).2 hg3)
      have hbl : ∀ k, some (w.heap.size + 1) = some k → w.heap.size ≤ k := fun k hk => by injection hk with hk; omega
      have HC0 := Lib.hid (heap_alloc_new w3 (.cells #[.string (⟨#[110]⟩ ++ sw), .int .i64 (y / 2 % 6), .bool (y % 2 == 0)] 51))
      have HG := Lib.hid ((hal.block _ (Rv.lt_of_blk (blk_grown HG.out HG3.out (fun e => by injection e with e; omega)))).trans (blk_grown HG.out HG3.out (fun e => by injection e with e; omega)))
      have HJC := Lib.hid ((HJC.out.grown HG3.out (fun x hx e => by have := HE.out x hx; injection e with e; omega)).below hal)
      have HO := Lib.hid (own_below (own_kept HO.out HG3.out (fun k hk e => by have := (HO.out.lt k hk).1; injection e with e; omega)) hal)
      have HMs := Lib.hid (HM3.out.below hal)
      have HB := Lib.hid ((HB.out.grown HG3.out HB.out.size hbl).trans (hal.mono (Nat.le_trans HB.out.size hg3)))
      have HSZ0 : Hid (w.heap.size + 2 ≤ w3.heap.size) := Lib.hid (by have := HMr.out.lt; omega)
      have HSZ := Lib.hid (Nat.le_trans HSZ0.out hal.size)
      clear hal hg3 hbl HM2 HG2 HM3 HG3 HMr
      generalize w3.alloc (.cells #[.string (⟨#[110]⟩ ++ sw), .int .i64 (y / 2 % 6), .bool (y % 2 == 0)] 51) = Y at *
      obtain ⟨y0, y1, y2, y3, y4⟩ := Rv.cells5 HG.out
      go_cut [35] from 36 to 107 (fun v35 wc => v35 = .bool (decide (tc.k = 5 ∧ 0 < tc.ns.length ∧ y % 4 ≠ 3)) ∧ Hid (wc = Y))
      case first =>
        by_cases h5 : tc.k = 5
        · have hq : (tc.k == 5) = true := by simp [h5]
          by_cases hl0 : 0 < tc.ns.length
          · have hnl : tc.ns ≠ [] := fun e => by rw [e] at hl0; simp at hl0
            have hl1 : decide ((0 : Int) < (tc.ns.length : Int)) = true := decide_eq_true (by omega)
            by_cases h3 : y % 4 = 3
            · have hq3 : (y % 4 != 3) = false := by simp [h3]
              have hd : decide (tc.k = 5 ∧ 0 < tc.ns.length ∧ y % 4 ≠ 3) = false := decide_eq_false (fun h => h.2.2 h3)
              have HD := Lib.hid hd
              clear h5 h3 hd
              go_wp2_with fail
              go_meet
              case rel => exact ⟨by rw [HD.out], Lib.hid rfl⟩
            · have hq3 : (y % 4 != 3) = true := by simp [h3]
              have hd : decide (tc.k = 5 ∧ 0 < tc.ns.length ∧ y % 4 ≠ 3) = true := decide_eq_true ⟨h5, hl0, h3⟩
              have HD := Lib.hid hd
              clear h5 h3 hd
              go_wp2_with fail
              go_meet
              case rel => exact ⟨by rw [HD.out], Lib.hid rfl⟩
          · have hnl : tc.ns = [] := List.eq_nil_of_length_eq_zero (by omega)
            have hl1 : decide ((0 : Int) < (tc.ns.length : Int)) = false := decide_eq_false (by omega)
            have hd : decide (tc.k = 5 ∧ 0 < tc.ns.length ∧ y % 4 ≠ 3) = false := decide_eq_false (fun h => hl0 h.2.1)
            have HD := Lib.hid hd
            clear h5 hd hl0
            go_wp2_with fail
            go_meet
            case rel => exact ⟨by rw [HD.out], Lib.hid rfl⟩
        · have hq : (tc.k == 5) = false := by simp [h5]
          have hd : decide (tc.k = 5 ∧ 0 < tc.ns.length ∧ y % 4 ≠ 3) = false := decide_eq_false (fun h => h5 h.1)
          have HD := Lib.hid hd
          clear h5 hd
          go_wp2_with fail
          go_meet
          case rel => exact ⟨by rw [HD.out], Lib.hid rfl⟩
      case rest =>
        obtain ⟨rfl, HWc⟩ := hcut
        have hWc := HWc.out.symm
        subst hWc
        clear HWc
        by_cases cA : tc.k = 5 ∧ 0 < tc.ns.length ∧ y % 4 ≠ 3
        · rw [decide_eq_true cA]
          obtain ⟨h5, hl0, h3⟩ := cA
          have hwn := HWC.out.obj h5
          obtain ⟨An, cn, Bn, dn, en, hnn, _⟩ := HJC.out.five
          (injection en with en); (injection en with en); simp only [List.cons.injEq, Value.slice.injEq, true_and, and_true] at en
          obtain ⟨⟨rfl, rfl⟩, rfl, rfl⟩ := en
          obtain ⟨bn, on, cn', hv, -, -, hbn, hcn⟩ := hnn.1.open hl0
          (injection hv with hv1 _ hv3); subst hv1; subst hv3
          obtain ⟨ix, hix⟩ : ∃ ix : Nat, y / 4 % (tc.ns.length : Int) = (ix : Int) := ⟨(y / 4 % (tc.ns.length : Int)).toNat, by rw [Int.toNat_of_nonneg (Int.emod_nonneg _ (by omega))]⟩
          have hixl : ix < tc.ns.length := by have := Int.emod_lt_of_pos (y / 4) (show (0 : Int) < tc.ns.length by omega); omega
          have hcx := hcn ix _ (by rw [List.getElem?_map, List.getElem?_eq_getElem hixl]; rfl)
          have hwx := hwn _ (List.getElem_mem hixl)
          have HCX := Lib.hid (fun (W : World) (hg : Y.grownBy W (some w3.heap.size)) (hne : some bn ≠ some w3.heap.size) => show W.cell? ⟨bn, on + ix, none⟩ = some (.string tc.ns[ix]) from (World.cell?_of_block (hg.block bn hbn hne)).trans hcx)
          have HNE : Hid (some bn ≠ some w3.heap.size) := Lib.hid (fun e => by
            injection e with e
            have hb1 := hnn.2 bn on c1 rfl hl0
            have := HE.out _ hb1
            have := HSZ0.out
            omega)
          have hl1 : (0 : Int) < (tc.ns.length : Int) := by omega
          have hnl : tc.ns ≠ [] := fun e => by rw [e] at hl0; simp at hl0
          have hq4 : IntKind.i64.wrap (y.tdiv 4) = y / 4 := by rw [Int.tdiv_eq_ediv_of_nonneg hy0]; exact IntWalk.i64_in _ (by omega)
          have hq5 : (y / 4).tmod (tc.ns.length : Int) = (ix : Int) := by rw [Int.tmod_eq_emod_of_nonneg (by omega)]; exact hix
          have HIX := Lib.hid hixl
          generalize tc.ns[ix] = nm at *
          clear hwn hnn hbn hcn hcx h5 h3 hixl
          go_upto_region 9 with fail
          have hgc0 := Rv.lt_of_blk HC0.out
          refine Rv.region_fin (n := 109) (by kernel_rfl) #[50, 51, 52, 53, 54, 55, 56, 57, 58, 59, 60, 1011] #[] (fun i f W => if i = 11 then (fun f W => W.heap[w3.heap.size]? = some (.cells #[.string nm, .int .i64 0, .bool false] 51 (0, 0))) f W else f i = (#[.pointer (some ⟨w.heap.size, 3, none⟩), .slice (some ⟨bn, on, none⟩) tc.ns.length c1, .int .i64 y, .int .i64 (y / 4), .pointer (some ⟨w.heap.size, 3, none⟩), .slice (some ⟨bn, on, none⟩) tc.ns.length c1, .int .i64 (tc.ns.length : Int), .int .i64 (ix : Int), .pointer (some ⟨bn, on + ix, none⟩), .string nm, .agg #[.string nm, .int .i64 0, .bool false], undef] : Array Value).getD i undef) (fun i j => false) (fun i => i == 11) (fun i f W W' => True) (fun W => Y.grownBy W (some w3.heap.size) ∧ ∃ a0 a1 a2 : Value, W.heap[w3.heap.size]? = some (.cells #[a0, a1, a2] 51 (0, 0))) (fun _ => True) (fun _ _ _ => True) (fun _ _ _ _ _ _ _ _ => trivial) (fun i f f' w hi h hd hg => ?_) (fun i j f w w' hi hj hij hK hdp h hr => ?_) (fun i h g b hg => ?_) rfl (by kernel_rfl) (fun i h g b hg => ?_) (⟨⟨rfl, rfl, rfl, Nat.le_refl _, fun _ _ _ => rfl⟩, _, _, _, HC0.out⟩) (trivial) (fun _ => trivial) (fun i h hr f w hf => ?_) (fun _ _ _ _ _ _ _ _ => trivial) ?_ ?_
          · by_cases hi1011 : i = 11
            · subst hi1011
              rw [if_pos rfl] at hg ⊢
              exact hg
            rw [if_neg hi1011] at hg ⊢
            rw [← h]; exact hg
          · by_cases hj1011 : j = 11
            · subst hj1011
              rw [if_pos rfl] at h ⊢
              rcases hr with ⟨hK1, hr⟩ | hr
              · have e : i = 11 := by simpa using hK1
                exact absurd e hij
              · exact (hr.block _ (Rv.lt_of_blk h)).trans h
            rw [if_neg hj1011] at h ⊢
            exact h
          · match i, h, hg with
            | 0, _, hg => cases hg
            | 1, _, hg => cases hg
            | 2, _, hg => cases hg
            | 3, _, hg => cases hg
            | 4, _, hg => cases hg
            | 5, _, hg => cases hg
            | 6, _, hg => cases hg
            | 7, _, hg => cases hg
            | 8, _, hg => cases hg
            | 9, _, hg => cases hg
            | 10, _, hg => cases hg
            | 11, _, hg => cases hg
            | m + 12, h, _ => exact absurd h (by show ¬ m + 12 < 12; omega)
          · match i, h, hg with
            | 0, _, hg => cases hg
            | 1, _, hg => cases hg
            | 2, _, hg => cases hg
            | 3, _, hg => cases hg
            | 4, _, hg => cases hg
            | 5, _, hg => cases hg
            | 6, _, hg => cases hg
            | 7, _, hg => cases hg
            | 8, _, hg => cases hg
            | 9, _, hg => cases hg
            | 10, _, hg => cases hg
            | 11, _, hg => cases hg
            | m + 12, h, _ => exact absurd h (by show ¬ m + 12 < 12; omega)
          · match i, h, hr, hf with
            | 0, _, hr, _ => exact Bool.noConfusion (show true = false from hr)
            | 1, _, hr, _ => exact Bool.noConfusion (show true = false from hr)
            | 2, _, hr, _ => exact Bool.noConfusion (show true = false from hr)
            | 3, _, hr, _ => exact Bool.noConfusion (show true = false from hr)
            | 4, _, hr, _ => exact Bool.noConfusion (show true = false from hr)
            | 5, _, hr, _ => exact Bool.noConfusion (show true = false from hr)
            | 6, _, hr, _ => exact Bool.noConfusion (show true = false from hr)
            | 7, _, hr, _ => exact Bool.noConfusion (show true = false from hr)
            | 8, _, hr, _ => exact Bool.noConfusion (show true = false from hr)
            | 9, _, hr, _ => exact Bool.noConfusion (show true = false from hr)
            | 10, _, hr, _ => exact Bool.noConfusion (show true = false from hr)
            | 11, _, hr, _ => exact Bool.noConfusion (show true = false from hr)
            | m + 12, h, _, _ => exact absurd h (by show ¬ m + 12 < 12; omega)
          · intro i h a W hrun hbase hpre hdep htr hta hJ
            obtain ⟨y0, y1, y2, y3, y4⟩ := Rv.cells5 (blk_grown HG.out htr.1 (fun e => by injection e with e; have := HSZ0.out; omega))
            have hcx := HCX.out W htr.1 HNE.out
            have hl9 := HIX.out
            match i, h with
            | 0, _ =>
              obtain ⟨e2, x2⟩ := Rv.ev (show a.tmps.getD 2 undef = .pointer (some ⟨w.heap.size, 0, none⟩) from hbase 2 rfl)
              exact Rv.step_op (op := Go.Op.fieldAddr 26 (Go.Operand.tmp 2) 3) (v := .pointer (some ⟨w.heap.size, 3, none⟩)) (w1 := W) rfl rfl (fun d pos aft g => by unfold execOp; go_simp) ⟨_, rfl, rfl, .inr (Below.refl _ _), htr, fun _ ht => ht, fun _ _ _ => trivial⟩
            | 1, _ =>
              obtain ⟨e50, x50⟩ := Rv.ev (show a.tmps.getD 50 undef = .pointer (some ⟨w.heap.size, 3, none⟩) from hdep 0 rfl rfl)
              exact Rv.step_op (op := Go.Op.load 23 (Go.Operand.tmp 50)) (v := .slice (some ⟨bn, on, none⟩) tc.ns.length c1) (w1 := W) rfl rfl (fun d pos aft g => by unfold execOp; go_simp) ⟨_, rfl, rfl, .inr (Below.refl _ _), htr, fun _ ht => ht, fun _ _ _ => trivial⟩
            | 2, _ =>
              obtain ⟨e9, x9⟩ := Rv.ev (show a.tmps.getD 9 undef = .int .i64 y from hbase 9 rfl)
              exact Rv.step_op (op := Go.Op.move (Go.Operand.tmp 9)) (v := .int .i64 y) (w1 := W) rfl rfl (fun d pos aft g => by unfold execOp; go_simp) ⟨_, rfl, rfl, .inr (Below.refl _ _), htr, fun _ ht => ht, fun _ _ _ => trivial⟩
            | 3, _ =>
              obtain ⟨e52, x52⟩ := Rv.ev (show a.tmps.getD 52 undef = .int .i64 y from hdep 2 rfl rfl)
              exact Rv.step_op (op := Go.Op.binOp Go.BinOp.quo 3 (Go.Operand.tmp 52) (Go.Operand.const (Go.Value.int Go.IntKind.i64 4)) 3) (v := .int .i64 (y / 4)) (w1 := W) rfl rfl (fun d pos aft g => by unfold execOp; go_simp) ⟨_, rfl, rfl, .inr (Below.refl _ _), htr, fun _ ht => ht, fun _ _ _ => trivial⟩
            | 4, _ =>
              obtain ⟨e2, x2⟩ := Rv.ev (show a.tmps.getD 2 undef = .pointer (some ⟨w.heap.size, 0, none⟩) from hbase 2 rfl)
              exact Rv.step_op (op := Go.Op.fieldAddr 26 (Go.Operand.tmp 2) 3) (v := .pointer (some ⟨w.heap.size, 3, none⟩)) (w1 := W) rfl rfl (fun d pos aft g => by unfold execOp; go_simp) ⟨_, rfl, rfl, .inr (Below.refl _ _), htr, fun _ ht => ht, fun _ _ _ => trivial⟩
            | 5, _ =>
              obtain ⟨e54, x54⟩ := Rv.ev (show a.tmps.getD 54 undef = .pointer (some ⟨w.heap.size, 3, none⟩) from hdep 4 rfl rfl)
              exact Rv.step_op (op := Go.Op.load 23 (Go.Operand.tmp 54)) (v := .slice (some ⟨bn, on, none⟩) tc.ns.length c1) (w1 := W) rfl rfl (fun d pos aft g => by unfold execOp; go_simp) ⟨_, rfl, rfl, .inr (Below.refl _ _), htr, fun _ ht => ht, fun _ _ _ => trivial⟩
            | 6, _ =>
              obtain ⟨e55, x55⟩ := Rv.ev (show a.tmps.getD 55 undef = .slice (some ⟨bn, on, none⟩) tc.ns.length c1 from hdep 5 rfl rfl)
              exact Rv.step_op (op := Go.Op.call { callee := Go.Callee.builtin Go.Builtin.len, args := #[Go.Operand.tmp 55], argTypes := #[23] }) (v := .int .i64 (tc.ns.length : Int)) (w1 := W) rfl rfl (fun d pos aft g => by unfold execOp; go_simp) ⟨_, rfl, rfl, .inr (Below.refl _ _), htr, fun _ ht => ht, fun _ _ _ => trivial⟩
            | 7, _ =>
              obtain ⟨e53, x53⟩ := Rv.ev (show a.tmps.getD 53 undef = .int .i64 (y / 4) from hdep 3 rfl rfl)
              obtain ⟨e56, x56⟩ := Rv.ev (show a.tmps.getD 56 undef = .int .i64 (tc.ns.length : Int) from hdep 6 rfl rfl)
              exact Rv.step_op (op := Go.Op.binOp Go.BinOp.rem 3 (Go.Operand.tmp 53) (Go.Operand.tmp 56) 3) (v := .int .i64 (ix : Int)) (w1 := W) rfl rfl (fun d pos aft g => by unfold execOp; go_simp) ⟨_, rfl, rfl, .inr (Below.refl _ _), htr, fun _ ht => ht, fun _ _ _ => trivial⟩
            | 8, _ =>
              obtain ⟨e51, x51⟩ := Rv.ev (show a.tmps.getD 51 undef = .slice (some ⟨bn, on, none⟩) tc.ns.length c1 from hdep 1 rfl rfl)
              obtain ⟨e57, x57⟩ := Rv.ev (show a.tmps.getD 57 undef = .int .i64 (ix : Int) from hdep 7 rfl rfl)
              exact Rv.step_op (op := Go.Op.indexAddr 23 (Go.Operand.tmp 51) (Go.Operand.tmp 57)) (v := .pointer (some ⟨bn, on + ix, none⟩)) (w1 := W) rfl rfl (fun d pos aft g => by unfold execOp; go_simp) ⟨_, rfl, rfl, .inr (Below.refl _ _), htr, fun _ ht => ht, fun _ _ _ => trivial⟩
            | 9, _ =>
              obtain ⟨e58, x58⟩ := Rv.ev (show a.tmps.getD 58 undef = .pointer (some ⟨bn, on + ix, none⟩) from hdep 8 rfl rfl)
              exact Rv.step_op (op := Go.Op.load 9 (Go.Operand.tmp 58)) (v := .string nm) (w1 := W) rfl rfl (fun d pos aft g => by unfold execOp; go_simp) ⟨_, rfl, rfl, .inr (Below.refl _ _), htr, fun _ ht => ht, fun _ _ _ => trivial⟩
            | 10, _ =>
              obtain ⟨e59, x59⟩ := Rv.ev (show a.tmps.getD 59 undef = .string nm from hdep 9 rfl rfl)
              exact Rv.step_op (op := Go.Op.build 51 #[(0, Go.Operand.tmp 59)]) (v := .agg #[.string nm, .int .i64 0, .bool false]) (w1 := W) rfl rfl (fun d pos aft g => by unfold execOp; go_simp) ⟨_, rfl, rfl, .inr (Below.refl _ _), htr, fun _ ht => ht, fun _ _ _ => trivial⟩
            | 11, _ =>
              obtain ⟨e10, x10⟩ := Rv.ev (show a.tmps.getD 10 undef = .pointer (some ⟨w3.heap.size, 0, none⟩) from hbase 10 rfl)
              obtain ⟨e60, x60⟩ := Rv.ev (show a.tmps.getD 60 undef = .agg #[.string nm, .int .i64 0, .bool false] from hdep 10 rfl rfl)
              obtain ⟨a0, a1, a2, hq⟩ := htr.2
              obtain ⟨s0, s1, s2⟩ := Rv.cells3 hq
              obtain ⟨z0, z1, z2⟩ := Rv.frozen3 hq
              have gs := fun (V : World) j u => grown_set (Below.refl _ V) w3.heap.size j u
              have hgg := grown_then (grown_then (gs W 0 (.string nm)) (gs _ 1 (.int .i64 0))) (gs _ 2 (.bool false))
              exact Rv.step_skip (op := Go.Op.store 51 (Go.Operand.tmp 10) (Go.Operand.tmp 60)) (ty := 0) (w1 := (((W.setCell ⟨w3.heap.size, 0, none⟩ (.string nm)).setCell ⟨w3.heap.size, 1, none⟩ (.int .i64 0)).setCell ⟨w3.heap.size, 2, none⟩ (.bool false))) rfl rfl (fun d pos aft g => by unfold execOp; go_simp) ⟨undef, rfl, Rv.sets3 hq _ _ _, .inl ⟨rfl, trivial⟩, ⟨grown_then htr.1 hgg, _, _, _, Rv.sets3 hq _ _ _⟩, (fun _ _ => trivial), fun _ _ _ => trivial⟩
            | m + 12, h => exact absurd h (by show ¬ m + 12 < 12; omega)
          intro W f hf htr hJ
          have f0 : f 0 = .pointer (some ⟨w.heap.size, 3, none⟩) := hf 0 (by show 0 < 12; omega) rfl
          have f1 : f 1 = .slice (some ⟨bn, on, none⟩) tc.ns.length c1 := hf 1 (by show 1 < 12; omega) rfl
          have f2 : f 2 = .int .i64 y := hf 2 (by show 2 < 12; omega) rfl
          have f3 : f 3 = .int .i64 (y / 4) := hf 3 (by show 3 < 12; omega) rfl
          have f4 : f 4 = .pointer (some ⟨w.heap.size, 3, none⟩) := hf 4 (by show 4 < 12; omega) rfl
          have f5 : f 5 = .slice (some ⟨bn, on, none⟩) tc.ns.length c1 := hf 5 (by show 5 < 12; omega) rfl
          have f6 : f 6 = .int .i64 (tc.ns.length : Int) := hf 6 (by show 6 < 12; omega) rfl
          have f7 : f 7 = .int .i64 (ix : Int) := hf 7 (by show 7 < 12; omega) rfl
          have f8 : f 8 = .pointer (some ⟨bn, on + ix, none⟩) := hf 8 (by show 8 < 12; omega) rfl
          have f9 : f 9 = .string nm := hf 9 (by show 9 < 12; omega) rfl
          have f10 : f 10 = .agg #[.string nm, .int .i64 0, .bool false] := hf 10 (by show 10 < 12; omega) rfl
          have HS11 := Lib.hid (show (fun f W => W.heap[w3.heap.size]? = some (.cells #[.string nm, .int .i64 0, .bool false] 51 (0, 0))) f W from hf 11 (by show 11 < 12; omega) rfl)
          clear hf
          refine (show ∀ (a : Act) (w : World), Code.wp _ _ _ a w → _ from by assumption) _ _ ?_
          refine Rv.fin_swap (L' := [(50, f 0), (51, f 1), (52, f 2), (53, f 3), (54, f 4), (55, f 5), (56, f 6), (57, f 7), (58, f 8), (59, f 9), (60, f 10), (1011, f 11)]) rfl ?_
          rw [f0, f1, f2, f3, f4, f5, f6, f7, f8, f9, f10]
          clear f0 f1 f2 f3 f4 f5 f6 f7 f8 f9 f10
          simp only [Rv.fin, List.foldl_cons, List.foldl_nil, Act.put, List.setIfInBounds_toArray, List.set_cons_succ, List.set_cons_zero, List.set_nil]
          have HC := Lib.hid HS11.out
          have hg9 := htr.1
          have hz0 := HSZ0.out
          have HG := Lib.hid (blk_grown HG.out hg9 (fun e => by injection e with e; omega))
          have HJC := Lib.hid (HJC.out.grown hg9 (fun x hx e => by have := HE.out x hx; injection e with e; omega))
          have HMs := Lib.hid (HMs.out.grown hg9 (fun k hk => by injection hk with hk; omega))
          have HO := Lib.hid (own_kept HO.out hg9 (fun k hk e => by have := HOL.out k hk; injection e with e; omega))
          have HB := Lib.hid (HB.out.grown hg9 HB.out.size (fun k hk => by injection hk with hk; omega))
          have HSZ := Lib.hid (Nat.le_trans HSZ.out hg9.size)
          clear hg9 hz0 htr HS11 HCX HNE HC0
          rename World => Y2
          generalize Y2 = Y at *
          generalize (some (⟨bn, on, none⟩ : Addr)) = A1 at *
          obtain ⟨y0, y1, y2, y3, y4⟩ := Rv.cells5 HG.out
          obtain ⟨q0, q1, q2⟩ := Rv.cells3 HC.out
          go_upto_region 14 with fail
          clear q0 q1 q2 y0 y1 y2 y3 y4
          obtain ⟨sp, e1, e2, e3⟩ : ∃ sp : Sp, nm = sp.x ∧ (0 : Int) = (sp.i : Int) ∧ false = sp.b := ⟨⟨nm, 0, false⟩, rfl, by first | rfl | (simp; omega) | omega, rfl⟩
          have HSTP : Hid (Stp sp) := Lib.hid (by obtain ⟨x, i, b⟩ := sp; (try simp only at e1 e2 e3); subst e1; subst e3; exact ⟨by show i ≤ 9; omega, hwx.1.seven, fun _ => hwx.2⟩)
          have HSK : Hid (sp.b = true → tc.k = 4) := Lib.hid (by rw [← e3]; exact (fun h => by cases h))
          rw [e1, e2, e3] at HC
          clear e1 e2 e3
          obtain ⟨q0, q1, q2⟩ := Rv.cells3 HC.out
          go_upto_region 15 with (at_builtin; refine app1 (w0 := Y) (w.heap.size + 2) rfl (.tmp 90) (.tmp 92) 28 51 (.agg #[.string ⟨#[]⟩, .int .i64 0, .bool false]) 3 32 rfl Tryz.underlying28 info51 rfl (by omega) (by omega) _ _ _ _ rfl rfl rfl (by intro x hx; simp only [List.mem_cons, List.not_mem_nil, or_false] at hx; rcases hx with rfl | rfl | rfl <;> rfl) HO.out (Below.refl _ _) HSZ.out (by omega) ?_; intro v8 w8 hown hb8 hg8 hat8; obtain ⟨A8, c8, hv8, hle8, hcm8⟩ := (Rd.of_own hown).shape; subst hv8; have HO8 := Lib.hid hown; have HG8 := Lib.hid hg8; clear hown hb8 hat8 hg8)
          have hown8 : ∀ k, (Value.slice A9 l.length c9).ownBlock = some k → w.heap.size + 2 ≤ k := fun k hk => (HO.out.lt k hk).1
          have HMs := Lib.hid (HMs.out.grown HG8.out (fun k hk => by have := hown8 k hk; omega))
          have HG := Lib.hid (blk_grown HG.out HG8.out (fun e => by have := hown8 _ e.symm; omega))
          have HJC := Lib.hid (HJC.out.grown HG8.out (fun x hx e => by have := hown8 _ e.symm; have := HE.out x hx; omega))
          have HB := Lib.hid (HB.out.grown HG8.out HB.out.size (fun k hk => by have := hown8 k hk; omega))
          have HXS := Lib.hid (Nat.le_trans HSZ.out HG8.out.size)
          obtain ⟨b8, o8, hA8⟩ : ∃ b o, A8 = some ⟨b, o, none⟩ := by
            obtain ⟨b, o, c', hv, _⟩ := (Rd.of_own HO8.out).open (by omega)
            injection hv with e
            exact ⟨b, o, e⟩
          subst hA8
          obtain ⟨AL, htl, hrt⟩ := tail_ofS (P := Tryz.prog) 28 51 3 Tryz.underlying28 (fun W => by kernel_rfl) b8 o8 (l.length + 1) c8 l.length (by omega) hle8
          have hst3 : (stc l).length = l.length * 3 := stc_len l
          have hrt1 : Rd w8 3 (.slice AL 1 (c8 - l.length)) 1 (stc [sp]) := by
            have h := hrt w8 _ (Rd.of_own HO8.out)
            rw [show l.length + 1 - l.length = 1 by omega, ← hst3, List.drop_left] at h
            exact h
          rw [show l.length + 1 - l.length = 1 by omega] at htl
          have HTL := Lib.hid htl
          have HL5 := Lib.hid (show l.length ≤ 4 by omega)
          have GT := Lib.hid (fun (W : World) (hb : Below w8.heap.size w8 W) => get_any E tc (.agg #[.int .i64 tc.k, .int .i64 tc.n, .string tc.s, .slice A1 tc.ns.length c1, .slice B1 tc.is.length d1]) AL (c8 - l.length) [sp] W (fun x hx => by have := HE.out x hx; have := HXS.out; have := hb.size; omega) (HJC.out.below hb) HWC.out (hrt1.below hb) (by simp))
          clear hrt hrt1 htl q0 q1 q2 HC HSZ hown8 HG8 hst3 hle8 hcm8
          have ec8 : ∃ cm, cm = c8 - l.length := ⟨_, rfl⟩
          obtain ⟨cm, ec8⟩ := ec8
          rw [← ec8] at HTL GT
          clear ec8
          generalize w8 = X at *
          have hga := Rv.lt_of_blk HG.out
          refine Rv.region_fin (n := 109) (by kernel_rfl) #[95, 96, 97, 98, 99, 100, 101, 94, 102, 103, 11, 1011, 12] #[] (fun i f W => if i = 12 then (fun f W => f 12 = f 9) f W else if i = 11 then (fun f W => ∃ (g : Nat) (z0 z1 z2 z3 z4 : Value), f 10 = .pointer (some ⟨g, 0, none⟩) ∧ f 8 = .agg #[z0, z1, z2, z3, z4] ∧ W.heap[g]? = some (.cells #[z0, z1, z2, z3, z4] 26 (0, 0)) ∧ X.heap.size ≤ g) f W else if i = 10 then (fun f W => ∃ (g : Nat), f 10 = .pointer (some ⟨g, 0, none⟩) ∧ W.heap[g]? = some (.cells #[.int .i64 0, .int .i64 0, .string ⟨#[]⟩, .slice none 0 0, .slice none 0 0] 26 (0, 0)) ∧ X.heap.size ≤ g) f W else if i = 9 then (fun f W => ∃ (u : Value) (b : Bool), f 7 = .tuple #[u, .bool b] ∧ f 9 = .bool b) f W else if i = 8 then (fun f W => ∃ (u : Value) (b : Bool), f 7 = .tuple #[u, .bool b] ∧ f 8 = u) f W else if i = 7 then (fun f W => ∃ (u : Value) (b : Bool), f 6 = .tuple #[u, .bool b] ∧ f 7 = f 6) f W else if i = 6 then (fun f W => ∃ (u : Value) (b : Bool), f 6 = .tuple #[u, .bool b]) f W else f i = (#[.agg #[.int .i64 tc.k, .int .i64 tc.n, .string tc.s, .slice A1 tc.ns.length c1, .slice B1 tc.is.length d1], .slice (some ⟨b8, o8, none⟩) (l.length + 1) c8, .slice (some ⟨b8, o8, none⟩) (l.length + 1) c8, .int .i64 ((l.length : Int) + 1), .int .i64 (l.length : Int), .slice AL 1 cm, undef, undef, undef, undef, undef, undef, undef] : Array Value).getD i undef) (fun i j => (i == 11 && (j == 10))) (fun i => i == 11) (fun i f W W' => True) (fun W => Below X.heap.size X W) (fun _ => True) (Jw E sp tc) (Jw.loc (by show 6 < 13; omega)) (fun i f f' w hi h hd hg => ?_) (fun i j f w w' hi hj hij hK hdp h hr => ?_) (fun i h g b hg => ?_) rfl (by kernel_rfl) (fun i h g b hg => ?_) ((Below.refl _ _).drew) (trivial) (fun f h => (by cases h)) (fun i h hr f w hf => ?_) (fun i h hr => absurd hr (Rv.allrun (by kernel_rfl) i h)) ?_ ?_
          · by_cases hi12 : i = 12
            · subst hi12
              rw [if_pos rfl] at hg ⊢
              exact h.symm.trans (hg.trans (hd 9 rfl))
            rw [if_neg hi12] at hg ⊢
            by_cases hi1011 : i = 11
            · subst hi1011
              rw [if_pos rfl] at hg ⊢
              obtain ⟨g, z0, z1, z2, z3, z4, q1, q2, q3⟩ := hg
              exact ⟨g, z0, z1, z2, z3, z4, (hd 10 rfl).symm.trans q1, (hd 8 rfl).symm.trans q2, q3⟩
            rw [if_neg hi1011] at hg ⊢
            by_cases hi11 : i = 10
            · subst hi11
              rw [if_pos rfl] at hg ⊢
              obtain ⟨g, q1, q2⟩ := hg
              exact ⟨g, h.symm.trans q1, q2⟩
            rw [if_neg hi11] at hg ⊢
            by_cases hi103 : i = 9
            · subst hi103
              rw [if_pos rfl] at hg ⊢
              obtain ⟨u, b, q1, q2⟩ := hg
              exact ⟨u, b, (hd 7 rfl).symm.trans q1, h.symm.trans q2⟩
            rw [if_neg hi103] at hg ⊢
            by_cases hi102 : i = 8
            · subst hi102
              rw [if_pos rfl] at hg ⊢
              obtain ⟨u, b, q1, q2⟩ := hg
              exact ⟨u, b, (hd 7 rfl).symm.trans q1, h.symm.trans q2⟩
            rw [if_neg hi102] at hg ⊢
            by_cases hi94 : i = 7
            · subst hi94
              rw [if_pos rfl] at hg ⊢
              obtain ⟨u, b, q1, q2⟩ := hg
              exact ⟨u, b, (hd 6 rfl).symm.trans q1, h.symm.trans (q2.trans (hd 6 rfl))⟩
            rw [if_neg hi94] at hg ⊢
            by_cases hi101 : i = 6
            · subst hi101
              rw [if_pos rfl] at hg ⊢
              obtain ⟨u, b, q⟩ := hg
              exact ⟨u, b, h.symm.trans q⟩
            rw [if_neg hi101] at hg ⊢
            rw [← h]; exact hg
          · by_cases hj12 : j = 12
            · subst hj12
              rw [if_pos rfl] at h ⊢
              exact h
            rw [if_neg hj12] at h ⊢
            by_cases hj1011 : j = 11
            · subst hj1011
              rw [if_pos rfl] at h ⊢
              rcases hr with ⟨hK1, hr⟩ | hr
              · have e : i = 11 := by simpa using hK1
                exact absurd e hij
              · obtain ⟨g, z0, z1, z2, z3, z4, e, e2, h1, h2⟩ := h
                exact ⟨g, z0, z1, z2, z3, z4, e, e2, (hr.block _ (Rv.lt_of_blk h1)).trans h1, h2⟩
            rw [if_neg hj1011] at h ⊢
            by_cases hj11 : j = 10
            · subst hj11
              rw [if_pos rfl] at h ⊢
              rcases hr with ⟨hK1, hr⟩ | hr
              · have e : i = 11 := by simpa using hK1
                subst e; exfalso; revert hK; decide
              · obtain ⟨g, e, h1, h2⟩ := h
                exact ⟨g, e, (hr.block _ (Rv.lt_of_blk h1)).trans h1, h2⟩
            rw [if_neg hj11] at h ⊢
            by_cases hj103 : j = 9
            · subst hj103
              rw [if_pos rfl] at h ⊢
              exact h
            rw [if_neg hj103] at h ⊢
            by_cases hj102 : j = 8
            · subst hj102
              rw [if_pos rfl] at h ⊢
              exact h
            rw [if_neg hj102] at h ⊢
            by_cases hj94 : j = 7
            · subst hj94
              rw [if_pos rfl] at h ⊢
              exact h
            rw [if_neg hj94] at h ⊢
            by_cases hj101 : j = 6
            · subst hj101
              rw [if_pos rfl] at h ⊢
              exact h
            rw [if_neg hj101] at h ⊢
            exact h
          · match i, h, hg with
            | 0, _, hg => cases hg
            | 1, _, hg => cases hg
            | 2, _, hg => cases hg
            | 3, _, hg => cases hg
            | 4, _, hg => cases hg
            | 5, _, hg => cases hg
            | 6, _, hg => cases hg
            | 7, _, hg => cases hg
            | 8, _, hg => cases hg
            | 9, _, hg => cases hg
            | 10, _, hg => cases hg
            | 11, _, hg => cases hg
            | 12, _, hg => cases hg
            | m + 13, h, _ => exact absurd h (by show ¬ m + 13 < 13; omega)
          · match i, h, hg with
            | 0, _, hg => cases hg
            | 1, _, hg => cases hg
            | 2, _, hg => cases hg
            | 3, _, hg => cases hg
            | 4, _, hg => cases hg
            | 5, _, hg => cases hg
            | 6, _, hg => cases hg
            | 7, _, hg => cases hg
            | 8, _, hg => cases hg
            | 9, _, hg => cases hg
            | 10, _, hg => cases hg
            | 11, _, hg => cases hg
            | 12, _, hg => cases hg
            | m + 13, h, _ => exact absurd h (by show ¬ m + 13 < 13; omega)
          · match i, h, hr, hf with
            | 0, _, hr, _ => exact Bool.noConfusion (show true = false from hr)
            | 1, _, hr, _ => exact Bool.noConfusion (show true = false from hr)
            | 2, _, hr, _ => exact Bool.noConfusion (show true = false from hr)
            | 3, _, hr, _ => exact Bool.noConfusion (show true = false from hr)
            | 4, _, hr, _ => exact Bool.noConfusion (show true = false from hr)
            | 5, _, hr, _ => exact Bool.noConfusion (show true = false from hr)
            | 6, _, hr, _ => exact Bool.noConfusion (show true = false from hr)
            | 7, _, hr, _ => exact Bool.noConfusion (show true = false from hr)
            | 8, _, hr, _ => exact Bool.noConfusion (show true = false from hr)
            | 9, _, hr, _ => exact Bool.noConfusion (show true = false from hr)
            | 10, _, hr, _ => exact Bool.noConfusion (show true = false from hr)
            | 11, _, hr, _ => exact Bool.noConfusion (show true = false from hr)
            | 12, _, hr, _ => exact Bool.noConfusion (show true = false from hr)
            | m + 13, h, _, _ => exact absurd h (by show ¬ m + 13 < 13; omega)
          · intro i h a W hrun hbase hpre hdep htr hta hJ
            match i, h with
            | 0, _ =>
              obtain ⟨e2, x2⟩ := Rv.ev (show a.tmps.getD 2 undef = .pointer (some ⟨w.heap.size, 0, none⟩) from hbase 2 rfl)
              obtain ⟨y0, y1, y2, y3, y4⟩ := Rv.cells5 ((htr.block _ hga).trans HG.out)
              exact Rv.step_op (op := Go.Op.load 26 (Go.Operand.tmp 2)) (v := .agg #[.int .i64 tc.k, .int .i64 tc.n, .string tc.s, .slice A1 tc.ns.length c1, .slice B1 tc.is.length d1]) (w1 := W) rfl rfl (fun d pos aft g => by unfold execOp; go_simp) ⟨_, rfl, rfl, .inr (Below.refl _ _), htr, fun _ ht => ht, fun L _ hJ => Jw.keep (by decide) _ (Below.refl _ _) hJ⟩
            | 1, _ =>
              obtain ⟨e7, x7⟩ := Rv.ev (show a.tmps.getD 7 undef = .slice (some ⟨b8, o8, none⟩) (l.length + 1) c8 from hbase 7 rfl)
              exact Rv.step_op (op := Go.Op.move (Go.Operand.tmp 7)) (v := .slice (some ⟨b8, o8, none⟩) (l.length + 1) c8) (w1 := W) rfl rfl (fun d pos aft g => by unfold execOp; go_simp) ⟨_, rfl, rfl, .inr (Below.refl _ _), htr, fun _ ht => ht, fun L _ hJ => Jw.keep (by decide) _ (Below.refl _ _) hJ⟩
            | 2, _ =>
              obtain ⟨e7, x7⟩ := Rv.ev (show a.tmps.getD 7 undef = .slice (some ⟨b8, o8, none⟩) (l.length + 1) c8 from hbase 7 rfl)
              exact Rv.step_op (op := Go.Op.move (Go.Operand.tmp 7)) (v := .slice (some ⟨b8, o8, none⟩) (l.length + 1) c8) (w1 := W) rfl rfl (fun d pos aft g => by unfold execOp; go_simp) ⟨_, rfl, rfl, .inr (Below.refl _ _), htr, fun _ ht => ht, fun L _ hJ => Jw.keep (by decide) _ (Below.refl _ _) hJ⟩
            | 3, _ =>
              obtain ⟨e97, x97⟩ := Rv.ev (show a.tmps.getD 97 undef = .slice (some ⟨b8, o8, none⟩) (l.length + 1) c8 from hdep 2 rfl rfl)
              exact Rv.step_op (op := Go.Op.call { callee := Go.Callee.builtin Go.Builtin.len, args := #[Go.Operand.tmp 97], argTypes := #[28] }) (v := .int .i64 ((l.length : Int) + 1)) (w1 := W) rfl rfl (fun d pos aft g => by unfold execOp; go_simp) ⟨_, rfl, rfl, .inr (Below.refl _ _), htr, fun _ ht => ht, fun L _ hJ => Jw.keep (by decide) _ (Below.refl _ _) hJ⟩
            | 4, _ =>
              obtain ⟨e98, x98⟩ := Rv.ev (show a.tmps.getD 98 undef = .int .i64 ((l.length : Int) + 1) from hdep 3 rfl rfl)
              have hl5 := HL5.out
              have hw9 : IntKind.i64.wrap (l.length : Int) = (l.length : Int) := IntWalk.i64_in _ (by omega)
              exact Rv.step_op (op := Go.Op.binOp Go.BinOp.sub 3 (Go.Operand.tmp 98) (Go.Operand.const (Go.Value.int Go.IntKind.i64 1)) 3) (v := .int .i64 (l.length : Int)) (w1 := W) rfl rfl (fun d pos aft g => by unfold execOp; go_simp) ⟨_, rfl, rfl, .inr (Below.refl _ _), htr, fun _ ht => ht, fun L _ hJ => Jw.keep (by decide) _ (Below.refl _ _) hJ⟩
            | 5, _ =>
              obtain ⟨e96, x96⟩ := Rv.ev (show a.tmps.getD 96 undef = .slice (some ⟨b8, o8, none⟩) (l.length + 1) c8 from hdep 1 rfl rfl)
              obtain ⟨e99, x99⟩ := Rv.ev (show a.tmps.getD 99 undef = .int .i64 (l.length : Int) from hdep 4 rfl rfl)
              have htl := HTL.out W
              exact Rv.step_op (op := Go.Op.slice 28 (Go.Operand.tmp 96) (some (Go.Operand.tmp 99)) none none) (v := .slice AL 1 cm) (w1 := W) rfl rfl (fun d pos aft g => by unfold execOp; go_simp) ⟨_, rfl, rfl, .inr (Below.refl _ _), htr, fun _ ht => ht, fun L _ hJ => Jw.keep (by decide) _ (Below.refl _ _) hJ⟩
            | 6, _ =>
              obtain ⟨e95, x95⟩ := Rv.ev (show a.tmps.getD 95 undef = .agg #[.int .i64 tc.k, .int .i64 tc.n, .string tc.s, .slice A1 tc.ns.length c1, .slice B1 tc.is.length d1] from hdep 0 rfl rfl)
              obtain ⟨e100, x100⟩ := Rv.ev (show a.tmps.getD 100 undef = .slice AL 1 cm from hdep 5 rfl rfl)
              have cf : ∀ x0 x1 W, (callFunc 17 #[x0, x1]).run Tryz.prog W = .ok (.enter 17 #[x0, x1]) W := fun _ _ _ => by kernel_rfl
              refine Rv.step_fn (op := Go.Op.call { callee := Go.Callee.value (Go.Operand.func 17), args := #[Go.Operand.tmp 95, Go.Operand.tmp 100], argTypes := #[26, 28] }) (ty := 39) (f := 17) (args := #[.agg #[.int .i64 tc.k, .int .i64 tc.n, .string tc.s, .slice A1 tc.ns.length c1, .slice B1 tc.is.length d1], .slice AL 1 cm]) (R := fun v W' => (∃ (u : Value) (b : Bool) (c : J), v = .tuple #[u, .bool b] ∧ JN E W' c u ∧ ((b = true ∧ getJ [sp] tc = some c ∧ Wf c) ∨ (b = false ∧ getJ [sp] tc = none))) ∧ Below W.heap.size W W') rfl rfl (fun d pos aft g => by unfold execOp; go_simp) ((GT.out W htr).mono ?_) ?_
              · (rintro e W' (⟨u, c, rfl, h1, h2, h3, hb⟩ | ⟨u, c, rfl, h1, h3, hb⟩); exact ⟨_, rfl, ⟨u, true, c, rfl, h3, .inl ⟨rfl, h1, h2⟩⟩, hb⟩; exact ⟨_, rfl, ⟨u, false, c, rfl, h3, .inr ⟨rfl, h1⟩⟩, hb⟩)
              · (rintro v W' ⟨⟨u, b, c, rfl, h1, h2⟩, hb⟩; exact ⟨_, rfl, ⟨u, b, rfl⟩, .inr hb, htr.trans (hb.mono htr.size), fun _ ht => trivial, fun L _ hJ => Jw.call h1 h2⟩)
            | 7, _ =>
              obtain ⟨u101, b101, q101⟩ : ∃ (u : Value) (b : Bool), a.tmps.getD 101 undef = .tuple #[u, .bool b] := hdep 6 rfl rfl
              obtain ⟨e101, x101⟩ := Rv.ev q101
              exact Rv.step_op (op := Go.Op.move (Go.Operand.tmp 101)) (ty := 39) (v := .tuple #[u101, .bool b101]) (w1 := W) rfl rfl (fun d pos aft g => by unfold execOp; go_simp) ⟨_, rfl, ⟨u101, b101, q101, q101.symm⟩, .inr (Below.refl _ _), htr, (fun _ ht => ht), fun L _ hJ => Jw.keep (by decide) _ (Below.refl _ _) hJ⟩
            | 8, _ =>
              obtain ⟨u94, b94, q94a, q94⟩ : ∃ (u : Value) (b : Bool), a.tmps.getD 101 undef = .tuple #[u, .bool b] ∧ a.tmps.getD 94 undef = a.tmps.getD 101 undef := hdep 7 rfl rfl
              obtain ⟨e94, x94⟩ := Rv.ev (q94.trans q94a)
              exact Rv.step_op (op := Go.Op.extract (Go.Operand.tmp 94) 0) (ty := 26) (v := u94) (w1 := W) rfl rfl (fun d pos aft g => by unfold execOp; go_simp) ⟨_, rfl, ⟨u94, b94, q94.trans q94a, rfl⟩, .inr (Below.refl _ _), htr, (fun _ ht => ht), fun L _ hJ => Jw.keep (by decide) _ (Below.refl _ _) hJ⟩
            | 9, _ =>
              obtain ⟨u94, b94, q94a, q94⟩ : ∃ (u : Value) (b : Bool), a.tmps.getD 101 undef = .tuple #[u, .bool b] ∧ a.tmps.getD 94 undef = a.tmps.getD 101 undef := hdep 7 rfl rfl
              obtain ⟨e94, x94⟩ := Rv.ev (q94.trans q94a)
              exact Rv.step_op (op := Go.Op.extract (Go.Operand.tmp 94) 1) (ty := 4) (v := .bool b94) (w1 := W) rfl rfl (fun d pos aft g => by unfold execOp; go_simp) ⟨_, rfl, ⟨u94, b94, q94.trans q94a, rfl⟩, .inr (Below.refl _ _), htr, (fun _ ht => ht), fun L _ hJ => Jw.keep (by decide) _ (Below.refl _ _) hJ⟩
            | 10, _ =>
              have hal : Below W.heap.size W (W.alloc (.cells #[.int .i64 0, .int .i64 0, .string ⟨#[]⟩, .slice none 0 0, .slice none 0 0] 26)) := (Below.refl _ _).alloc (Nat.le_refl _) _
              exact Rv.step_op (op := Go.Op.alloc 26) (ty := 0) (v := .pointer (some ⟨W.heap.size, 0, none⟩)) (w1 := W.alloc (.cells #[.int .i64 0, .int .i64 0, .string ⟨#[]⟩, .slice none 0 0, .slice none 0 0] 26)) rfl rfl (fun d pos aft g => by unfold execOp; go_simp) ⟨_, rfl, ⟨W.heap.size, rfl, heap_alloc_new W _, htr.size⟩, .inr hal, htr.trans (hal.mono htr.size), (fun _ ht => ht), fun L _ hJ => Jw.keep (by decide) _ hal hJ⟩
            | 11, _ =>
              obtain ⟨g, e11', k11, h11⟩ : ∃ (g : Nat), a.tmps.getD 11 undef = .pointer (some ⟨g, 0, none⟩) ∧ W.heap[g]? = some (.cells #[.int .i64 0, .int .i64 0, .string ⟨#[]⟩, .slice none 0 0, .slice none 0 0] 26 (0, 0)) ∧ X.heap.size ≤ g := hdep 10 rfl rfl
              obtain ⟨e11, x11⟩ := Rv.ev e11'
              obtain ⟨u102, b102, q102a, q102⟩ : ∃ (u : Value) (b : Bool), a.tmps.getD 94 undef = .tuple #[u, .bool b] ∧ a.tmps.getD 102 undef = u := hdep 8 rfl rfl
              obtain ⟨u94, b94, q94a, q94⟩ : ∃ (u : Value) (b : Bool), a.tmps.getD 101 undef = .tuple #[u, .bool b] ∧ a.tmps.getD 94 undef = a.tmps.getD 101 undef := hdep 7 rfl rfl
              obtain ⟨L, hL, hLd, hj0⟩ := hJ
              obtain ⟨u4, b4, cj, q4, m4, m5⟩ := hj0 (hLd 6 rfl)
              have q4 : a.tmps.getD 101 undef = .tuple #[u4, .bool b4] := q4
              have ev : u4 = a.tmps.getD 102 undef := by rw [q94, q4] at q102a; injection q102a with q; injection q with q; simp only [List.cons.injEq] at q; exact q.1.trans q102.symm
              obtain ⟨A5, c5, A6, c6, ez, _⟩ := m4.five
              subst ez
              have ev2 := ev.symm
              obtain ⟨e102, x102⟩ := Rv.ev ev2
              obtain ⟨s0, s1, s2, s3, s4⟩ := Rv.cells5 k11
              obtain ⟨z0, z1, z2, z3, z4⟩ := Rv.frozen5 k11
              have gs' := fun (V : World) j u => grown_set (Below.refl _ V) g j u
              have hgg := (grown_then (grown_then (grown_then (grown_then (gs' W 0 (.int .i64 cj.k)) (gs' _ 1 (.int .i64 cj.n))) (gs' _ 2 (.string cj.s))) (gs' _ 3 (.slice A5 cj.ns.length c5))) (gs' _ 4 (.slice A6 cj.is.length c6)))
              have sb : ∀ (V : World) (j : Nat) (u : Value), Below X.heap.size W V → Below X.heap.size W (V.setCell ⟨g, j, none⟩ u) := fun V j u h => h.setCell h11 u
              have hjk := fun L' (hJ' : Jw E sp tc L' (Rv.vals (#[95, 96, 97, 98, 99, 100, 101, 94, 102, 103, 11, 1011, 12] : Array Nat) a) W) => Jw.store (i := 11) (by decide) undef hgg (fun x hx => by have := HE.out x hx; have := HXS.out; omega) hJ'
              clear q94 q94a q102 q102a ev q4 hj0 m5 m4 hL hLd
              exact Rv.step_skip (op := Go.Op.store 26 (Go.Operand.tmp 11) (Go.Operand.tmp 102)) (ty := 0) (w1 := (((((W.setCell ⟨g, 0, none⟩ (.int .i64 cj.k)).setCell ⟨g, 1, none⟩ (.int .i64 cj.n)).setCell ⟨g, 2, none⟩ (.string cj.s)).setCell ⟨g, 3, none⟩ (.slice A5 cj.ns.length c5)).setCell ⟨g, 4, none⟩ (.slice A6 cj.is.length c6))) rfl rfl (fun d pos aft g => by unfold execOp; go_simp) ⟨undef, rfl, ⟨g, _, _, _, _, _, e11', ev2, Rv.sets5 k11 _ _ _ _ _, h11⟩, .inl ⟨rfl, trivial⟩, htr.trans (sb _ 4 (.slice A6 cj.is.length c6) (sb _ 3 (.slice A5 cj.ns.length c5) (sb _ 2 (.string cj.s) (sb _ 1 (.int .i64 cj.n) (sb _ 0 (.int .i64 cj.k) (Below.refl X.heap.size W)))))), (fun h => by cases h), fun L' _ hJ' => hjk L' hJ'⟩
            | 12, _ =>
              obtain ⟨u103, b103, q103a, q103⟩ : ∃ (u : Value) (b : Bool), a.tmps.getD 94 undef = .tuple #[u, .bool b] ∧ a.tmps.getD 103 undef = .bool b := hdep 9 rfl rfl
              obtain ⟨e103, x103⟩ := Rv.ev q103
              exact Rv.step_op (op := Go.Op.assign (Go.Operand.tmp 103)) (ty := 4) (v := .bool b103) (w1 := W) rfl rfl (fun d pos aft g => by unfold execOp; go_simp) ⟨_, rfl, q103.symm, .inr (Below.refl _ _), htr, (fun _ ht => ht), fun L _ hJ => Jw.keep (by decide) _ (Below.refl _ _) hJ⟩
            | m + 13, h => exact absurd h (by show ¬ m + 13 < 13; omega)
          intro W f hf htr hJ
          have f0 : f 0 = .agg #[.int .i64 tc.k, .int .i64 tc.n, .string tc.s, .slice A1 tc.ns.length c1, .slice B1 tc.is.length d1] := hf 0 (by show 0 < 13; omega) rfl
          have f1 : f 1 = .slice (some ⟨b8, o8, none⟩) (l.length + 1) c8 := hf 1 (by show 1 < 13; omega) rfl
          have f2 : f 2 = .slice (some ⟨b8, o8, none⟩) (l.length + 1) c8 := hf 2 (by show 2 < 13; omega) rfl
          have f3 : f 3 = .int .i64 ((l.length : Int) + 1) := hf 3 (by show 3 < 13; omega) rfl
          have f4 : f 4 = .int .i64 (l.length : Int) := hf 4 (by show 4 < 13; omega) rfl
          have f5 : f 5 = .slice AL 1 cm := hf 5 (by show 5 < 13; omega) rfl
          have HS6 := Lib.hid (show (fun f W => ∃ (u : Value) (b : Bool), f 6 = .tuple #[u, .bool b]) f W from hf 6 (by show 6 < 13; omega) rfl)
          have HS7 := Lib.hid (show (fun f W => ∃ (u : Value) (b : Bool), f 6 = .tuple #[u, .bool b] ∧ f 7 = f 6) f W from hf 7 (by show 7 < 13; omega) rfl)
          have HS8 := Lib.hid (show (fun f W => ∃ (u : Value) (b : Bool), f 7 = .tuple #[u, .bool b] ∧ f 8 = u) f W from hf 8 (by show 8 < 13; omega) rfl)
          have HS9 := Lib.hid (show (fun f W => ∃ (u : Value) (b : Bool), f 7 = .tuple #[u, .bool b] ∧ f 9 = .bool b) f W from hf 9 (by show 9 < 13; omega) rfl)
          have HS11 := Lib.hid (show (fun f W => ∃ (g : Nat) (z0 z1 z2 z3 z4 : Value), f 10 = .pointer (some ⟨g, 0, none⟩) ∧ f 8 = .agg #[z0, z1, z2, z3, z4] ∧ W.heap[g]? = some (.cells #[z0, z1, z2, z3, z4] 26 (0, 0)) ∧ X.heap.size ≤ g) f W from hf 11 (by show 11 < 13; omega) rfl)
          have HS12 := Lib.hid (show (fun f W => f 12 = f 9) f W from hf 12 (by show 12 < 13; omega) rfl)
          clear hf
          refine (show ∀ (a : Act) (w : World), Code.wp _ _ _ a w → _ from by assumption) _ _ ?_
          refine Rv.fin_swap (L' := [(95, f 0), (96, f 1), (97, f 2), (98, f 3), (99, f 4), (100, f 5), (101, f 6), (94, f 7), (102, f 8), (103, f 9), (11, f 10), (1011, f 11), (12, f 12)]) rfl ?_
          rw [f0, f1, f2, f3, f4, f5]
          clear f0 f1 f2 f3 f4 f5
          simp only [Rv.fin, List.foldl_cons, List.foldl_nil, Act.put, List.setIfInBounds_toArray, List.set_cons_succ, List.set_cons_zero, List.set_nil]
          obtain ⟨g, z0, z1, z2, z3, z4, q10, q8, hgc, hgx⟩ := HS11.out
          obtain ⟨u6, b6, cj, q6, hjc, hor⟩ := hJ rfl
          obtain ⟨u7, b7, q7a, q7⟩ := HS7.out
          obtain ⟨u8, b8', q8a, q8b⟩ := HS8.out
          obtain ⟨u9, b9, q9a, q9⟩ := HS9.out
          have h12 : f 12 = .bool b6 := by
            rw [HS12.out, q9]
            rw [q7, q6] at q9a
            injection q9a with h; injection h with h; simp only [List.cons.injEq, Value.bool.injEq, and_true] at h
            rw [h.2]
          have h8 : u6 = .agg #[z0, z1, z2, z3, z4] := by
            rw [q7, q6] at q8a
            injection q8a with h; injection h with h; simp only [List.cons.injEq, and_true] at h
            exact h.1.trans (q8b.symm.trans q8)
          rw [q10, h12]
          have HBW := Lib.hid (HB.out.trans (htr.mono HB.out.size))
          have HG := Lib.hid ((htr.block _ hga).trans HG.out)
          have HMs := Lib.hid (HMs.out.below htr)
          have HO8 := Lib.hid (own_below HO8.out htr)
          obtain ⟨A5, c5, A6, c6, ez, _⟩ := hjc.five
          rw [h8] at ez
          (injection ez with ez); (injection ez with ez); simp only [List.cons.injEq, and_true] at ez
          obtain ⟨rfl, rfl, rfl, rfl, rfl⟩ := ez
          rw [h8] at hjc
          have HJJ := Lib.hid hjc
          have HGC := Lib.hid hgc
          have HOR := Lib.hid hor
          clear hJ q10 q8 q6 hjc hor q7a q7 q8a q8b q9a q9 h12 h8 htr HS6 HS7 HS8 HS9 HS11 HS12 hgc GT HTL HJC HB
          generalize f 6 = f6
          generalize f 7 = f7
          generalize f 8 = f8
          generalize f 9 = f9
          obtain ⟨q0, q1, q2, q3, q4⟩ := Rv.cells5 HGC.out
          obtain ⟨y0, y1, y2, y3, y4⟩ := Rv.cells5 HG.out
          obtain ⟨p0, p1, p2, p3, p4⟩ := Rv.frozen5 HG.out
          have hst : ∀ s ∈ l ++ [sp], Stp s := fun s hs => by
            rcases List.mem_append.1 hs with h | h
            · exact HS.out s h
            · rw [List.mem_singleton.1 h]; exact HSTP.out
          have HST := Lib.hid hst
          have hla : (l ++ [sp]).length = l.length + 1 := by simp
          have hsa : stc l ++ (#[.string sp.x, .int .i64 (sp.i : Int), .bool sp.b] : Array Value).toList = stc (l ++ [sp]) := by
            show stc l ++ stv sp = stc (l ++ [sp])
            unfold stc
            rw [List.flatMap_append]
            simp
          rw [hsa] at HO8
          clear hst hsa
          cases b6
          · rcases HOR.out with ⟨h, _⟩ | ⟨_, hgn⟩
            · cases h
            · have hf1 : fI tc sp = -1 := by
                rcases fI_cases HWC.out sp with h | ⟨k, hk1, hk2⟩
                · exact h
                · rw [getJ_at _ _ _ k hk1 hk2] at hgn
                  cases hgn
              have HWY := Lib.hid (HP.out _ (.last tc sp hf1 HSK.out))
              clear HOR hgn hf1
              go_wp2
              refine bodyPost_ret (v := .tuple #[.slice (some ⟨b8, o8, none⟩) (l.length + 1) c8, .bool true]) ?_ rfl (.inl ⟨some ⟨b8, o8, none⟩, c8, l ++ [sp], by rw [hla], HWY.out, HST.out, by rw [hla]; omega, by rw [hla]; exact Rd.of_own HO8.out, HBW.out⟩)
              simp only [results, show Tryz.f7.results = #[.tmp 4, .tmp 5] by kernel_rfl]
              go_simp
          · rcases HOR.out with ⟨_, hgs, hwc⟩ | ⟨h, _⟩
            · have hex : ∃ k, ∃ (hk : k < tc.is.length), fI tc sp = (k : Int) ∧ tc.is[k] = cj := by
                rcases fI_cases HWC.out sp with h | ⟨k, hk1, hk2⟩
                · rw [getJ_no _ _ _ h] at hgs
                  cases hgs
                · rw [getJ_at _ _ _ k hk1 hk2] at hgs
                  injection hgs with hgs
                  exact ⟨k, hk2, hk1, hgs⟩
              obtain ⟨k, hk2, hk1, hck⟩ := hex
              have HPN := Lib.hid (show Pre t (l ++ [sp]) cj from hck ▸ HP.out.step sp k hk1 hk2)
              have HWN := Lib.hid hwc
              clear HOR hgs hwc hk1 hck hk2
              go_wp2
              have sb : ∀ (V : World) (j : Nat) (u : Value), Below w.heap.size w V → Below w.heap.size w (V.setCell ⟨w.heap.size, j, none⟩ u) := fun V j u h => h.setCell (Nat.le_refl _) u
              have gs := fun (V : World) j u => grown_set (Below.refl _ V) w.heap.size j u
              have HBF := Lib.hid (sb _ 4 (.slice A6 cj.is.length c6) (sb _ 3 (.slice A5 cj.ns.length c5) (sb _ 2 (.string cj.s) (sb _ 1 (.int .i64 cj.n) (sb _ 0 (.int .i64 cj.k) HBW.out)))))
              have hgg := (grown_then (grown_then (grown_then (grown_then (gs W 0 (.int .i64 cj.k)) (gs _ 1 (.int .i64 cj.n))) (gs _ 2 (.string cj.s))) (gs _ 3 (.slice A5 cj.ns.length c5))) (gs _ 4 (.slice A6 cj.is.length c6)))
              have HJF := Lib.hid (HJJ.out.grown hgg (fun x hx e => by have := HE.out x hx; injection e with e; omega))
              have HGF := Lib.hid (Rv.sets5 HG.out (.int .i64 cj.k) (.int .i64 cj.n) (.string cj.s) (.slice A5 cj.ns.length c5) (.slice A6 cj.is.length c6))
              have HMF := Lib.hid (HMs.out.grown hgg (fun k hk => by injection hk with hk; omega))
              have HOF := Lib.hid (own_kept HO8.out hgg (fun k hk e => by have := (HO8.out.lt k hk).1; injection e with e; omega))
              clear sb gs hgg q0 q1 q2 q3 q4 y0 y1 y2 y3 y4 p0 p1 p2 p3 p4
              go_roundg (gk - 1)
              case rel => exact ⟨n - 1, l ++ [sp], cj, A5, c5, A6, c6, some ⟨b8, o8, none⟩, c8, by first | rw [hla] | simp, by go_num, by omega, by rw [hla]; omega, HPN, HST, HWN, HJF, HGF, by rw [hla]; exact HOF, HMF, HBF⟩
              case measure => omega
            · cases h
        · rw [decide_eq_false cA]
          go_upto_region 10 with fail
          go_cut [61] from 62 to 107 (fun v61 wc => v61 = .bool (decide (tc.k = 4 ∧ 0 < tc.is.length ∧ y % 4 ≠ 3)) ∧ Hid (wc = Y))
          case first =>
            by_cases h5 : tc.k = 4
            · have hq : (tc.k == 4) = true := by simp [h5]
              by_cases hl0 : 0 < tc.is.length
              · have hnl : tc.is ≠ [] := fun e => by rw [e] at hl0; simp at hl0
                have hl1 : decide ((0 : Int) < (tc.is.length : Int)) = true := decide_eq_true (by omega)
                by_cases h3 : y % 4 = 3
                · have hq3 : (y % 4 != 3) = false := by simp [h3]
                  have hd : decide (tc.k = 4 ∧ 0 < tc.is.length ∧ y % 4 ≠ 3) = false := decide_eq_false (fun h => h.2.2 h3)
                  have HD := Lib.hid hd
                  clear h5 h3 hd
                  go_wp2_with fail
                  go_meet
                  case rel => exact ⟨by rw [HD.out], Lib.hid rfl⟩
                · have hq3 : (y % 4 != 3) = true := by simp [h3]
                  have hd : decide (tc.k = 4 ∧ 0 < tc.is.length ∧ y % 4 ≠ 3) = true := decide_eq_true ⟨h5, hl0, h3⟩
                  have HD := Lib.hid hd
                  clear h5 h3 hd
                  go_wp2_with fail
                  go_meet
                  case rel => exact ⟨by rw [HD.out], Lib.hid rfl⟩
              · have hnl : tc.is = [] := List.eq_nil_of_length_eq_zero (by omega)
                have hl1 : decide ((0 : Int) < (tc.is.length : Int)) = false := decide_eq_false (by omega)
                have hd : decide (tc.k = 4 ∧ 0 < tc.is.length ∧ y % 4 ≠ 3) = false := decide_eq_false (fun h => hl0 h.2.1)
                have HD := Lib.hid hd
                clear h5 hd hl0
                go_wp2_with fail
                go_meet
                case rel => exact ⟨by rw [HD.out], Lib.hid rfl⟩
            · have hq : (tc.k == 4) = false := by simp [h5]
              have hd : decide (tc.k = 4 ∧ 0 < tc.is.length ∧ y % 4 ≠ 3) = false := decide_eq_false (fun h => h5 h.1)
              have HD := Lib.hid hd
              clear h5 hd
              go_wp2_with fail
              go_meet
              case rel => exact ⟨by rw [HD.out], Lib.hid rfl⟩
          case rest =>
            obtain ⟨rfl, HWc⟩ := hcut
            have hWc := HWc.out.symm
            subst hWc
            clear HWc
            by_cases cB : tc.k = 4 ∧ 0 < tc.is.length ∧ y % 4 ≠ 3
            · rw [decide_eq_true cB]
              obtain ⟨h4, hl0, h3⟩ := cB
              obtain ⟨ix, hix⟩ : ∃ ix : Nat, y / 4 % (tc.is.length : Int) = (ix : Int) := ⟨(y / 4 % (tc.is.length : Int)).toNat, by rw [Int.toNat_of_nonneg (Int.emod_nonneg _ (by omega))]⟩
              have hixl : ix ≤ 9 := by have := Int.emod_lt_of_pos (y / 4) (show (0 : Int) < tc.is.length by omega); have := HWC.out.short; omega
              have hl1 : (0 : Int) < (tc.is.length : Int) := by omega
              have hk4 : (tc.k != 4) = false := by simp [h4]
              have hnl : tc.is ≠ [] := fun e => by rw [e] at hl0; simp at hl0
              have hq4 : IntKind.i64.wrap (y.tdiv 4) = y / 4 := by rw [Int.tdiv_eq_ediv_of_nonneg hy0]; exact IntWalk.i64_in _ (by omega)
              have hq5 : (y / 4).tmod (tc.is.length : Int) = (ix : Int) := by rw [Int.tmod_eq_emod_of_nonneg (by omega)]; exact hix
              have HK4 := Lib.hid h4
              have HIX := Lib.hid hixl
              obtain ⟨q0, q1, q2⟩ := Rv.cells3 HC0.out
              obtain ⟨z0, z1, z2⟩ := Rv.frozen3 HC0.out
              clear h4 h3 hixl cA
              go_upto_region 12 with fail
              have HC := Lib.hid (Rv.sets3 HC0.out (.string ⟨#[]⟩) (.int .i64 (ix : Int)) (.bool true))
              have gs := fun (V : World) j u => grown_set (Below.refl _ V) w3.heap.size j u
              have hg9 := grown_then (grown_then (gs Y 0 (.string ⟨#[]⟩)) (gs _ 1 (.int .i64 (ix : Int)))) (gs _ 2 (.bool true))
              have hz0 := HSZ0.out
              have HG := Lib.hid (blk_grown HG.out hg9 (fun e => by injection e with e; omega))
              have HJC := Lib.hid (HJC.out.grown hg9 (fun x hx e => by have := HE.out x hx; injection e with e; omega))
              have HMs := Lib.hid (HMs.out.grown hg9 (fun k hk => by injection hk with hk; omega))
              have HO := Lib.hid (own_kept HO.out hg9 (fun k hk e => by have := HOL.out k hk; injection e with e; omega))
              have HB := Lib.hid (HB.out.grown hg9 HB.out.size (fun k hk => by injection hk with hk; omega))
              have HSZ := Lib.hid (Nat.le_trans HSZ.out hg9.size)
              clear hg9 hz0 gs q0 q1 q2 z0 z1 z2 y0 y1 y2 y3 y4 HC0
              generalize ((Y.setCell ⟨w3.heap.size, 0, none⟩ (.string ⟨#[]⟩)).setCell ⟨w3.heap.size, 1, none⟩ (.int .i64 (ix : Int))).setCell ⟨w3.heap.size, 2, none⟩ (.bool true) = Y1 at *
              rename World => Y
              obtain ⟨y0, y1, y2, y3, y4⟩ := Rv.cells5 HG.out
              obtain ⟨q0, q1, q2⟩ := Rv.cells3 HC.out
              go_upto_region 14 with fail
              clear q0 q1 q2 y0 y1 y2 y3 y4
              obtain ⟨sp, e1, e2, e3⟩ : ∃ sp : Sp, (⟨#[]⟩ : ByteArray) = sp.x ∧ (ix : Int) = (sp.i : Int) ∧ true = sp.b := ⟨⟨(⟨#[]⟩ : ByteArray), ix, true⟩, rfl, by first | rfl | (simp; omega) | omega, rfl⟩
              have HSTP : Hid (Stp sp) := Lib.hid (by obtain ⟨x, i, b⟩ := sp; (try simp only at e1 e2 e3); subst e1; subst e3; exact ⟨by have := HIX.out; show i ≤ 9; omega, ⟨Nat.zero_le _, fun c hc => by cases hc⟩, fun h => by cases h⟩)
              have HSK : Hid (sp.b = true → tc.k = 4) := Lib.hid (by rw [← e3]; exact (fun _ => HK4.out))
              rw [e1, e2, e3] at HC
              clear e1 e2 e3
              obtain ⟨q0, q1, q2⟩ := Rv.cells3 HC.out
              go_upto_region 15 with (at_builtin; refine app1 (w0 := Y) (w.heap.size + 2) rfl (.tmp 90) (.tmp 92) 28 51 (.agg #[.string ⟨#[]⟩, .int .i64 0, .bool false]) 3 32 rfl Tryz.underlying28 info51 rfl (by omega) (by omega) _ _ _ _ rfl rfl rfl (by intro x hx; simp only [List.mem_cons, List.not_mem_nil, or_false] at hx; rcases hx with rfl | rfl | rfl <;> rfl) HO.out (Below.refl _ _) HSZ.out (by omega) ?_; intro v8 w8 hown hb8 hg8 hat8; obtain ⟨A8, c8, hv8, hle8, hcm8⟩ := (Rd.of_own hown).shape; subst hv8; have HO8 := Lib.hid hown; have HG8 := Lib.hid hg8; clear hown hb8 hat8 hg8)
              have hown8 : ∀ k, (Value.slice A9 l.length c9).ownBlock = some k → w.heap.size + 2 ≤ k := fun k hk => (HO.out.lt k hk).1
              have HMs := Lib.hid (HMs.out.grown HG8.out (fun k hk => by have := hown8 k hk; omega))
              have HG := Lib.hid (blk_grown HG.out HG8.out (fun e => by have := hown8 _ e.symm; omega))
              have HJC := Lib.hid (HJC.out.grown HG8.out (fun x hx e => by have := hown8 _ e.symm; have := HE.out x hx; omega))
              have HB := Lib.hid (HB.out.grown HG8.out HB.out.size (fun k hk => by have := hown8 k hk; omega))
              have HXS := Lib.hid (Nat.le_trans HSZ.out HG8.out.size)
              obtain ⟨b8, o8, hA8⟩ : ∃ b o, A8 = some ⟨b, o, none⟩ := by
                obtain ⟨b, o, c', hv, _⟩ := (Rd.of_own HO8.out).open (by omega)
                injection hv with e
                exact ⟨b, o, e⟩
              subst hA8
              obtain ⟨AL, htl, hrt⟩ := tail_ofS (P := Tryz.prog) 28 51 3 Tryz.underlying28 (fun W => by kernel_rfl) b8 o8 (l.length + 1) c8 l.length (by omega) hle8
              have hst3 : (stc l).length = l.length * 3 := stc_len l
              have hrt1 : Rd w8 3 (.slice AL 1 (c8 - l.length)) 1 (stc [sp]) := by
                have h := hrt w8 _ (Rd.of_own HO8.out)
                rw [show l.length + 1 - l.length = 1 by omega, ← hst3, List.drop_left] at h
                exact h
              rw [show l.length + 1 - l.length = 1 by omega] at htl
              have HTL := Lib.hid htl
              have HL5 := Lib.hid (show l.length ≤ 4 by omega)
              have GT := Lib.hid (fun (W : World) (hb : Below w8.heap.size w8 W) => get_any E tc (.agg #[.int .i64 tc.k, .int .i64 tc.n, .string tc.s, .slice A1 tc.ns.length c1, .slice B1 tc.is.length d1]) AL (c8 - l.length) [sp] W (fun x hx => by have := HE.out x hx; have := HXS.out; have := hb.size; omega) (HJC.out.below hb) HWC.out (hrt1.below hb) (by simp))
              clear hrt hrt1 htl q0 q1 q2 HC HSZ hown8 HG8 hst3 hle8 hcm8
              have ec8 : ∃ cm, cm = c8 - l.length := ⟨_, rfl⟩
              obtain ⟨cm, ec8⟩ := ec8
              rw [← ec8] at HTL GT
              clear ec8
              generalize w8 = X at *
              have hga := Rv.lt_of_blk HG.out
              refine Rv.region_fin (n := 109) (by kernel_rfl) #[95, 96, 97, 98, 99, 100, 101, 94, 102, 103, 11, 1011, 12] #[] (fun i f W => if i = 12 then (fun f W => f 12 = f 9) f W else if i = 11 then (fun f W => ∃ (g : Nat) (z0 z1 z2 z3 z4 : Value), f 10 = .pointer (some ⟨g, 0, none⟩) ∧ f 8 = .agg #[z0, z1, z2, z3, z4] ∧ W.heap[g]? = some (.cells #[z0, z1, z2, z3, z4] 26 (0, 0)) ∧ X.heap.size ≤ g) f W else if i = 10 then (fun f W => ∃ (g : Nat), f 10 = .pointer (some ⟨g, 0, none⟩) ∧ W.heap[g]? = some (.cells #[.int .i64 0, .int .i64 0, .string ⟨#[]⟩, .slice none 0 0, .slice none 0 0] 26 (0, 0)) ∧ X.heap.size ≤ g) f W else if i = 9 then (fun f W => ∃ (u : Value) (b : Bool), f 7 = .tuple #[u, .bool b] ∧ f 9 = .bool b) f W else if i = 8 then (fun f W => ∃ (u : Value) (b : Bool), f 7 = .tuple #[u, .bool b] ∧ f 8 = u) f W else if i = 7 then (fun f W => ∃ (u : Value) (b : Bool), f 6 = .tuple #[u, .bool b] ∧ f 7 = f 6) f W else if i = 6 then (fun f W => ∃ (u : Value) (b : Bool), f 6 = .tuple #[u, .bool b]) f W else f i = (#[.agg #[.int .i64 tc.k, .int .i64 tc.n, .string tc.s, .slice A1 tc.ns.length c1, .slice B1 tc.is.length d1], .slice (some ⟨b8, o8, none⟩) (l.length + 1) c8, .slice (some ⟨b8, o8, none⟩) (l.length + 1) c8, .int .i64 ((l.length : Int) + 1), .int .i64 (l.length : Int), .slice AL 1 cm, undef, undef, undef, undef, undef, undef, undef] : Array Value).getD i undef) (fun i j => (i == 11 && (j == 10))) (fun i => i == 11) (fun i f W W' => True) (fun W => Below X.heap.size X W) (fun _ => True) (Jw E sp tc) (Jw.loc (by show 6 < 13; omega)) (fun i f f' w hi h hd hg => ?_) (fun i j f w w' hi hj hij hK hdp h hr => ?_) (fun i h g b hg => ?_) rfl (by kernel_rfl) (fun i h g b hg => ?_) ((Below.refl _ _).drew) (trivial) (fun f h => (by cases h)) (fun i h hr f w hf => ?_) (fun i h hr => absurd hr (Rv.allrun (by kernel_rfl) i h)) ?_ ?_
              · by_cases hi12 : i = 12
                · subst hi12
                  rw [if_pos rfl] at hg ⊢
                  exact h.symm.trans (hg.trans (hd 9 rfl))
                rw [if_neg hi12] at hg ⊢
                by_cases hi1011 : i = 11
                · subst hi1011
                  rw [if_pos rfl] at hg ⊢
                  obtain ⟨g, z0, z1, z2, z3, z4, q1, q2, q3⟩ := hg
                  exact ⟨g, z0, z1, z2, z3, z4, (hd 10 rfl).symm.trans q1, (hd 8 rfl).symm.trans q2, q3⟩
                rw [if_neg hi1011] at hg ⊢
                by_cases hi11 : i = 10
                · subst hi11
                  rw [if_pos rfl] at hg ⊢
                  obtain ⟨g, q1, q2⟩ := hg
                  exact ⟨g, h.symm.trans q1, q2⟩
                rw [if_neg hi11] at hg ⊢
                by_cases hi103 : i = 9
                · subst hi103
                  rw [if_pos rfl] at hg ⊢
                  obtain ⟨u, b, q1, q2⟩ := hg
                  exact ⟨u, b, (hd 7 rfl).symm.trans q1, h.symm.trans q2⟩
                rw [if_neg hi103] at hg ⊢
                by_cases hi102 : i = 8
                · subst hi102
                  rw [if_pos rfl] at hg ⊢
                  obtain ⟨u, b, q1, q2⟩ := hg
                  exact ⟨u, b, (hd 7 rfl).symm.trans q1, h.symm.trans q2⟩
                rw [if_neg hi102] at hg ⊢
                by_cases hi94 : i = 7
                · subst hi94
                  rw [if_pos rfl] at hg ⊢
                  obtain ⟨u, b, q1, q2⟩ := hg
                  exact ⟨u, b, (hd 6 rfl).symm.trans q1, h.symm.trans (q2.trans (hd 6 rfl))⟩
                rw [if_neg hi94] at hg ⊢
                by_cases hi101 : i = 6
                · subst hi101
                  rw [if_pos rfl] at hg ⊢
                  obtain ⟨u, b, q⟩ := hg
                  exact ⟨u, b, h.symm.trans q⟩
                rw [if_neg hi101] at hg ⊢
                rw [← h]; exact hg
              · by_cases hj12 : j = 12
                · subst hj12
                  rw [if_pos rfl] at h ⊢
                  exact h
                rw [if_neg hj12] at h ⊢
                by_cases hj1011 : j = 11
                · subst hj1011
                  rw [if_pos rfl] at h ⊢
                  rcases hr with ⟨hK1, hr⟩ | hr
                  · have e : i = 11 := by simpa using hK1
                    exact absurd e hij
                  · obtain ⟨g, z0, z1, z2, z3, z4, e, e2, h1, h2⟩ := h
                    exact ⟨g, z0, z1, z2, z3, z4, e, e2, (hr.block _ (Rv.lt_of_blk h1)).trans h1, h2⟩
                rw [if_neg hj1011] at h ⊢
                by_cases hj11 : j = 10
                · subst hj11
                  rw [if_pos rfl] at h ⊢
                  rcases hr with ⟨hK1, hr⟩ | hr
                  · have e : i = 11 := by simpa using hK1
                    subst e; exfalso; revert hK; decide
                  · obtain ⟨g, e, h1, h2⟩ := h
                    exact ⟨g, e, (hr.block _ (Rv.lt_of_blk h1)).trans h1, h2⟩
                rw [if_neg hj11] at h ⊢
                by_cases hj103 : j = 9
                · subst hj103
                  rw [if_pos rfl] at h ⊢
                  exact h
                rw [if_neg hj103] at h ⊢
                by_cases hj102 : j = 8
                · subst hj102
                  rw [if_pos rfl] at h ⊢
                  exact h
                rw [if_neg hj102] at h ⊢
                by_cases hj94 : j = 7
                · subst hj94
                  rw [if_pos rfl] at h ⊢
                  exact h
                rw [if_neg hj94] at h ⊢
                by_cases hj101 : j = 6
                · subst hj101
                  rw [if_pos rfl] at h ⊢
                  exact h
                rw [if_neg hj101] at h ⊢
                exact h
              · match i, h, hg with
                | 0, _, hg => cases hg
                | 1, _, hg => cases hg
                | 2, _, hg => cases hg
                | 3, _, hg => cases hg
                | 4, _, hg => cases hg
                | 5, _, hg => cases hg
                | 6, _, hg => cases hg
                | 7, _, hg => cases hg
                | 8, _, hg => cases hg
                | 9, _, hg => cases hg
                | 10, _, hg => cases hg
                | 11, _, hg => cases hg
                | 12, _, hg => cases hg
                | m + 13, h, _ => exact absurd h (by show ¬ m + 13 < 13; omega)
              · match i, h, hg with
                | 0, _, hg => cases hg
                | 1, _, hg => cases hg
                | 2, _, hg => cases hg
                | 3, _, hg => cases hg
                | 4, _, hg => cases hg
                | 5, _, hg => cases hg
                | 6, _, hg => cases hg
                | 7, _, hg => cases hg
                | 8, _, hg => cases hg
                | 9, _, hg => cases hg
                | 10, _, hg => cases hg
                | 11, _, hg => cases hg
                | 12, _, hg => cases hg
                | m + 13, h, _ => exact absurd h (by show ¬ m + 13 < 13; omega)
              · match i, h, hr, hf with
                | 0, _, hr, _ => exact Bool.noConfusion (show true = false from hr)
                | 1, _, hr, _ => exact Bool.noConfusion (show true = false from hr)
                | 2, _, hr, _ => exact Bool.noConfusion (show true = false from hr)
                | 3, _, hr, _ => exact Bool.noConfusion (show true = false from hr)
                | 4, _, hr, _ => exact Bool.noConfusion (show true = false from hr)
                | 5, _, hr, _ => exact Bool.noConfusion (show true = false from hr)
                | 6, _, hr, _ => exact Bool.noConfusion (show true = false from hr)
                | 7, _, hr, _ => exact Bool.noConfusion (show true = false from hr)
                | 8, _, hr, _ => exact Bool.noConfusion (show true = false from hr)
                | 9, _, hr, _ => exact Bool.noConfusion (show true = false from hr)
                | 10, _, hr, _ => exact Bool.noConfusion (show true = false from hr)
                | 11, _, hr, _ => exact Bool.noConfusion (show true = false from hr)
                | 12, _, hr, _ => exact Bool.noConfusion (show true = false from hr)
                | m + 13, h, _, _ => exact absurd h (by show ¬ m + 13 < 13; omega)
              · intro i h a W hrun hbase hpre hdep htr hta hJ
                match i, h with
                | 0, _ =>
                  obtain ⟨e2, x2⟩ := Rv.ev (show a.tmps.getD 2 undef = .pointer (some ⟨w.heap.size, 0, none⟩) from hbase 2 rfl)
                  obtain ⟨y0, y1, y2, y3, y4⟩ := Rv.cells5 ((htr.block _ hga).trans HG.out)
                  exact Rv.step_op (op := Go.Op.load 26 (Go.Operand.tmp 2)) (v := .agg #[.int .i64 tc.k, .int .i64 tc.n, .string tc.s, .slice A1 tc.ns.length c1, .slice B1 tc.is.length d1]) (w1 := W) rfl rfl (fun d pos aft g => by unfold execOp; go_simp) ⟨_, rfl, rfl, .inr (Below.refl _ _), htr, fun _ ht => ht, fun L _ hJ => Jw.keep (by decide) _ (Below.refl _ _) hJ⟩
                | 1, _ =>
                  obtain ⟨e7, x7⟩ := Rv.ev (show a.tmps.getD 7 undef = .slice (some ⟨b8, o8, none⟩) (l.length + 1) c8 from hbase 7 rfl)
                  exact Rv.step_op (op := Go.Op.move (Go.Operand.tmp 7)) (v := .slice (some ⟨b8, o8, none⟩) (l.length + 1) c8) (w1 := W) rfl rfl (fun d pos aft g => by unfold execOp; go_simp) ⟨_, rfl, rfl, .inr (Below.refl _ _), htr, fun _ ht => ht, fun L _ hJ => Jw.keep (by decide) _ (Below.refl _ _) hJ⟩
                | 2, _ =>
                  obtain ⟨e7, x7⟩ := Rv.ev (show a.tmps.getD 7 undef = .slice (some ⟨b8, o8, none⟩) (l.length + 1) c8 from hbase 7 rfl)
                  exact Rv.step_op (op := Go.Op.move (Go.Operand.tmp 7)) (v := .slice (some ⟨b8, o8, none⟩) (l.length + 1) c8) (w1 := W) rfl rfl (fun d pos aft g => by unfold execOp; go_simp) ⟨_, rfl, rfl, .inr (Below.refl _ _), htr, fun _ ht => ht, fun L _ hJ => Jw.keep (by decide) _ (Below.refl _ _) hJ⟩
                | 3, _ =>
                  obtain ⟨e97, x97⟩ := Rv.ev (show a.tmps.getD 97 undef = .slice (some ⟨b8, o8, none⟩) (l.length + 1) c8 from hdep 2 rfl rfl)
                  exact Rv.step_op (op := Go.Op.call { callee := Go.Callee.builtin Go.Builtin.len, args := #[Go.Operand.tmp 97], argTypes := #[28] }) (v := .int .i64 ((l.length : Int) + 1)) (w1 := W) rfl rfl (fun d pos aft g => by unfold execOp; go_simp) ⟨_, rfl, rfl, .inr (Below.refl _ _), htr, fun _ ht => ht, fun L _ hJ => Jw.keep (by decide) _ (Below.refl _ _) hJ⟩
                | 4, _ =>
                  obtain ⟨e98, x98⟩ := Rv.ev (show a.tmps.getD 98 undef = .int .i64 ((l.length : Int) + 1) from hdep 3 rfl rfl)
                  have hl5 := HL5.out
                  have hw9 : IntKind.i64.wrap (l.length : Int) = (l.length : Int) := IntWalk.i64_in _ (by omega)
                  exact Rv.step_op (op := Go.Op.binOp Go.BinOp.sub 3 (Go.Operand.tmp 98) (Go.Operand.const (Go.Value.int Go.IntKind.i64 1)) 3) (v := .int .i64 (l.length : Int)) (w1 := W) rfl rfl (fun d pos aft g => by unfold execOp; go_simp) ⟨_, rfl, rfl, .inr (Below.refl _ _), htr, fun _ ht => ht, fun L _ hJ => Jw.keep (by decide) _ (Below.refl _ _) hJ⟩
                | 5, _ =>
                  obtain ⟨e96, x96⟩ := Rv.ev (show a.tmps.getD 96 undef = .slice (some ⟨b8, o8, none⟩) (l.length + 1) c8 from hdep 1 rfl rfl)
                  obtain ⟨e99, x99⟩ := Rv.ev (show a.tmps.getD 99 undef = .int .i64 (l.length : Int) from hdep 4 rfl rfl)
                  have htl := HTL.out W
                  exact Rv.step_op (op := Go.Op.slice 28 (Go.Operand.tmp 96) (some (Go.Operand.tmp 99)) none none) (v := .slice AL 1 cm) (w1 := W) rfl rfl (fun d pos aft g => by unfold execOp; go_simp) ⟨_, rfl, rfl, .inr (Below.refl _ _), htr, fun _ ht => ht, fun L _ hJ => Jw.keep (by decide) _ (Below.refl _ _) hJ⟩
                | 6, _ =>
                  obtain ⟨e95, x95⟩ := Rv.ev (show a.tmps.getD 95 undef = .agg #[.int .i64 tc.k, .int .i64 tc.n, .string tc.s, .slice A1 tc.ns.length c1, .slice B1 tc.is.length d1] from hdep 0 rfl rfl)
                  obtain ⟨e100, x100⟩ := Rv.ev (show a.tmps.getD 100 undef = .slice AL 1 cm from hdep 5 rfl rfl)
                  have cf : ∀ x0 x1 W, (callFunc 17 #[x0, x1]).run Tryz.prog W = .ok (.enter 17 #[x0, x1]) W := fun _ _ _ => by kernel_rfl
                  refine Rv.step_fn (op := Go.Op.call { callee := Go.Callee.value (Go.Operand.func 17), args := #[Go.Operand.tmp 95, Go.Operand.tmp 100], argTypes := #[26, 28] }) (ty := 39) (f := 17) (args := #[.agg #[.int .i64 tc.k, .int .i64 tc.n, .string tc.s, .slice A1 tc.ns.length c1, .slice B1 tc.is.length d1], .slice AL 1 cm]) (R := fun v W' => (∃ (u : Value) (b : Bool) (c : J), v = .tuple #[u, .bool b] ∧ JN E W' c u ∧ ((b = true ∧ getJ [sp] tc = some c ∧ Wf c) ∨ (b = false ∧ getJ [sp] tc = none))) ∧ Below W.heap.size W W') rfl rfl (fun d pos aft g => by unfold execOp; go_simp) ((GT.out W htr).mono ?_) ?_
                  · (rintro e W' (⟨u, c, rfl, h1, h2, h3, hb⟩ | ⟨u, c, rfl, h1, h3, hb⟩); exact ⟨_, rfl, ⟨u, true, c, rfl, h3, .inl ⟨rfl, h1, h2⟩⟩, hb⟩; exact ⟨_, rfl, ⟨u, false, c, rfl, h3, .inr ⟨rfl, h1⟩⟩, hb⟩)
                  · (rintro v W' ⟨⟨u, b, c, rfl, h1, h2⟩, hb⟩; exact ⟨_, rfl, ⟨u, b, rfl⟩, .inr hb, htr.trans (hb.mono htr.size), fun _ ht => trivial, fun L _ hJ => Jw.call h1 h2⟩)
                | 7, _ =>
                  obtain ⟨u101, b101, q101⟩ : ∃ (u : Value) (b : Bool), a.tmps.getD 101 undef = .tuple #[u, .bool b] := hdep 6 rfl rfl
                  obtain ⟨e101, x101⟩ := Rv.ev q101
                  exact Rv.step_op (op := Go.Op.move (Go.Operand.tmp 101)) (ty := 39) (v := .tuple #[u101, .bool b101]) (w1 := W) rfl rfl (fun d pos aft g => by unfold execOp; go_simp) ⟨_, rfl, ⟨u101, b101, q101, q101.symm⟩, .inr (Below.refl _ _), htr, (fun _ ht => ht), fun L _ hJ => Jw.keep (by decide) _ (Below.refl _ _) hJ⟩
                | 8, _ =>
                  obtain ⟨u94, b94, q94a, q94⟩ : ∃ (u : Value) (b : Bool), a.tmps.getD 101 undef = .tuple #[u, .bool b] ∧ a.tmps.getD 94 undef = a.tmps.getD 101 undef := hdep 7 rfl rfl
                  obtain ⟨e94, x94⟩ := Rv.ev (q94.trans q94a)
                  exact Rv.step_op (op := Go.Op.extract (Go.Operand.tmp 94) 0) (ty := 26) (v := u94) (w1 := W) rfl rfl (fun d pos aft g => by unfold execOp; go_simp) ⟨_, rfl, ⟨u94, b94, q94.trans q94a, rfl⟩, .inr (Below.refl _ _), htr, (fun _ ht => ht), fun L _ hJ => Jw.keep (by decide) _ (Below.refl _ _) hJ⟩
                | 9, _ =>
                  obtain ⟨u94, b94, q94a, q94⟩ : ∃ (u : Value) (b : Bool), a.tmps.getD 101 undef = .tuple #[u, .bool b] ∧ a.tmps.getD 94 undef = a.tmps.getD 101 undef := hdep 7 rfl rfl
                  obtain ⟨e94, x94⟩ := Rv.ev (q94.trans q94a)
                  exact Rv.step_op (op := Go.Op.extract (Go.Operand.tmp 94) 1) (ty := 4) (v := .bool b94) (w1 := W) rfl rfl (fun d pos aft g => by unfold execOp; go_simp) ⟨_, rfl, ⟨u94, b94, q94.trans q94a, rfl⟩, .inr (Below.refl _ _), htr, (fun _ ht => ht), fun L _ hJ => Jw.keep (by decide) _ (Below.refl _ _) hJ⟩
                | 10, _ =>
                  have hal : Below W.heap.size W (W.alloc (.cells #[.int .i64 0, .int .i64 0, .string ⟨#[]⟩, .slice none 0 0, .slice none 0 0] 26)) := (Below.refl _ _).alloc (Nat.le_refl _) _
                  exact Rv.step_op (op := Go.Op.alloc 26) (ty := 0) (v := .pointer (some ⟨W.heap.size, 0, none⟩)) (w1 := W.alloc (.cells #[.int .i64 0, .int .i64 0, .string ⟨#[]⟩, .slice none 0 0, .slice none 0 0] 26)) rfl rfl (fun d pos aft g => by unfold execOp; go_simp) ⟨_, rfl, ⟨W.heap.size, rfl, heap_alloc_new W _, htr.size⟩, .inr hal, htr.trans (hal.mono htr.size), (fun _ ht => ht), fun L _ hJ => Jw.keep (by decide) _ hal hJ⟩
                | 11, _ =>
                  obtain ⟨g, e11', k11, h11⟩ : ∃ (g : Nat), a.tmps.getD 11 undef = .pointer (some ⟨g, 0, none⟩) ∧ W.heap[g]? = some (.cells #[.int .i64 0, .int .i64 0, .string ⟨#[]⟩, .slice none 0 0, .slice none 0 0] 26 (0, 0)) ∧ X.heap.size ≤ g := hdep 10 rfl rfl
                  obtain ⟨e11, x11⟩ := Rv.ev e11'
                  obtain ⟨u102, b102, q102a, q102⟩ : ∃ (u : Value) (b : Bool), a.tmps.getD 94 undef = .tuple #[u, .bool b] ∧ a.tmps.getD 102 undef = u := hdep 8 rfl rfl
                  obtain ⟨u94, b94, q94a, q94⟩ : ∃ (u : Value) (b : Bool), a.tmps.getD 101 undef = .tuple #[u, .bool b] ∧ a.tmps.getD 94 undef = a.tmps.getD 101 undef := hdep 7 rfl rfl
                  obtain ⟨L, hL, hLd, hj0⟩ := hJ
                  obtain ⟨u4, b4, cj, q4, m4, m5⟩ := hj0 (hLd 6 rfl)
                  have q4 : a.tmps.getD 101 undef = .tuple #[u4, .bool b4] := q4
                  have ev : u4 = a.tmps.getD 102 undef := by rw [q94, q4] at q102a; injection q102a with q; injection q with q; simp only [List.cons.injEq] at q; exact q.1.trans q102.symm
                  obtain ⟨A5, c5, A6, c6, ez, _⟩ := m4.five
                  subst ez
                  have ev2 := ev.symm
                  obtain ⟨e102, x102⟩ := Rv.ev ev2
                  obtain ⟨s0, s1, s2, s3, s4⟩ := Rv.cells5 k11
                  obtain ⟨z0, z1, z2, z3, z4⟩ := Rv.frozen5 k11
                  have gs' := fun (V : World) j u => grown_set (Below.refl _ V) g j u
                  have hgg := (grown_then (grown_then (grown_then (grown_then (gs' W 0 (.int .i64 cj.k)) (gs' _ 1 (.int .i64 cj.n))) (gs' _ 2 (.string cj.s))) (gs' _ 3 (.slice A5 cj.ns.length c5))) (gs' _ 4 (.slice A6 cj.is.length c6)))
                  have sb : ∀ (V : World) (j : Nat) (u : Value), Below X.heap.size W V → Below X.heap.size W (V.setCell ⟨g, j, none⟩ u) := fun V j u h => h.setCell h11 u
                  have hjk := fun L' (hJ' : Jw E sp tc L' (Rv.vals (#[95, 96, 97, 98, 99, 100, 101, 94, 102, 103, 11, 1011, 12] : Array Nat) a) W) => Jw.store (i := 11) (by decide) undef hgg (fun x hx => by have := HE.out x hx; have := HXS.out; omega) hJ'
                  clear q94 q94a q102 q102a ev q4 hj0 m5 m4 hL hLd
                  exact Rv.step_skip (op := Go.Op.store 26 (Go.Operand.tmp 11) (Go.Operand.tmp 102)) (ty := 0) (w1 := (((((W.setCell ⟨g, 0, none⟩ (.int .i64 cj.k)).setCell ⟨g, 1, none⟩ (.int .i64 cj.n)).setCell ⟨g, 2, none⟩ (.string cj.s)).setCell ⟨g, 3, none⟩ (.slice A5 cj.ns.length c5)).setCell ⟨g, 4, none⟩ (.slice A6 cj.is.length c6))) rfl rfl (fun d pos aft g => by unfold execOp; go_simp) ⟨undef, rfl, ⟨g, _, _, _, _, _, e11', ev2, Rv.sets5 k11 _ _ _ _ _, h11⟩, .inl ⟨rfl, trivial⟩, htr.trans (sb _ 4 (.slice A6 cj.is.length c6) (sb _ 3 (.slice A5 cj.ns.length c5) (sb _ 2 (.string cj.s) (sb _ 1 (.int .i64 cj.n) (sb _ 0 (.int .i64 cj.k) (Below.refl X.heap.size W)))))), (fun h => by cases h), fun L' _ hJ' => hjk L' hJ'⟩
                | 12, _ =>
                  obtain ⟨u103, b103, q103a, q103⟩ : ∃ (u : Value) (b : Bool), a.tmps.getD 94 undef = .tuple #[u, .bool b] ∧ a.tmps.getD 103 undef = .bool b := hdep 9 rfl rfl
                  obtain ⟨e103, x103⟩ := Rv.ev q103
                  exact Rv.step_op (op := Go.Op.assign (Go.Operand.tmp 103)) (ty := 4) (v := .bool b103) (w1 := W) rfl rfl (fun d pos aft g => by unfold execOp; go_simp) ⟨_, rfl, q103.symm, .inr (Below.refl _ _), htr, (fun _ ht => ht), fun L _ hJ => Jw.keep (by decide) _ (Below.refl _ _) hJ⟩
                | m + 13, h => exact absurd h (by show ¬ m + 13 < 13; omega)
              intro W f hf htr hJ
              have f0 : f 0 = .agg #[.int .i64 tc.k, .int .i64 tc.n, .string tc.s, .slice A1 tc.ns.length c1, .slice B1 tc.is.length d1] := hf 0 (by show 0 < 13; omega) rfl
              have f1 : f 1 = .slice (some ⟨b8, o8, none⟩) (l.length + 1) c8 := hf 1 (by show 1 < 13; omega) rfl
              have f2 : f 2 = .slice (some ⟨b8, o8, none⟩) (l.length + 1) c8 := hf 2 (by show 2 < 13; omega) rfl
              have f3 : f 3 = .int .i64 ((l.length : Int) + 1) := hf 3 (by show 3 < 13; omega) rfl
              have f4 : f 4 = .int .i64 (l.length : Int) := hf 4 (by show 4 < 13; omega) rfl
              have f5 : f 5 = .slice AL 1 cm := hf 5 (by show 5 < 13; omega) rfl
              have HS6 := Lib.hid (show (fun f W => ∃ (u : Value) (b : Bool), f 6 = .tuple #[u, .bool b]) f W from hf 6 (by show 6 < 13; omega) rfl)
              have HS7 := Lib.hid (show (fun f W => ∃ (u : Value) (b : Bool), f 6 = .tuple #[u, .bool b] ∧ f 7 = f 6) f W from hf 7 (by show 7 < 13; omega) rfl)
              have HS8 := Lib.hid (show (fun f W => ∃ (u : Value) (b : Bool), f 7 = .tuple #[u, .bool b] ∧ f 8 = u) f W from hf 8 (by show 8 < 13; omega) rfl)
              have HS9 := Lib.hid (show (fun f W => ∃ (u : Value) (b : Bool), f 7 = .tuple #[u, .bool b] ∧ f 9 = .bool b) f W from hf 9 (by show 9 < 13; omega) rfl)
              have HS11 := Lib.hid (show (fun f W => ∃ (g : Nat) (z0 z1 z2 z3 z4 : Value), f 10 = .pointer (some ⟨g, 0, none⟩) ∧ f 8 = .agg #[z0, z1, z2, z3, z4] ∧ W.heap[g]? = some (.cells #[z0, z1, z2, z3, z4] 26 (0, 0)) ∧ X.heap.size ≤ g) f W from hf 11 (by show 11 < 13; omega) rfl)
              have HS12 := Lib.hid (show (fun f W => f 12 = f 9) f W from hf 12 (by show 12 < 13; omega) rfl)
              clear hf
              refine (show ∀ (a : Act) (w : World), Code.wp _ _ _ a w → _ from by assumption) _ _ ?_
              refine Rv.fin_swap (L' := [(95, f 0), (96, f 1), (97, f 2), (98, f 3), (99, f 4), (100, f 5), (101, f 6), (94, f 7), (102, f 8), (103, f 9), (11, f 10), (1011, f 11), (12, f 12)]) rfl ?_
              rw [f0, f1, f2, f3, f4, f5]
              clear f0 f1 f2 f3 f4 f5
              simp only [Rv.fin, List.foldl_cons, List.foldl_nil, Act.put, List.setIfInBounds_toArray, List.set_cons_succ, List.set_cons_zero, List.set_nil]
              obtain ⟨g, z0, z1, z2, z3, z4, q10, q8, hgc, hgx⟩ := HS11.out
              obtain ⟨u6, b6, cj, q6, hjc, hor⟩ := hJ rfl
              obtain ⟨u7, b7, q7a, q7⟩ := HS7.out
              obtain ⟨u8, b8', q8a, q8b⟩ := HS8.out
              obtain ⟨u9, b9, q9a, q9⟩ := HS9.out
              have h12 : f 12 = .bool b6 := by
                rw [HS12.out, q9]
                rw [q7, q6] at q9a
                injection q9a with h; injection h with h; simp only [List.cons.injEq, Value.bool.injEq, and_true] at h
                rw [h.2]
              have h8 : u6 = .agg #[z0, z1, z2, z3, z4] := by
                rw [q7, q6] at q8a
                injection q8a with h; injection h with h; simp only [List.cons.injEq, and_true] at h
                exact h.1.trans (q8b.symm.trans q8)
              rw [q10, h12]
              have HBW := Lib.hid (HB.out.trans (htr.mono HB.out.size))
              have HG := Lib.hid ((htr.block _ hga).trans HG.out)
              have HMs := Lib.hid (HMs.out.below htr)
              have HO8 := Lib.hid (own_below HO8.out htr)
              obtain ⟨A5, c5, A6, c6, ez, _⟩ := hjc.five
              rw [h8] at ez
              (injection ez with ez); (injection ez with ez); simp only [List.cons.injEq, and_true] at ez
              obtain ⟨rfl, rfl, rfl, rfl, rfl⟩ := ez
              rw [h8] at hjc
              have HJJ := Lib.hid hjc
              have HGC := Lib.hid hgc
              have HOR := Lib.hid hor
              clear hJ q10 q8 q6 hjc hor q7a q7 q8a q8b q9a q9 h12 h8 htr HS6 HS7 HS8 HS9 HS11 HS12 hgc GT HTL HJC HB
              generalize f 6 = f6
              generalize f 7 = f7
              generalize f 8 = f8
              generalize f 9 = f9
              obtain ⟨q0, q1, q2, q3, q4⟩ := Rv.cells5 HGC.out
              obtain ⟨y0, y1, y2, y3, y4⟩ := Rv.cells5 HG.out
              obtain ⟨p0, p1, p2, p3, p4⟩ := Rv.frozen5 HG.out
              have hst : ∀ s ∈ l ++ [sp], Stp s := fun s hs => by
                rcases List.mem_append.1 hs with h | h
                · exact HS.out s h
                · rw [List.mem_singleton.1 h]; exact HSTP.out
              have HST := Lib.hid hst
              have hla : (l ++ [sp]).length = l.length + 1 := by simp
              have hsa : stc l ++ (#[.string sp.x, .int .i64 (sp.i : Int), .bool sp.b] : Array Value).toList = stc (l ++ [sp]) := by
                show stc l ++ stv sp = stc (l ++ [sp])
                unfold stc
                rw [List.flatMap_append]
                simp
              rw [hsa] at HO8
              clear hst hsa
              cases b6
              · rcases HOR.out with ⟨h, _⟩ | ⟨_, hgn⟩
                · cases h
                · have hf1 : fI tc sp = -1 := by
                    rcases fI_cases HWC.out sp with h | ⟨k, hk1, hk2⟩
                    · exact h
                    · rw [getJ_at _ _ _ k hk1 hk2] at hgn
                      cases hgn
                  have HWY := Lib.hid (HP.out _ (.last tc sp hf1 HSK.out))
                  clear HOR hgn hf1
                  go_wp2
                  refine bodyPost_ret (v := .tuple #[.slice (some ⟨b8, o8, none⟩) (l.length + 1) c8, .bool true]) ?_ rfl (.inl ⟨some ⟨b8, o8, none⟩, c8, l ++ [sp], by rw [hla], HWY.out, HST.out, by rw [hla]; omega, by rw [hla]; exact Rd.of_own HO8.out, HBW.out⟩)
                  simp only [results, show Tryz.f7.results = #[.tmp 4, .tmp 5] by kernel_rfl]
                  go_simp
              · rcases HOR.out with ⟨_, hgs, hwc⟩ | ⟨h, _⟩
                · have hex : ∃ k, ∃ (hk : k < tc.is.length), fI tc sp = (k : Int) ∧ tc.is[k] = cj := by
                    rcases fI_cases HWC.out sp with h | ⟨k, hk1, hk2⟩
                    · rw [getJ_no _ _ _ h] at hgs
                      cases hgs
                    · rw [getJ_at _ _ _ k hk1 hk2] at hgs
                      injection hgs with hgs
                      exact ⟨k, hk2, hk1, hgs⟩
                  obtain ⟨k, hk2, hk1, hck⟩ := hex
                  have HPN := Lib.hid (show Pre t (l ++ [sp]) cj from hck ▸ HP.out.step sp k hk1 hk2)
                  have HWN := Lib.hid hwc
                  clear HOR hgs hwc hk1 hck hk2
                  go_wp2
                  have sb : ∀ (V : World) (j : Nat) (u : Value), Below w.heap.size w V → Below w.heap.size w (V.setCell ⟨w.heap.size, j, none⟩ u) := fun V j u h => h.setCell (Nat.le_refl _) u
                  have gs := fun (V : World) j u => grown_set (Below.refl _ V) w.heap.size j u
                  have HBF := Lib.hid (sb _ 4 (.slice A6 cj.is.length c6) (sb _ 3 (.slice A5 cj.ns.length c5) (sb _ 2 (.string cj.s) (sb _ 1 (.int .i64 cj.n) (sb _ 0 (.int .i64 cj.k) HBW.out)))))
                  have hgg := (grown_then (grown_then (grown_then (grown_then (gs W 0 (.int .i64 cj.k)) (gs _ 1 (.int .i64 cj.n))) (gs _ 2 (.string cj.s))) (gs _ 3 (.slice A5 cj.ns.length c5))) (gs _ 4 (.slice A6 cj.is.length c6)))
                  have HJF := Lib.hid (HJJ.out.grown hgg (fun x hx e => by have := HE.out x hx; injection e with e; omega))
                  have HGF := Lib.hid (Rv.sets5 HG.out (.int .i64 cj.k) (.int .i64 cj.n) (.string cj.s) (.slice A5 cj.ns.length c5) (.slice A6 cj.is.length c6))
                  have HMF := Lib.hid (HMs.out.grown hgg (fun k hk => by injection hk with hk; omega))
                  have HOF := Lib.hid (own_kept HO8.out hgg (fun k hk e => by have := (HO8.out.lt k hk).1; injection e with e; omega))
                  clear sb gs hgg q0 q1 q2 q3 q4 y0 y1 y2 y3 y4 p0 p1 p2 p3 p4
                  go_roundg (gk - 1)
                  case rel => exact ⟨n - 1, l ++ [sp], cj, A5, c5, A6, c6, some ⟨b8, o8, none⟩, c8, by first | rw [hla] | simp, by go_num, by omega, by rw [hla]; omega, HPN, HST, HWN, HJF, HGF, by rw [hla]; exact HOF, HMF, HBF⟩
                  case measure => omega
                · cases h
            · rw [decide_eq_false cB]
              have HC := HC0
              obtain ⟨q0, q1, q2⟩ := Rv.cells3 HC0.out
              have hsw := HSW.out
              have hy6 : 0 ≤ y / 2 % 6 ∧ y / 2 % 6 < 6 := ⟨Int.emod_nonneg _ (by omega), Int.emod_lt_of_pos _ (by omega)⟩
              have HY6 := Lib.hid hy6
              have HSW7 : Hid (Wd7 (⟨#[110]⟩ ++ sw) ∧ (⟨#[110]⟩ : ByteArray) ++ sw ≠ .empty) := Lib.hid (by
                refine ⟨⟨?_, fun c hc => ?_⟩, fun e => ?_⟩
                · rw [ByteArray.size_append]; have := hsw.1; show 1 + sw.size ≤ 7; omega
                · rw [ByteArray.data_append, Array.toList_append, List.mem_append] at hc
                  rcases hc with hc | hc
                  · have hc : c ∈ [(110 : UInt8)] := hc
                    rw [List.mem_singleton.1 hc]
                    decide +kernel
                  · exact hsw.2 c hc
                · have h := congrArg ByteArray.size e
                  rw [ByteArray.size_append] at h
                  have h1 : (⟨#[110]⟩ : ByteArray).size = 1 := rfl
                  have h0 : ByteArray.empty.size = 0 := rfl
                  omega)
              clear hsw hy6
              by_cases hp : y % 2 = 0
              · have hpb : (y % 2 == 0) = true := by simp [hp]
                rw [hpb] at HC q2
                by_cases h4 : tc.k = 4
                · have hk4 : (tc.k != 4) = false := by simp [h4]
                  have HK4 := Lib.hid h4
                  clear h4 hp cA cB
                  obtain ⟨y0, y1, y2, y3, y4⟩ := Rv.cells5 HG.out
                  go_upto_region 14 with fail
                  clear q0 q1 q2 y0 y1 y2 y3 y4 HC0 hpb
                  generalize (⟨#[110]⟩ : ByteArray) ++ sw = nm at *
                  obtain ⟨sp, e1, e2, e3⟩ : ∃ sp : Sp, nm = sp.x ∧ (y / 2 % 6) = (sp.i : Int) ∧ true = sp.b := ⟨⟨nm, (y / 2 % 6).toNat, true⟩, rfl, by first | rfl | (simp; omega) | omega, rfl⟩
                  have HSTP : Hid (Stp sp) := Lib.hid (by obtain ⟨x, i, b⟩ := sp; (try simp only at e1 e2 e3); subst e1; subst e3; exact ⟨by have := HY6.out; show i ≤ 9; omega, HSW7.out.1, fun h => by cases h⟩)
                  have HSK : Hid (sp.b = true → tc.k = 4) := Lib.hid (by rw [← e3]; exact (fun _ => HK4.out))
                  rw [e1, e2, e3] at HC
                  clear e1 e2 e3
                  obtain ⟨q0, q1, q2⟩ := Rv.cells3 HC.out
                  go_upto_region 15 with (at_builtin; refine app1 (w0 := Y) (w.heap.size + 2) rfl (.tmp 90) (.tmp 92) 28 51 (.agg #[.string ⟨#[]⟩, .int .i64 0, .bool false]) 3 32 rfl Tryz.underlying28 info51 rfl (by omega) (by omega) _ _ _ _ rfl rfl rfl (by intro x hx; simp only [List.mem_cons, List.not_mem_nil, or_false] at hx; rcases hx with rfl | rfl | rfl <;> rfl) HO.out (Below.refl _ _) HSZ.out (by omega) ?_; intro v8 w8 hown hb8 hg8 hat8; obtain ⟨A8, c8, hv8, hle8, hcm8⟩ := (Rd.of_own hown).shape; subst hv8; have HO8 := Lib.hid hown; have HG8 := Lib.hid hg8; clear hown hb8 hat8 hg8)
                  have hown8 : ∀ k, (Value.slice A9 l.length c9).ownBlock = some k → w.heap.size + 2 ≤ k := fun k hk => (HO.out.lt k hk).1
                  have HMs := Lib.hid (HMs.out.grown HG8.out (fun k hk => by have := hown8 k hk; omega))
                  have HG := Lib.hid (blk_grown HG.out HG8.out (fun e => by have := hown8 _ e.symm; omega))
                  have HJC := Lib.hid (HJC.out.grown HG8.out (fun x hx e => by have := hown8 _ e.symm; have := HE.out x hx; omega))
                  have HB := Lib.hid (HB.out.grown HG8.out HB.out.size (fun k hk => by have := hown8 k hk; omega))
                  have HXS := Lib.hid (Nat.le_trans HSZ.out HG8.out.size)
                  obtain ⟨b8, o8, hA8⟩ : ∃ b o, A8 = some ⟨b, o, none⟩ := by
                    obtain ⟨b, o, c', hv, _⟩ := (Rd.of_own HO8.out).open (by omega)
                    injection hv with e
                    exact ⟨b, o, e⟩
                  subst hA8
                  obtain ⟨AL, htl, hrt⟩ := tail_ofS (P := Tryz.prog) 28 51 3 Tryz.underlying28 (fun W => by kernel_rfl) b8 o8 (l.length + 1) c8 l.length (by omega) hle8
                  have hst3 : (stc l).length = l.length * 3 := stc_len l
                  have hrt1 : Rd w8 3 (.slice AL 1 (c8 - l.length)) 1 (stc [sp]) := by
                    have h := hrt w8 _ (Rd.of_own HO8.out)
                    rw [show l.length + 1 - l.length = 1 by omega, ← hst3, List.drop_left] at h
                    exact h
                  rw [show l.length + 1 - l.length = 1 by omega] at htl
                  have HTL := Lib.hid htl
                  have HL5 := Lib.hid (show l.length ≤ 4 by omega)
                  have GT := Lib.hid (fun (W : World) (hb : Below w8.heap.size w8 W) => get_any E tc (.agg #[.int .i64 tc.k, .int .i64 tc.n, .string tc.s, .slice A1 tc.ns.length c1, .slice B1 tc.is.length d1]) AL (c8 - l.length) [sp] W (fun x hx => by have := HE.out x hx; have := HXS.out; have := hb.size; omega) (HJC.out.below hb) HWC.out (hrt1.below hb) (by simp))
                  clear hrt hrt1 htl q0 q1 q2 HC HSZ hown8 HG8 hst3 hle8 hcm8
                  have ec8 : ∃ cm, cm = c8 - l.length := ⟨_, rfl⟩
                  obtain ⟨cm, ec8⟩ := ec8
                  rw [← ec8] at HTL GT
                  clear ec8
                  generalize w8 = X at *
                  have hga := Rv.lt_of_blk HG.out
                  refine Rv.region_fin (n := 109) (by kernel_rfl) #[95, 96, 97, 98, 99, 100, 101, 94, 102, 103, 11, 1011, 12] #[] (fun i f W => if i = 12 then (fun f W => f 12 = f 9) f W else if i = 11 then (fun f W => ∃ (g : Nat) (z0 z1 z2 z3 z4 : Value), f 10 = .pointer (some ⟨g, 0, none⟩) ∧ f 8 = .agg #[z0, z1, z2, z3, z4] ∧ W.heap[g]? = some (.cells #[z0, z1, z2, z3, z4] 26 (0, 0)) ∧ X.heap.size ≤ g) f W else if i = 10 then (fun f W => ∃ (g : Nat), f 10 = .pointer (some ⟨g, 0, none⟩) ∧ W.heap[g]? = some (.cells #[.int .i64 0, .int .i64 0, .string ⟨#[]⟩, .slice none 0 0, .slice none 0 0] 26 (0, 0)) ∧ X.heap.size ≤ g) f W else if i = 9 then (fun f W => ∃ (u : Value) (b : Bool), f 7 = .tuple #[u, .bool b] ∧ f 9 = .bool b) f W else if i = 8 then (fun f W => ∃ (u : Value) (b : Bool), f 7 = .tuple #[u, .bool b] ∧ f 8 = u) f W else if i = 7 then (fun f W => ∃ (u : Value) (b : Bool), f 6 = .tuple #[u, .bool b] ∧ f 7 = f 6) f W else if i = 6 then (fun f W => ∃ (u : Value) (b : Bool), f 6 = .tuple #[u, .bool b]) f W else f i = (#[.agg #[.int .i64 tc.k, .int .i64 tc.n, .string tc.s, .slice A1 tc.ns.length c1, .slice B1 tc.is.length d1], .slice (some ⟨b8, o8, none⟩) (l.length + 1) c8, .slice (some ⟨b8, o8, none⟩) (l.length + 1) c8, .int .i64 ((l.length : Int) + 1), .int .i64 (l.length : Int), .slice AL 1 cm, undef, undef, undef, undef, undef, undef, undef] : Array Value).getD i undef) (fun i j => (i == 11 && (j == 10))) (fun i => i == 11) (fun i f W W' => True) (fun W => Below X.heap.size X W) (fun _ => True) (Jw E sp tc) (Jw.loc (by show 6 < 13; omega)) (fun i f f' w hi h hd hg => ?_) (fun i j f w w' hi hj hij hK hdp h hr => ?_) (fun i h g b hg => ?_) rfl (by kernel_rfl) (fun i h g b hg => ?_) ((Below.refl _ _).drew) (trivial) (fun f h => (by cases h)) (fun i h hr f w hf => ?_) (fun i h hr => absurd hr (Rv.allrun (by kernel_rfl) i h)) ?_ ?_
                  · by_cases hi12 : i = 12
                    · subst hi12
                      rw [if_pos rfl] at hg ⊢
                      exact h.symm.trans (hg.trans (hd 9 rfl))
                    rw [if_neg hi12] at hg ⊢
                    by_cases hi1011 : i = 11
                    · subst hi1011
                      rw [if_pos rfl] at hg ⊢
                      obtain ⟨g, z0, z1, z2, z3, z4, q1, q2, q3⟩ := hg
                      exact ⟨g, z0, z1, z2, z3, z4, (hd 10 rfl).symm.trans q1, (hd 8 rfl).symm.trans q2, q3⟩
                    rw [if_neg hi1011] at hg ⊢
                    by_cases hi11 : i = 10
                    · subst hi11
                      rw [if_pos rfl] at hg ⊢
                      obtain ⟨g, q1, q2⟩ := hg
                      exact ⟨g, h.symm.trans q1, q2⟩
                    rw [if_neg hi11] at hg ⊢
                    by_cases hi103 : i = 9
                    · subst hi103
                      rw [if_pos rfl] at hg ⊢
                      obtain ⟨u, b, q1, q2⟩ := hg
                      exact ⟨u, b, (hd 7 rfl).symm.trans q1, h.symm.trans q2⟩
                    rw [if_neg hi103] at hg ⊢
                    by_cases hi102 : i = 8
                    · subst hi102
                      rw [if_pos rfl] at hg ⊢
                      obtain ⟨u, b, q1, q2⟩ := hg
                      exact ⟨u, b, (hd 7 rfl).symm.trans q1, h.symm.trans q2⟩
                    rw [if_neg hi102] at hg ⊢
                    by_cases hi94 : i = 7
                    · subst hi94
                      rw [if_pos rfl] at hg ⊢
                      obtain ⟨u, b, q1, q2⟩ := hg
                      exact ⟨u, b, (hd 6 rfl).symm.trans q1, h.symm.trans (q2.trans (hd 6 rfl))⟩
                    rw [if_neg hi94] at hg ⊢
                    by_cases hi101 : i = 6
                    · subst hi101
                      rw [if_pos rfl] at hg ⊢
                      obtain ⟨u, b, q⟩ := hg
                      exact ⟨u, b, h.symm.trans q⟩
                    rw [if_neg hi101] at hg ⊢
                    rw [← h]; exact hg
                  · by_cases hj12 : j = 12
                    · subst hj12
                      rw [if_pos rfl] at h ⊢
                      exact h
                    rw [if_neg hj12] at h ⊢
                    by_cases hj1011 : j = 11
                    · subst hj1011
                      rw [if_pos rfl] at h ⊢
                      rcases hr with ⟨hK1, hr⟩ | hr
                      · have e : i = 11 := by simpa using hK1
                        exact absurd e hij
                      · obtain ⟨g, z0, z1, z2, z3, z4, e, e2, h1, h2⟩ := h
                        exact ⟨g, z0, z1, z2, z3, z4, e, e2, (hr.block _ (Rv.lt_of_blk h1)).trans h1, h2⟩
                    rw [if_neg hj1011] at h ⊢
                    by_cases hj11 : j = 10
                    · subst hj11
                      rw [if_pos rfl] at h ⊢
                      rcases hr with ⟨hK1, hr⟩ | hr
                      · have e : i = 11 := by simpa using hK1
                        subst e; exfalso; revert hK; decide
                      · obtain ⟨g, e, h1, h2⟩ := h
                        exact ⟨g, e, (hr.block _ (Rv.lt_of_blk h1)).trans h1, h2⟩
                    rw [if_neg hj11] at h ⊢
                    by_cases hj103 : j = 9
                    · subst hj103
                      rw [if_pos rfl] at h ⊢
                      exact h
                    rw [if_neg hj103] at h ⊢
                    by_cases hj102 : j = 8
                    · subst hj102
                      rw [if_pos rfl] at h ⊢
                      exact h
                    rw [if_neg hj102] at h ⊢
                    by_cases hj94 : j = 7
                    · subst hj94
                      rw [if_pos rfl] at h ⊢
                      exact h
                    rw [if_neg hj94] at h ⊢
                    by_cases hj101 : j = 6
                    · subst hj101
                      rw [if_pos rfl] at h ⊢
                      exact h
                    rw [if_neg hj101] at h ⊢
                    exact h
                  · match i, h, hg with
                    | 0, _, hg => cases hg
                    | 1, _, hg => cases hg
                    | 2, _, hg => cases hg
                    | 3, _, hg => cases hg
                    | 4, _, hg => cases hg
                    | 5, _, hg => cases hg
                    | 6, _, hg => cases hg
                    | 7, _, hg => cases hg
                    | 8, _, hg => cases hg
                    | 9, _, hg => cases hg
                    | 10, _, hg => cases hg
                    | 11, _, hg => cases hg
                    | 12, _, hg => cases hg
                    | m + 13, h, _ => exact absurd h (by show ¬ m + 13 < 13; omega)
                  · match i, h, hg with
                    | 0, _, hg => cases hg
                    | 1, _, hg => cases hg
                    | 2, _, hg => cases hg
                    | 3, _, hg => cases hg
                    | 4, _, hg => cases hg
                    | 5, _, hg => cases hg
                    | 6, _, hg => cases hg
                    | 7, _, hg => cases hg
                    | 8, _, hg => cases hg
                    | 9, _, hg => cases hg
                    | 10, _, hg => cases hg
                    | 11, _, hg => cases hg
                    | 12, _, hg => cases hg
                    | m + 13, h, _ => exact absurd h (by show ¬ m + 13 < 13; omega)
                  · match i, h, hr, hf with
                    | 0, _, hr, _ => exact Bool.noConfusion (show true = false from hr)
                    | 1, _, hr, _ => exact Bool.noConfusion (show true = false from hr)
                    | 2, _, hr, _ => exact Bool.noConfusion (show true = false from hr)
                    | 3, _, hr, _ => exact Bool.noConfusion (show true = false from hr)
                    | 4, _, hr, _ => exact Bool.noConfusion (show true = false from hr)
                    | 5, _, hr, _ => exact Bool.noConfusion (show true = false from hr)
                    | 6, _, hr, _ => exact Bool.noConfusion (show true = false from hr)
                    | 7, _, hr, _ => exact Bool.noConfusion (show true = false from hr)
                    | 8, _, hr, _ => exact Bool.noConfusion (show true = false from hr)
                    | 9, _, hr, _ => exact Bool.noConfusion (show true = false from hr)
                    | 10, _, hr, _ => exact Bool.noConfusion (show true = false from hr)
                    | 11, _, hr, _ => exact Bool.noConfusion (show true = false from hr)
                    | 12, _, hr, _ => exact Bool.noConfusion (show true = false from hr)
                    | m + 13, h, _, _ => exact absurd h (by show ¬ m + 13 < 13; omega)
                  · intro i h a W hrun hbase hpre hdep htr hta hJ
                    match i, h with
                    | 0, _ =>
                      obtain ⟨e2, x2⟩ := Rv.ev (show a.tmps.getD 2 undef = .pointer (some ⟨w.heap.size, 0, none⟩) from hbase 2 rfl)
                      obtain ⟨y0, y1, y2, y3, y4⟩ := Rv.cells5 ((htr.block _ hga).trans HG.out)
                      exact Rv.step_op (op := Go.Op.load 26 (Go.Operand.tmp 2)) (v := .agg #[.int .i64 tc.k, .int .i64 tc.n, .string tc.s, .slice A1 tc.ns.length c1, .slice B1 tc.is.length d1]) (w1 := W) rfl rfl (fun d pos aft g => by unfold execOp; go_simp) ⟨_, rfl, rfl, .inr (Below.refl _ _), htr, fun _ ht => ht, fun L _ hJ => Jw.keep (by decide) _ (Below.refl _ _) hJ⟩
                    | 1, _ =>
                      obtain ⟨e7, x7⟩ := Rv.ev (show a.tmps.getD 7 undef = .slice (some ⟨b8, o8, none⟩) (l.length + 1) c8 from hbase 7 rfl)
                      exact Rv.step_op (op := Go.Op.move (Go.Operand.tmp 7)) (v := .slice (some ⟨b8, o8, none⟩) (l.length + 1) c8) (w1 := W) rfl rfl (fun d pos aft g => by unfold execOp; go_simp) ⟨_, rfl, rfl, .inr (Below.refl _ _), htr, fun _ ht => ht, fun L _ hJ => Jw.keep (by decide) _ (Below.refl _ _) hJ⟩
                    | 2, _ =>
                      obtain ⟨e7, x7⟩ := Rv.ev (show a.tmps.getD 7 undef = .slice (some ⟨b8, o8, none⟩) (l.length + 1) c8 from hbase 7 rfl)
                      exact Rv.step_op (op := Go.Op.move (Go.Operand.tmp 7)) (v := .slice (some ⟨b8, o8, none⟩) (l.length + 1) c8) (w1 := W) rfl rfl (fun d pos aft g => by unfold execOp; go_simp) ⟨_, rfl, rfl, .inr (Below.refl _ _), htr, fun _ ht => ht, fun L _ hJ => Jw.keep (by decide) _ (Below.refl _ _) hJ⟩
                    | 3, _ =>
                      obtain ⟨e97, x97⟩ := Rv.ev (show a.tmps.getD 97 undef = .slice (some ⟨b8, o8, none⟩) (l.length + 1) c8 from hdep 2 rfl rfl)
                      exact Rv.step_op (op := Go.Op.call { callee := Go.Callee.builtin Go.Builtin.len, args := #[Go.Operand.tmp 97], argTypes := #[28] }) (v := .int .i64 ((l.length : Int) + 1)) (w1 := W) rfl rfl (fun d pos aft g => by unfold execOp; go_simp) ⟨_, rfl, rfl, .inr (Below.refl _ _), htr, fun _ ht => ht, fun L _ hJ => Jw.keep (by decide) _ (Below.refl _ _) hJ⟩
                    | 4, _ =>
                      obtain ⟨e98, x98⟩ := Rv.ev (show a.tmps.getD 98 undef = .int .i64 ((l.length : Int) + 1) from hdep 3 rfl rfl)
                      have hl5 := HL5.out
                      have hw9 : IntKind.i64.wrap (l.length : Int) = (l.length : Int) := IntWalk.i64_in _ (by omega)
                      exact Rv.step_op (op := Go.Op.binOp Go.BinOp.sub 3 (Go.Operand.tmp 98) (Go.Operand.const (Go.Value.int Go.IntKind.i64 1)) 3) (v := .int .i64 (l.length : Int)) (w1 := W) rfl rfl (fun d pos aft g => by unfold execOp; go_simp) ⟨_, rfl, rfl, .inr (Below.refl _ _), htr, fun _ ht => ht, fun L _ hJ => Jw.keep (by decide) _ (Below.refl _ _) hJ⟩
                    | 5, _ =>
                      obtain ⟨e96, x96⟩ := Rv.ev (show a.tmps.getD 96 undef = .slice (some ⟨b8, o8, none⟩) (l.length + 1) c8 from hdep 1 rfl rfl)
                      obtain ⟨e99, x99⟩ := Rv.ev (show a.tmps.getD 99 undef = .int .i64 (l.length : Int) from hdep 4 rfl rfl)
                      have htl := HTL.out W
                      exact Rv.step_op (op := Go.Op.slice 28 (Go.Operand.tmp 96) (some (Go.Operand.tmp 99)) none none) (v := .slice AL 1 cm) (w1 := W) rfl rfl (fun d pos aft g => by unfold execOp; go_simp) ⟨_, rfl, rfl, .inr (Below.refl _ _), htr, fun _ ht => ht, fun L _ hJ => Jw.keep (by decide) _ (Below.refl _ _) hJ⟩
                    | 6, _ =>
                      obtain ⟨e95, x95⟩ := Rv.ev (show a.tmps.getD 95 undef = .agg #[.int .i64 tc.k, .int .i64 tc.n, .string tc.s, .slice A1 tc.ns.length c1, .slice B1 tc.is.length d1] from hdep 0 rfl rfl)
                      obtain ⟨e100, x100⟩ := Rv.ev (show a.tmps.getD 100 undef = .slice AL 1 cm from hdep 5 rfl rfl)
                      have cf : ∀ x0 x1 W, (callFunc 17 #[x0, x1]).run Tryz.prog W = .ok (.enter 17 #[x0, x1]) W := fun _ _ _ => by kernel_rfl
                      refine Rv.step_fn (op := Go.Op.call { callee := Go.Callee.value (Go.Operand.func 17), args := #[Go.Operand.tmp 95, Go.Operand.tmp 100], argTypes := #[26, 28] }) (ty := 39) (f := 17) (args := #[.agg #[.int .i64 tc.k, .int .i64 tc.n, .string tc.s, .slice A1 tc.ns.length c1, .slice B1 tc.is.length d1], .slice AL 1 cm]) (R := fun v W' => (∃ (u : Value) (b : Bool) (c : J), v = .tuple #[u, .bool b] ∧ JN E W' c u ∧ ((b = true ∧ getJ [sp] tc = some c ∧ Wf c) ∨ (b = false ∧ getJ [sp] tc = none))) ∧ Below W.heap.size W W') rfl rfl (fun d pos aft g => by unfold execOp; go_simp) ((GT.out W htr).mono ?_) ?_
                      · (rintro e W' (⟨u, c, rfl, h1, h2, h3, hb⟩ | ⟨u, c, rfl, h1, h3, hb⟩); exact ⟨_, rfl, ⟨u, true, c, rfl, h3, .inl ⟨rfl, h1, h2⟩⟩, hb⟩; exact ⟨_, rfl, ⟨u, false, c, rfl, h3, .inr ⟨rfl, h1⟩⟩, hb⟩)
                      · (rintro v W' ⟨⟨u, b, c, rfl, h1, h2⟩, hb⟩; exact ⟨_, rfl, ⟨u, b, rfl⟩, .inr hb, htr.trans (hb.mono htr.size), fun _ ht => trivial, fun L _ hJ => Jw.call h1 h2⟩)
                    | 7, _ =>
                      obtain ⟨u101, b101, q101⟩ : ∃ (u : Value) (b : Bool), a.tmps.getD 101 undef = .tuple #[u, .bool b] := hdep 6 rfl rfl
                      obtain ⟨e101, x101⟩ := Rv.ev q101
                      exact Rv.step_op (op := Go.Op.move (Go.Operand.tmp 101)) (ty := 39) (v := .tuple #[u101, .bool b101]) (w1 := W) rfl rfl (fun d pos aft g => by unfold execOp; go_simp) ⟨_, rfl, ⟨u101, b101, q101, q101.symm⟩, .inr (Below.refl _ _), htr, (fun _ ht => ht), fun L _ hJ => Jw.keep (by decide) _ (Below.refl _ _) hJ⟩
                    | 8, _ =>
                      obtain ⟨u94, b94, q94a, q94⟩ : ∃ (u : Value) (b : Bool), a.tmps.getD 101 undef = .tuple #[u, .bool b] ∧ a.tmps.getD 94 undef = a.tmps.getD 101 undef := hdep 7 rfl rfl
                      obtain ⟨e94, x94⟩ := Rv.ev (q94.trans q94a)
                      exact Rv.step_op (op := Go.Op.extract (Go.Operand.tmp 94) 0) (ty := 26) (v := u94) (w1 := W) rfl rfl (fun d pos aft g => by unfold execOp; go_simp) ⟨_, rfl, ⟨u94, b94, q94.trans q94a, rfl⟩, .inr (Below.refl _ _), htr, (fun _ ht => ht), fun L _ hJ => Jw.keep (by decide) _ (Below.refl _ _) hJ⟩
                    | 9, _ =>
                      obtain ⟨u94, b94, q94a, q94⟩ : ∃ (u : Value) (b : Bool), a.tmps.getD 101 undef = .tuple #[u, .bool b] ∧ a.tmps.getD 94 undef = a.tmps.getD 101 undef := hdep 7 rfl rfl
                      obtain ⟨e94, x94⟩ := Rv.ev (q94.trans q94a)
                      exact Rv.step_op (op := Go.Op.extract (Go.Operand.tmp 94) 1) (ty := 4) (v := .bool b94) (w1 := W) rfl rfl (fun d pos aft g => by unfold execOp; go_simp) ⟨_, rfl, ⟨u94, b94, q94.trans q94a, rfl⟩, .inr (Below.refl _ _), htr, (fun _ ht => ht), fun L _ hJ => Jw.keep (by decide) _ (Below.refl _ _) hJ⟩
                    | 10, _ =>
                      have hal : Below W.heap.size W (W.alloc (.cells #[.int .i64 0, .int .i64 0, .string ⟨#[]⟩, .slice none 0 0, .slice none 0 0] 26)) := (Below.refl _ _).alloc (Nat.le_refl _) _
                      exact Rv.step_op (op := Go.Op.alloc 26) (ty := 0) (v := .pointer (some ⟨W.heap.size, 0, none⟩)) (w1 := W.alloc (.cells #[.int .i64 0, .int .i64 0, .string ⟨#[]⟩, .slice none 0 0, .slice none 0 0] 26)) rfl rfl (fun d pos aft g => by unfold execOp; go_simp) ⟨_, rfl, ⟨W.heap.size, rfl, heap_alloc_new W _, htr.size⟩, .inr hal, htr.trans (hal.mono htr.size), (fun _ ht => ht), fun L _ hJ => Jw.keep (by decide) _ hal hJ⟩
                    | 11, _ =>
                      obtain ⟨g, e11', k11, h11⟩ : ∃ (g : Nat), a.tmps.getD 11 undef = .pointer (some ⟨g, 0, none⟩) ∧ W.heap[g]? = some (.cells #[.int .i64 0, .int .i64 0, .string ⟨#[]⟩, .slice none 0 0, .slice none 0 0] 26 (0, 0)) ∧ X.heap.size ≤ g := hdep 10 rfl rfl
                      obtain ⟨e11, x11⟩ := Rv.ev e11'
                      obtain ⟨u102, b102, q102a, q102⟩ : ∃ (u : Value) (b : Bool), a.tmps.getD 94 undef = .tuple #[u, .bool b] ∧ a.tmps.getD 102 undef = u := hdep 8 rfl rfl
                      obtain ⟨u94, b94, q94a, q94⟩ : ∃ (u : Value) (b : Bool), a.tmps.getD 101 undef = .tuple #[u, .bool b] ∧ a.tmps.getD 94 undef = a.tmps.getD 101 undef := hdep 7 rfl rfl
                      obtain ⟨L, hL, hLd, hj0⟩ := hJ
                      obtain ⟨u4, b4, cj, q4, m4, m5⟩ := hj0 (hLd 6 rfl)
                      have q4 : a.tmps.getD 101 undef = .tuple #[u4, .bool b4] := q4
                      have ev : u4 = a.tmps.getD 102 undef := by rw [q94, q4] at q102a; injection q102a with q; injection q with q; simp only [List.cons.injEq] at q; exact q.1.trans q102.symm
                      obtain ⟨A5, c5, A6, c6, ez, _⟩ := m4.five
                      subst ez
                      have ev2 := ev.symm
                      obtain ⟨e102, x102⟩ := Rv.ev ev2
                      obtain ⟨s0, s1, s2, s3, s4⟩ := Rv.cells5 k11
                      obtain ⟨z0, z1, z2, z3, z4⟩ := Rv.frozen5 k11
                      have gs' := fun (V : World) j u => grown_set (Below.refl _ V) g j u
                      have hgg := (grown_then (grown_then (grown_then (grown_then (gs' W 0 (.int .i64 cj.k)) (gs' _ 1 (.int .i64 cj.n))) (gs' _ 2 (.string cj.s))) (gs' _ 3 (.slice A5 cj.ns.length c5))) (gs' _ 4 (.slice A6 cj.is.length c6)))
                      have sb : ∀ (V : World) (j : Nat) (u : Value), Below X.heap.size W V → Below X.heap.size W (V.setCell ⟨g, j, none⟩ u) := fun V j u h => h.setCell h11 u
                      have hjk := fun L' (hJ' : Jw E sp tc L' (Rv.vals (#[95, 96, 97, 98, 99, 100, 101, 94, 102, 103, 11, 1011, 12] : Array Nat) a) W) => Jw.store (i := 11) (by decide) undef hgg (fun x hx => by have := HE.out x hx; have := HXS.out; omega) hJ'
                      clear q94 q94a q102 q102a ev q4 hj0 m5 m4 hL hLd
                      exact Rv.step_skip (op := Go.Op.store 26 (Go.Operand.tmp 11) (Go.Operand.tmp 102)) (ty := 0) (w1 := (((((W.setCell ⟨g, 0, none⟩ (.int .i64 cj.k)).setCell ⟨g, 1, none⟩ (.int .i64 cj.n)).setCell ⟨g, 2, none⟩ (.string cj.s)).setCell ⟨g, 3, none⟩ (.slice A5 cj.ns.length c5)).setCell ⟨g, 4, none⟩ (.slice A6 cj.is.length c6))) rfl rfl (fun d pos aft g => by unfold execOp; go_simp) ⟨undef, rfl, ⟨g, _, _, _, _, _, e11', ev2, Rv.sets5 k11 _ _ _ _ _, h11⟩, .inl ⟨rfl, trivial⟩, htr.trans (sb _ 4 (.slice A6 cj.is.length c6) (sb _ 3 (.slice A5 cj.ns.length c5) (sb _ 2 (.string cj.s) (sb _ 1 (.int .i64 cj.n) (sb _ 0 (.int .i64 cj.k) (Below.refl X.heap.size W)))))), (fun h => by cases h), fun L' _ hJ' => hjk L' hJ'⟩
                    | 12, _ =>
                      obtain ⟨u103, b103, q103a, q103⟩ : ∃ (u : Value) (b : Bool), a.tmps.getD 94 undef = .tuple #[u, .bool b] ∧ a.tmps.getD 103 undef = .bool b := hdep 9 rfl rfl
                      obtain ⟨e103, x103⟩ := Rv.ev q103
                      exact Rv.step_op (op := Go.Op.assign (Go.Operand.tmp 103)) (ty := 4) (v := .bool b103) (w1 := W) rfl rfl (fun d pos aft g => by unfold execOp; go_simp) ⟨_, rfl, q103.symm, .inr (Below.refl _ _), htr, (fun _ ht => ht), fun L _ hJ => Jw.keep (by decide) _ (Below.refl _ _) hJ⟩
                    | m + 13, h => exact absurd h (by show ¬ m + 13 < 13; omega)
                  intro W f hf htr hJ
                  have f0 : f 0 = .agg #[.int .i64 tc.k, .int .i64 tc.n, .string tc.s, .slice A1 tc.ns.length c1, .slice B1 tc.is.length d1] := hf 0 (by show 0 < 13; omega) rfl
                  have f1 : f 1 = .slice (some ⟨b8, o8, none⟩) (l.length + 1) c8 := hf 1 (by show 1 < 13; omega) rfl
                  have f2 : f 2 = .slice (some ⟨b8, o8, none⟩) (l.length + 1) c8 := hf 2 (by show 2 < 13; omega) rfl
                  have f3 : f 3 = .int .i64 ((l.length : Int) + 1) := hf 3 (by show 3 < 13; omega) rfl
                  have f4 : f 4 = .int .i64 (l.length : Int) := hf 4 (by show 4 < 13; omega) rfl
                  have f5 : f 5 = .slice AL 1 cm := hf 5 (by show 5 < 13; omega) rfl
                  have HS6 := Lib.hid (show (fun f W => ∃ (u : Value) (b : Bool), f 6 = .tuple #[u, .bool b]) f W from hf 6 (by show 6 < 13; omega) rfl)
                  have HS7 := Lib.hid (show (fun f W => ∃ (u : Value) (b : Bool), f 6 = .tuple #[u, .bool b] ∧ f 7 = f 6) f W from hf 7 (by show 7 < 13; omega) rfl)
                  have HS8 := Lib.hid (show (fun f W => ∃ (u : Value) (b : Bool), f 7 = .tuple #[u, .bool b] ∧ f 8 = u) f W from hf 8 (by show 8 < 13; omega) rfl)
                  have HS9 := Lib.hid (show (fun f W => ∃ (u : Value) (b : Bool), f 7 = .tuple #[u, .bool b] ∧ f 9 = .bool b) f W from hf 9 (by show 9 < 13; omega) rfl)
                  have HS11 := Lib.hid (show (fun f W => ∃ (g : Nat) (z0 z1 z2 z3 z4 : Value), f 10 = .pointer (some ⟨g, 0, none⟩) ∧ f 8 = .agg #[z0, z1, z2, z3, z4] ∧ W.heap[g]? = some (.cells #[z0, z1, z2, z3, z4] 26 (0, 0)) ∧ X.heap.size ≤ g) f W from hf 11 (by show 11 < 13; omega) rfl)
                  have HS12 := Lib.hid (show (fun f W => f 12 = f 9) f W from hf 12 (by show 12 < 13; omega) rfl)
                  clear hf
                  refine (show ∀ (a : Act) (w : World), Code.wp _ _ _ a w → _ from by assumption) _ _ ?_
                  refine Rv.fin_swap (L' := [(95, f 0), (96, f 1), (97, f 2), (98, f 3), (99, f 4), (100, f 5), (101, f 6), (94, f 7), (102, f 8), (103, f 9), (11, f 10), (1011, f 11), (12, f 12)]) rfl ?_
                  rw [f0, f1, f2, f3, f4, f5]
                  clear f0 f1 f2 f3 f4 f5
                  simp only [Rv.fin, List.foldl_cons, List.foldl_nil, Act.put, List.setIfInBounds_toArray, List.set_cons_succ, List.set_cons_zero, List.set_nil]
                  obtain ⟨g, z0, z1, z2, z3, z4, q10, q8, hgc, hgx⟩ := HS11.out
                  obtain ⟨u6, b6, cj, q6, hjc, hor⟩ := hJ rfl
                  obtain ⟨u7, b7, q7a, q7⟩ := HS7.out
                  obtain ⟨u8, b8', q8a, q8b⟩ := HS8.out
                  obtain ⟨u9, b9, q9a, q9⟩ := HS9.out
                  have h12 : f 12 = .bool b6 := by
                    rw [HS12.out, q9]
                    rw [q7, q6] at q9a
                    injection q9a with h; injection h with h; simp only [List.cons.injEq, Value.bool.injEq, and_true] at h
                    rw [h.2]
                  have h8 : u6 = .agg #[z0, z1, z2, z3, z4] := by
                    rw [q7, q6] at q8a
                    injection q8a with h; injection h with h; simp only [List.cons.injEq, and_true] at h
                    exact h.1.trans (q8b.symm.trans q8)
                  rw [q10, h12]
                  have HBW := Lib.hid (HB.out.trans (htr.mono HB.out.size))
                  have HG := Lib.hid ((htr.block _ hga).trans HG.out)
                  have HMs := Lib.hid (HMs.out.below htr)
                  have HO8 := Lib.hid (own_below HO8.out htr)
                  obtain ⟨A5, c5, A6, c6, ez, _⟩ := hjc.five
                  rw [h8] at ez
                  (injection ez with ez); (injection ez with ez); simp only [List.cons.injEq, and_true] at ez
                  obtain ⟨rfl, rfl, rfl, rfl, rfl⟩ := ez
                  rw [h8] at hjc
                  have HJJ := Lib.hid hjc
                  have HGC := Lib.hid hgc
                  have HOR := Lib.hid hor
                  clear hJ q10 q8 q6 hjc hor q7a q7 q8a q8b q9a q9 h12 h8 htr HS6 HS7 HS8 HS9 HS11 HS12 hgc GT HTL HJC HB
                  generalize f 6 = f6
                  generalize f 7 = f7
                  generalize f 8 = f8
                  generalize f 9 = f9
                  obtain ⟨q0, q1, q2, q3, q4⟩ := Rv.cells5 HGC.out
                  obtain ⟨y0, y1, y2, y3, y4⟩ := Rv.cells5 HG.out
                  obtain ⟨p0, p1, p2, p3, p4⟩ := Rv.frozen5 HG.out
                  have hst : ∀ s ∈ l ++ [sp], Stp s := fun s hs => by
                    rcases List.mem_append.1 hs with h | h
                    · exact HS.out s h
                    · rw [List.mem_singleton.1 h]; exact HSTP.out
                  have HST := Lib.hid hst
                  have hla : (l ++ [sp]).length = l.length + 1 := by simp
                  have hsa : stc l ++ (#[.string sp.x, .int .i64 (sp.i : Int), .bool sp.b] : Array Value).toList = stc (l ++ [sp]) := by
                    show stc l ++ stv sp = stc (l ++ [sp])
                    unfold stc
                    rw [List.flatMap_append]
                    simp
                  rw [hsa] at HO8
                  clear hst hsa
                  cases b6
                  · rcases HOR.out with ⟨h, _⟩ | ⟨_, hgn⟩
                    · cases h
                    · have hf1 : fI tc sp = -1 := by
                        rcases fI_cases HWC.out sp with h | ⟨k, hk1, hk2⟩
                        · exact h
                        · rw [getJ_at _ _ _ k hk1 hk2] at hgn
                          cases hgn
                      have HWY := Lib.hid (HP.out _ (.last tc sp hf1 HSK.out))
                      clear HOR hgn hf1
                      go_wp2
                      refine bodyPost_ret (v := .tuple #[.slice (some ⟨b8, o8, none⟩) (l.length + 1) c8, .bool true]) ?_ rfl (.inl ⟨some ⟨b8, o8, none⟩, c8, l ++ [sp], by rw [hla], HWY.out, HST.out, by rw [hla]; omega, by rw [hla]; exact Rd.of_own HO8.out, HBW.out⟩)
                      simp only [results, show Tryz.f7.results = #[.tmp 4, .tmp 5] by kernel_rfl]
                      go_simp
                  · rcases HOR.out with ⟨_, hgs, hwc⟩ | ⟨h, _⟩
                    · have hex : ∃ k, ∃ (hk : k < tc.is.length), fI tc sp = (k : Int) ∧ tc.is[k] = cj := by
                        rcases fI_cases HWC.out sp with h | ⟨k, hk1, hk2⟩
                        · rw [getJ_no _ _ _ h] at hgs
                          cases hgs
                        · rw [getJ_at _ _ _ k hk1 hk2] at hgs
                          injection hgs with hgs
                          exact ⟨k, hk2, hk1, hgs⟩
                      obtain ⟨k, hk2, hk1, hck⟩ := hex
                      have HPN := Lib.hid (show Pre t (l ++ [sp]) cj from hck ▸ HP.out.step sp k hk1 hk2)
                      have HWN := Lib.hid hwc
                      clear HOR hgs hwc hk1 hck hk2
                      go_wp2
                      have sb : ∀ (V : World) (j : Nat) (u : Value), Below w.heap.size w V → Below w.heap.size w (V.setCell ⟨w.heap.size, j, none⟩ u) := fun V j u h => h.setCell (Nat.le_refl _) u
                      have gs := fun (V : World) j u => grown_set (Below.refl _ V) w.heap.size j u
                      have HBF := Lib.hid (sb _ 4 (.slice A6 cj.is.length c6) (sb _ 3 (.slice A5 cj.ns.length c5) (sb _ 2 (.string cj.s) (sb _ 1 (.int .i64 cj.n) (sb _ 0 (.int .i64 cj.k) HBW.out)))))
                      have hgg := (grown_then (grown_then (grown_then (grown_then (gs W 0 (.int .i64 cj.k)) (gs _ 1 (.int .i64 cj.n))) (gs _ 2 (.string cj.s))) (gs _ 3 (.slice A5 cj.ns.length c5))) (gs _ 4 (.slice A6 cj.is.length c6)))
                      have HJF := Lib.hid (HJJ.out.grown hgg (fun x hx e => by have := HE.out x hx; injection e with e; omega))
                      have HGF := Lib.hid (Rv.sets5 HG.out (.int .i64 cj.k) (.int .i64 cj.n) (.string cj.s) (.slice A5 cj.ns.length c5) (.slice A6 cj.is.length c6))
                      have HMF := Lib.hid (HMs.out.grown hgg (fun k hk => by injection hk with hk; omega))
                      have HOF := Lib.hid (own_kept HO8.out hgg (fun k hk e => by have := (HO8.out.lt k hk).1; injection e with e; omega))
                      clear sb gs hgg q0 q1 q2 q3 q4 y0 y1 y2 y3 y4 p0 p1 p2 p3 p4
                      go_roundg (gk - 1)
                      case rel => exact ⟨n - 1, l ++ [sp], cj, A5, c5, A6, c6, some ⟨b8, o8, none⟩, c8, by first | rw [hla] | simp, by go_num, by omega, by rw [hla]; omega, HPN, HST, HWN, HJF, HGF, by rw [hla]; exact HOF, HMF, HBF⟩
                      case measure => omega
                    · cases h
                · have hk4 : (tc.k != 4) = true := by simp [h4]
                  clear h4 hp cA cB
                  obtain ⟨y0, y1, y2, y3, y4⟩ := Rv.cells5 HG.out
                  go_wp2
                  refine bodyPost_ret (v := .tuple #[.slice none 0 0, .bool false]) ?_ rfl (.inr ⟨rfl, HB.out⟩)
                  simp only [results, show Tryz.f7.results = #[.tmp 4, .tmp 5] by kernel_rfl]
                  go_simp
              · have hpb : (y % 2 == 0) = false := by simp [hp]
                rw [hpb] at HC q2
                clear hp cA cB
                obtain ⟨y0, y1, y2, y3, y4⟩ := Rv.cells5 HG.out
                go_upto_region 14 with fail
                clear q0 q1 q2 y0 y1 y2 y3 y4 HC0 hpb
                generalize (⟨#[110]⟩ : ByteArray) ++ sw = nm at *
                obtain ⟨sp, e1, e2, e3⟩ : ∃ sp : Sp, nm = sp.x ∧ (y / 2 % 6) = (sp.i : Int) ∧ false = sp.b := ⟨⟨nm, (y / 2 % 6).toNat, false⟩, rfl, by first | rfl | (simp; omega) | omega, rfl⟩
                have HSTP : Hid (Stp sp) := Lib.hid (by obtain ⟨x, i, b⟩ := sp; (try simp only at e1 e2 e3); subst e1; subst e3; exact ⟨by have := HY6.out; show i ≤ 9; omega, HSW7.out.1, fun _ => HSW7.out.2⟩)
                have HSK : Hid (sp.b = true → tc.k = 4) := Lib.hid (by rw [← e3]; exact (fun h => by cases h))
                rw [e1, e2, e3] at HC
                clear e1 e2 e3
                obtain ⟨q0, q1, q2⟩ := Rv.cells3 HC.out
                go_upto_region 15 with (at_builtin; refine app1 (w0 := Y) (w.heap.size + 2) rfl (.tmp 90) (.tmp 92) 28 51 (.agg #[.string ⟨#[]⟩, .int .i64 0, .bool false]) 3 32 rfl Tryz.underlying28 info51 rfl (by omega) (by omega) _ _ _ _ rfl rfl rfl (by intro x hx; simp only [List.mem_cons, List.not_mem_nil, or_false] at hx; rcases hx with rfl | rfl | rfl <;> rfl) HO.out (Below.refl _ _) HSZ.out (by omega) ?_; intro v8 w8 hown hb8 hg8 hat8; obtain ⟨A8, c8, hv8, hle8, hcm8⟩ := (Rd.of_own hown).shape; subst hv8; have HO8 := Lib.hid hown; have HG8 := Lib.hid hg8; clear hown hb8 hat8 hg8)
                have hown8 : ∀ k, (Value.slice A9 l.length c9).ownBlock = some k → w.heap.size + 2 ≤ k := fun k hk => (HO.out.lt k hk).1
                have HMs := Lib.hid (HMs.out.grown HG8.out (fun k hk => by have := hown8 k hk; omega))
                have HG := Lib.hid (blk_grown HG.out HG8.out (fun e => by have := hown8 _ e.symm; omega))
                have HJC := Lib.hid (HJC.out.grown HG8.out (fun x hx e => by have := hown8 _ e.symm; have := HE.out x hx; omega))
                have HB := Lib.hid (HB.out.grown HG8.out HB.out.size (fun k hk => by have := hown8 k hk; omega))
                have HXS := Lib.hid (Nat.le_trans HSZ.out HG8.out.size)
                obtain ⟨b8, o8, hA8⟩ : ∃ b o, A8 = some ⟨b, o, none⟩ := by
                  obtain ⟨b, o, c', hv, _⟩ := (Rd.of_own HO8.out).open (by omega)
                  injection hv with e
                  exact ⟨b, o, e⟩
                subst hA8
                obtain ⟨AL, htl, hrt⟩ := tail_ofS (P := Tryz.prog) 28 51 3 Tryz.underlying28 (fun W => by kernel_rfl) b8 o8 (l.length + 1) c8 l.length (by omega) hle8
                have hst3 : (stc l).length = l.length * 3 := stc_len l
                have hrt1 : Rd w8 3 (.slice AL 1 (c8 - l.length)) 1 (stc [sp]) := by
                  have h := hrt w8 _ (Rd.of_own HO8.out)
                  rw [show l.length + 1 - l.length = 1 by omega, ← hst3, List.drop_left] at h
                  exact h
                rw [show l.length + 1 - l.length = 1 by omega] at htl
                have HTL := Lib.hid htl
                have HL5 := Lib.hid (show l.length ≤ 4 by omega)
                have GT := Lib.hid (fun (W : World) (hb : Below w8.heap.size w8 W) => get_any E tc (.agg #[.int .i64 tc.k, .int .i64 tc.n, .string tc.s, .slice A1 tc.ns.length c1, .slice B1 tc.is.length d1]) AL (c8 - l.length) [sp] W (fun x hx => by have := HE.out x hx; have := HXS.out; have := hb.size; omega) (HJC.out.below hb) HWC.out (hrt1.below hb) (by simp))
                clear hrt hrt1 htl q0 q1 q2 HC HSZ hown8 HG8 hst3 hle8 hcm8
                have ec8 : ∃ cm, cm = c8 - l.length := ⟨_, rfl⟩
                obtain ⟨cm, ec8⟩ := ec8
                rw [← ec8] at HTL GT
                clear ec8
                generalize w8 = X at *
                have hga := Rv.lt_of_blk HG.out
                refine Rv.region_fin (n := 109) (by kernel_rfl) #[95, 96, 97, 98, 99, 100, 101, 94, 102, 103, 11, 1011, 12] #[] (fun i f W => if i = 12 then (fun f W => f 12 = f 9) f W else if i = 11 then (fun f W => ∃ (g : Nat) (z0 z1 z2 z3 z4 : Value), f 10 = .pointer (some ⟨g, 0, none⟩) ∧ f 8 = .agg #[z0, z1, z2, z3, z4] ∧ W.heap[g]? = some (.cells #[z0, z1, z2, z3, z4] 26 (0, 0)) ∧ X.heap.size ≤ g) f W else if i = 10 then (fun f W => ∃ (g : Nat), f 10 = .pointer (some ⟨g, 0, none⟩) ∧ W.heap[g]? = some (.cells #[.int .i64 0, .int .i64 0, .string ⟨#[]⟩, .slice none 0 0, .slice none 0 0] 26 (0, 0)) ∧ X.heap.size ≤ g) f W else if i = 9 then (fun f W => ∃ (u : Value) (b : Bool), f 7 = .tuple #[u, .bool b] ∧ f 9 = .bool b) f W else if i = 8 then (fun f W => ∃ (u : Value) (b : Bool), f 7 = .tuple #[u, .bool b] ∧ f 8 = u) f W else if i = 7 then (fun f W => ∃ (u : Value) (b : Bool), f 6 = .tuple #[u, .bool b] ∧ f 7 = f 6) f W else if i = 6 then (fun f W => ∃ (u : Value) (b : Bool), f 6 = .tuple #[u, .bool b]) f W else f i = (#[.agg #[.int .i64 tc.k, .int .i64 tc.n, .string tc.s, .slice A1 tc.ns.length c1, .slice B1 tc.is.length d1], .slice (some ⟨b8, o8, none⟩) (l.length + 1) c8, .slice (some ⟨b8, o8, none⟩) (l.length + 1) c8, .int .i64 ((l.length : Int) + 1), .int .i64 (l.length : Int), .slice AL 1 cm, undef, undef, undef, undef, undef, undef, undef] : Array Value).getD i undef) (fun i j => (i == 11 && (j == 10))) (fun i => i == 11) (fun i f W W' => True) (fun W => Below X.heap.size X W) (fun _ => True) (Jw E sp tc) (Jw.loc (by show 6 < 13; omega)) (fun i f f' w hi h hd hg => ?_) (fun i j f w w' hi hj hij hK hdp h hr => ?_) (fun i h g b hg => ?_) rfl (by kernel_rfl) (fun i h g b hg => ?_) ((Below.refl _ _).drew) (trivial) (fun f h => (by cases h)) (fun i h hr f w hf => ?_) (fun i h hr => absurd hr (Rv.allrun (by kernel_rfl) i h)) ?_ ?_
                · by_cases hi12 : i = 12
                  · subst hi12
                    rw [if_pos rfl] at hg ⊢
                    exact h.symm.trans (hg.trans (hd 9 rfl))
                  rw [if_neg hi12] at hg ⊢
                  by_cases hi1011 : i = 11
                  · subst hi1011
                    rw [if_pos rfl] at hg ⊢
                    obtain ⟨g, z0, z1, z2, z3, z4, q1, q2, q3⟩ := hg
                    exact ⟨g, z0, z1, z2, z3, z4, (hd 10 rfl).symm.trans q1, (hd 8 rfl).symm.trans q2, q3⟩
                  rw [if_neg hi1011] at hg ⊢
                  by_cases hi11 : i = 10
                  · subst hi11
                    rw [if_pos rfl] at hg ⊢
                    obtain ⟨g, q1, q2⟩ := hg
                    exact ⟨g, h.symm.trans q1, q2⟩
                  rw [if_neg hi11] at hg ⊢
                  by_cases hi103 : i = 9
                  · subst hi103
                    rw [if_pos rfl] at hg ⊢
                    obtain ⟨u, b, q1, q2⟩ := hg
                    exact ⟨u, b, (hd 7 rfl).symm.trans q1, h.symm.trans q2⟩
                  rw [if_neg hi103] at hg ⊢
                  by_cases hi102 : i = 8
                  · subst hi102
                    rw [if_pos rfl] at hg ⊢
                    obtain ⟨u, b, q1, q2⟩ := hg
                    exact ⟨u, b, (hd 7 rfl).symm.trans q1, h.symm.trans q2⟩
                  rw [if_neg hi102] at hg ⊢
                  by_cases hi94 : i = 7
                  · subst hi94
                    rw [if_pos rfl] at hg ⊢
                    obtain ⟨u, b, q1, q2⟩ := hg
                    exact ⟨u, b, (hd 6 rfl).symm.trans q1, h.symm.trans (q2.trans (hd 6 rfl))⟩
                  rw [if_neg hi94] at hg ⊢
                  by_cases hi101 : i = 6
                  · subst hi101
                    rw [if_pos rfl] at hg ⊢
                    obtain ⟨u, b, q⟩ := hg
                    exact ⟨u, b, h.symm.trans q⟩
                  rw [if_neg hi101] at hg ⊢
                  rw [← h]; exact hg
                · by_cases hj12 : j = 12
                  · subst hj12
                    rw [if_pos rfl] at h ⊢
                    exact h
                  rw [if_neg hj12] at h ⊢
                  by_cases hj1011 : j = 11
                  · subst hj1011
                    rw [if_pos rfl] at h ⊢
                    rcases hr with ⟨hK1, hr⟩ | hr
                    · have e : i = 11 := by simpa using hK1
                      exact absurd e hij
                    · obtain ⟨g, z0, z1, z2, z3, z4, e, e2, h1, h2⟩ := h
                      exact ⟨g, z0, z1, z2, z3, z4, e, e2, (hr.block _ (Rv.lt_of_blk h1)).trans h1, h2⟩
                  rw [if_neg hj1011] at h ⊢
                  by_cases hj11 : j = 10
                  · subst hj11
                    rw [if_pos rfl] at h ⊢
                    rcases hr with ⟨hK1, hr⟩ | hr
                    · have e : i = 11 := by simpa using hK1
                      subst e; exfalso; revert hK; decide
                    · obtain ⟨g, e, h1, h2⟩ := h
                      exact ⟨g, e, (hr.block _ (Rv.lt_of_blk h1)).trans h1, h2⟩
                  rw [if_neg hj11] at h ⊢
                  by_cases hj103 : j = 9
                  · subst hj103
                    rw [if_pos rfl] at h ⊢
                    exact h
                  rw [if_neg hj103] at h ⊢
                  by_cases hj102 : j = 8
                  · subst hj102
                    rw [if_pos rfl] at h ⊢
                    exact h
                  rw [if_neg hj102] at h ⊢
                  by_cases hj94 : j = 7
                  · subst hj94
                    rw [if_pos rfl] at h ⊢
                    exact h
                  rw [if_neg hj94] at h ⊢
                  by_cases hj101 : j = 6
                  · subst hj101
                    rw [if_pos rfl] at h ⊢
                    exact h
                  rw [if_neg hj101] at h ⊢
                  exact h
                · match i, h, hg with
                  | 0, _, hg => cases hg
                  | 1, _, hg => cases hg
                  | 2, _, hg => cases hg
                  | 3, _, hg => cases hg
                  | 4, _, hg => cases hg
                  | 5, _, hg => cases hg
                  | 6, _, hg => cases hg
                  | 7, _, hg => cases hg
                  | 8, _, hg => cases hg
                  | 9, _, hg => cases hg
                  | 10, _, hg => cases hg
                  | 11, _, hg => cases hg
                  | 12, _, hg => cases hg
                  | m + 13, h, _ => exact absurd h (by show ¬ m + 13 < 13; omega)
                · match i, h, hg with
                  | 0, _, hg => cases hg
                  | 1, _, hg => cases hg
                  | 2, _, hg => cases hg
                  | 3, _, hg => cases hg
                  | 4, _, hg => cases hg
                  | 5, _, hg => cases hg
                  | 6, _, hg => cases hg
                  | 7, _, hg => cases hg
                  | 8, _, hg => cases hg
                  | 9, _, hg => cases hg
                  | 10, _, hg => cases hg
                  | 11, _, hg => cases hg
                  | 12, _, hg => cases hg
                  | m + 13, h, _ => exact absurd h (by show ¬ m + 13 < 13; omega)
                · match i, h, hr, hf with
                  | 0, _, hr, _ => exact Bool.noConfusion (show true = false from hr)
                  | 1, _, hr, _ => exact Bool.noConfusion (show true = false from hr)
                  | 2, _, hr, _ => exact Bool.noConfusion (show true = false from hr)
                  | 3, _, hr, _ => exact Bool.noConfusion (show true = false from hr)
                  | 4, _, hr, _ => exact Bool.noConfusion (show true = false from hr)
                  | 5, _, hr, _ => exact Bool.noConfusion (show true = false from hr)
                  | 6, _, hr, _ => exact Bool.noConfusion (show true = false from hr)
                  | 7, _, hr, _ => exact Bool.noConfusion (show true = false from hr)
                  | 8, _, hr, _ => exact Bool.noConfusion (show true = false from hr)
                  | 9, _, hr, _ => exact Bool.noConfusion (show true = false from hr)
                  | 10, _, hr, _ => exact Bool.noConfusion (show true = false from hr)
                  | 11, _, hr, _ => exact Bool.noConfusion (show true = false from hr)
                  | 12, _, hr, _ => exact Bool.noConfusion (show true = false from hr)
                  | m + 13, h, _, _ => exact absurd h (by show ¬ m + 13 < 13; omega)
                · intro i h a W hrun hbase hpre hdep htr hta hJ
                  match i, h with
                  | 0, _ =>
                    obtain ⟨e2, x2⟩ := Rv.ev (show a.tmps.getD 2 undef = .pointer (some ⟨w.heap.size, 0, none⟩) from hbase 2 rfl)
                    obtain ⟨y0, y1, y2, y3, y4⟩ := Rv.cells5 ((htr.block _ hga).trans HG.out)
                    exact Rv.step_op (op := Go.Op.load 26 (Go.Operand.tmp 2)) (v := .agg #[.int .i64 tc.k, .int .i64 tc.n, .string tc.s, .slice A1 tc.ns.length c1, .slice B1 tc.is.length d1]) (w1 := W) rfl rfl (fun d pos aft g => by unfold execOp; go_simp) ⟨_, rfl, rfl, .inr (Below.refl _ _), htr, fun _ ht => ht, fun L _ hJ => Jw.keep (by decide) _ (Below.refl _ _) hJ⟩
                  | 1, _ =>
                    obtain ⟨e7, x7⟩ := Rv.ev (show a.tmps.getD 7 undef = .slice (some ⟨b8, o8, none⟩) (l.length + 1) c8 from hbase 7 rfl)
                    exact Rv.step_op (op := Go.Op.move (Go.Operand.tmp 7)) (v := .slice (some ⟨b8, o8, none⟩) (l.length + 1) c8) (w1 := W) rfl rfl (fun d pos aft g => by unfold execOp; go_simp) ⟨_, rfl, rfl, .inr (Below.refl _ _), htr, fun _ ht => ht, fun L _ hJ => Jw.keep (by decide) _ (Below.refl _ _) hJ⟩
                  | 2, _ =>
                    obtain ⟨e7, x7⟩ := Rv.ev (show a.tmps.getD 7 undef = .slice (some ⟨b8, o8, none⟩) (l.length + 1) c8 from hbase 7 rfl)
                    exact Rv.step_op (op := Go.Op.move (Go.Operand.tmp 7)) (v := .slice (some ⟨b8, o8, none⟩) (l.length + 1) c8) (w1 := W) rfl rfl (fun d pos aft g => by unfold execOp; go_simp) ⟨_, rfl, rfl, .inr (Below.refl _ _), htr, fun _ ht => ht, fun L _ hJ => Jw.keep (by decide) _ (Below.refl _ _) hJ⟩
                  | 3, _ =>
                    obtain ⟨e97, x97⟩ := Rv.ev (show a.tmps.getD 97 undef = .slice (some ⟨b8, o8, none⟩) (l.length + 1) c8 from hdep 2 rfl rfl)
                    exact Rv.step_op (op := Go.Op.call { callee := Go.Callee.builtin Go.Builtin.len, args := #[Go.Operand.tmp 97], argTypes := #[28] }) (v := .int .i64 ((l.length : Int) + 1)) (w1 := W) rfl rfl (fun d pos aft g => by unfold execOp; go_simp) ⟨_, rfl, rfl, .inr (Below.refl _ _), htr, fun _ ht => ht, fun L _ hJ => Jw.keep (by decide) _ (Below.refl _ _) hJ⟩
                  | 4, _ =>
                    obtain ⟨e98, x98⟩ := Rv.ev (show a.tmps.getD 98 undef = .int .i64 ((l.length : Int) + 1) from hdep 3 rfl rfl)
                    have hl5 := HL5.out
                    have hw9 : IntKind.i64.wrap (l.length : Int) = (l.length : Int) := IntWalk.i64_in _ (by omega)
                    exact Rv.step_op (op := Go.Op.binOp Go.BinOp.sub 3 (Go.Operand.tmp 98) (Go.Operand.const (Go.Value.int Go.IntKind.i64 1)) 3) (v := .int .i64 (l.length : Int)) (w1 := W) rfl rfl (fun d pos aft g => by unfold execOp; go_simp) ⟨_, rfl, rfl, .inr (Below.refl _ _), htr, fun _ ht => ht, fun L _ hJ => Jw.keep (by decide) _ (Below.refl _ _) hJ⟩
                  | 5, _ =>
                    obtain ⟨e96, x96⟩ := Rv.ev (show a.tmps.getD 96 undef = .slice (some ⟨b8, o8, none⟩) (l.length + 1) c8 from hdep 1 rfl rfl)
                    obtain ⟨e99, x99⟩ := Rv.ev (show a.tmps.getD 99 undef = .int .i64 (l.length : Int) from hdep 4 rfl rfl)
                    have htl := HTL.out W
                    exact Rv.step_op (op := Go.Op.slice 28 (Go.Operand.tmp 96) (some (Go.Operand.tmp 99)) none none) (v := .slice AL 1 cm) (w1 := W) rfl rfl (fun d pos aft g => by unfold execOp; go_simp) ⟨_, rfl, rfl, .inr (Below.refl _ _), htr, fun _ ht => ht, fun L _ hJ => Jw.keep (by decide) _ (Below.refl _ _) hJ⟩
                  | 6, _ =>
                    obtain ⟨e95, x95⟩ := Rv.ev (show a.tmps.getD 95 undef = .agg #[.int .i64 tc.k, .int .i64 tc.n, .string tc.s, .slice A1 tc.ns.length c1, .slice B1 tc.is.length d1] from hdep 0 rfl rfl)
                    obtain ⟨e100, x100⟩ := Rv.ev (show a.tmps.getD 100 undef = .slice AL 1 cm from hdep 5 rfl rfl)
                    have cf : ∀ x0 x1 W, (callFunc 17 #[x0, x1]).run Tryz.prog W = .ok (.enter 17 #[x0, x1]) W := fun _ _ _ => by kernel_rfl
                    refine Rv.step_fn (op := Go.Op.call { callee := Go.Callee.value (Go.Operand.func 17), args := #[Go.Operand.tmp 95, Go.Operand.tmp 100], argTypes := #[26, 28] }) (ty := 39) (f := 17) (args := #[.agg #[.int .i64 tc.k, .int .i64 tc.n, .string tc.s, .slice A1 tc.ns.length c1, .slice B1 tc.is.length d1], .slice AL 1 cm]) (R := fun v W' => (∃ (u : Value) (b : Bool) (c : J), v = .tuple #[u, .bool b] ∧ JN E W' c u ∧ ((b = true ∧ getJ [sp] tc = some c ∧ Wf c) ∨ (b = false ∧ getJ [sp] tc = none))) ∧ Below W.heap.size W W') rfl rfl (fun d pos aft g => by unfold execOp; go_simp) ((GT.out W htr).mono ?_) ?_
                    · (rintro e W' (⟨u, c, rfl, h1, h2, h3, hb⟩ | ⟨u, c, rfl, h1, h3, hb⟩); exact ⟨_, rfl, ⟨u, true, c, rfl, h3, .inl ⟨rfl, h1, h2⟩⟩, hb⟩; exact ⟨_, rfl, ⟨u, false, c, rfl, h3, .inr ⟨rfl, h1⟩⟩, hb⟩)
                    · (rintro v W' ⟨⟨u, b, c, rfl, h1, h2⟩, hb⟩; exact ⟨_, rfl, ⟨u, b, rfl⟩, .inr hb, htr.trans (hb.mono htr.size), fun _ ht => trivial, fun L _ hJ => Jw.call h1 h2⟩)
                  | 7, _ =>
                    obtain ⟨u101, b101, q101⟩ : ∃ (u : Value) (b : Bool), a.tmps.getD 101 undef = .tuple #[u, .bool b] := hdep 6 rfl rfl
                    obtain ⟨e101, x101⟩ := Rv.ev q101
                    exact Rv.step_op (op := Go.Op.move (Go.Operand.tmp 101)) (ty := 39) (v := .tuple #[u101, .bool b101]) (w1 := W) rfl rfl (fun d pos aft g => by unfold execOp; go_simp) ⟨_, rfl, ⟨u101, b101, q101, q101.symm⟩, .inr (Below.refl _ _), htr, (fun _ ht => ht), fun L _ hJ => Jw.keep (by decide) _ (Below.refl _ _) hJ⟩
                  | 8, _ =>
                    obtain ⟨u94, b94, q94a, q94⟩ : ∃ (u : Value) (b : Bool), a.tmps.getD 101 undef = .tuple #[u, .bool b] ∧ a.tmps.getD 94 undef = a.tmps.getD 101 undef := hdep 7 rfl rfl
                    obtain ⟨e94, x94⟩ := Rv.ev (q94.trans q94a)
                    exact Rv.step_op (op := Go.Op.extract (Go.Operand.tmp 94) 0) (ty := 26) (v := u94) (w1 := W) rfl rfl (fun d pos aft g => by unfold execOp; go_simp) ⟨_, rfl, ⟨u94, b94, q94.trans q94a, rfl⟩, .inr (Below.refl _ _), htr, (fun _ ht => ht), fun L _ hJ => Jw.keep (by decide) _ (Below.refl _ _) hJ⟩
                  | 9, _ =>
                    obtain ⟨u94, b94, q94a, q94⟩ : ∃ (u : Value) (b : Bool), a.tmps.getD 101 undef = .tuple #[u, .bool b] ∧ a.tmps.getD 94 undef = a.tmps.getD 101 undef := hdep 7 rfl rfl
                    obtain ⟨e94, x94⟩ := Rv.ev (q94.trans q94a)
                    exact Rv.step_op (op := Go.Op.extract (Go.Operand.tmp 94) 1) (ty := 4) (v := .bool b94) (w1 := W) rfl rfl (fun d pos aft g => by unfold execOp; go_simp) ⟨_, rfl, ⟨u94, b94, q94.trans q94a, rfl⟩, .inr (Below.refl _ _), htr, (fun _ ht => ht), fun L _ hJ => Jw.keep (by decide) _ (Below.refl _ _) hJ⟩
                  | 10, _ =>
                    have hal : Below W.heap.size W (W.alloc (.cells #[.int .i64 0, .int .i64 0, .string ⟨#[]⟩, .slice none 0 0, .slice none 0 0] 26)) := (Below.refl _ _).alloc (Nat.le_refl _) _
                    exact Rv.step_op (op := Go.Op.alloc 26) (ty := 0) (v := .pointer (some ⟨W.heap.size, 0, none⟩)) (w1 := W.alloc (.cells #[.int .i64 0, .int .i64 0, .string ⟨#[]⟩, .slice none 0 0, .slice none 0 0] 26)) rfl rfl (fun d pos aft g => by unfold execOp; go_simp) ⟨_, rfl, ⟨W.heap.size, rfl, heap_alloc_new W _, htr.size⟩, .inr hal, htr.trans (hal.mono htr.size), (fun _ ht => ht), fun L _ hJ => Jw.keep (by decide) _ hal hJ⟩
                  | 11, _ =>
                    obtain ⟨g, e11', k11, h11⟩ : ∃ (g : Nat), a.tmps.getD 11 undef = .pointer (some ⟨g, 0, none⟩) ∧ W.heap[g]? = some (.cells #[.int .i64 0, .int .i64 0, .string ⟨#[]⟩, .slice none 0 0, .slice none 0 0] 26 (0, 0)) ∧ X.heap.size ≤ g := hdep 10 rfl rfl
                    obtain ⟨e11, x11⟩ := Rv.ev e11'
                    obtain ⟨u102, b102, q102a, q102⟩ : ∃ (u : Value) (b : Bool), a.tmps.getD 94 undef = .tuple #[u, .bool b] ∧ a.tmps.getD 102 undef = u := hdep 8 rfl rfl
                    obtain ⟨u94, b94, q94a, q94⟩ : ∃ (u : Value) (b : Bool), a.tmps.getD 101 undef = .tuple #[u, .bool b] ∧ a.tmps.getD 94 undef = a.tmps.getD 101 undef := hdep 7 rfl rfl
                    obtain ⟨L, hL, hLd, hj0⟩ := hJ
                    obtain ⟨u4, b4, cj, q4, m4, m5⟩ := hj0 (hLd 6 rfl)
                    have q4 : a.tmps.getD 101 undef = .tuple #[u4, .bool b4] := q4
                    have ev : u4 = a.tmps.getD 102 undef := by rw [q94, q4] at q102a; injection q102a with q; injection q with q; simp only [List.cons.injEq] at q; exact q.1.trans q102.symm
                    obtain ⟨A5, c5, A6, c6, ez, _⟩ := m4.five
                    subst ez
                    have ev2 := ev.symm
                    obtain ⟨e102, x102⟩ := Rv.ev ev2
                    obtain ⟨s0, s1, s2, s3, s4⟩ := Rv.cells5 k11
                    obtain ⟨z0, z1, z2, z3, z4⟩ := Rv.frozen5 k11
                    have gs' := fun (V : World) j u => grown_set (Below.refl _ V) g j u
                    have hgg := (grown_then (grown_then (grown_then (grown_then (gs' W 0 (.int .i64 cj.k)) (gs' _ 1 (.int .i64 cj.n))) (gs' _ 2 (.string cj.s))) (gs' _ 3 (.slice A5 cj.ns.length c5))) (gs' _ 4 (.slice A6 cj.is.length c6)))
                    have sb : ∀ (V : World) (j : Nat) (u : Value), Below X.heap.size W V → Below X.heap.size W (V.setCell ⟨g, j, none⟩ u) := fun V j u h => h.setCell h11 u
                    have hjk := fun L' (hJ' : Jw E sp tc L' (Rv.vals (#[95, 96, 97, 98, 99, 100, 101, 94, 102, 103, 11, 1011, 12] : Array Nat) a) W) => Jw.store (i := 11) (by decide) undef hgg (fun x hx => by have := HE.out x hx; have := HXS.out; omega) hJ'
                    clear q94 q94a q102 q102a ev q4 hj0 m5 m4 hL hLd
                    exact Rv.step_skip (op := Go.Op.store 26 (Go.Operand.tmp 11) (Go.Operand.tmp 102)) (ty := 0) (w1 := (((((W.setCell ⟨g, 0, none⟩ (.int .i64 cj.k)).setCell ⟨g, 1, none⟩ (.int .i64 cj.n)).setCell ⟨g, 2, none⟩ (.string cj.s)).setCell ⟨g, 3, none⟩ (.slice A5 cj.ns.length c5)).setCell ⟨g, 4, none⟩ (.slice A6 cj.is.length c6))) rfl rfl (fun d pos aft g => by unfold execOp; go_simp) ⟨undef, rfl, ⟨g, _, _, _, _, _, e11', ev2, Rv.sets5 k11 _ _ _ _ _, h11⟩, .inl ⟨rfl, trivial⟩, htr.trans (sb _ 4 (.slice A6 cj.is.length c6) (sb _ 3 (.slice A5 cj.ns.length c5) (sb _ 2 (.string cj.s) (sb _ 1 (.int .i64 cj.n) (sb _ 0 (.int .i64 cj.k) (Below.refl X.heap.size W)))))), (fun h => by cases h), fun L' _ hJ' => hjk L' hJ'⟩
                  | 12, _ =>
                    obtain ⟨u103, b103, q103a, q103⟩ : ∃ (u : Value) (b : Bool), a.tmps.getD 94 undef = .tuple #[u, .bool b] ∧ a.tmps.getD 103 undef = .bool b := hdep 9 rfl rfl
                    obtain ⟨e103, x103⟩ := Rv.ev q103
                    exact Rv.step_op (op := Go.Op.assign (Go.Operand.tmp 103)) (ty := 4) (v := .bool b103) (w1 := W) rfl rfl (fun d pos aft g => by unfold execOp; go_simp) ⟨_, rfl, q103.symm, .inr (Below.refl _ _), htr, (fun _ ht => ht), fun L _ hJ => Jw.keep (by decide) _ (Below.refl _ _) hJ⟩
                  | m + 13, h => exact absurd h (by show ¬ m + 13 < 13; omega)
                intro W f hf htr hJ
                have f0 : f 0 = .agg #[.int .i64 tc.k, .int .i64 tc.n, .string tc.s, .slice A1 tc.ns.length c1, .slice B1 tc.is.length d1] := hf 0 (by show 0 < 13; omega) rfl
                have f1 : f 1 = .slice (some ⟨b8, o8, none⟩) (l.length + 1) c8 := hf 1 (by show 1 < 13; omega) rfl
                have f2 : f 2 = .slice (some ⟨b8, o8, none⟩) (l.length + 1) c8 := hf 2 (by show 2 < 13; omega) rfl
                have f3 : f 3 = .int .i64 ((l.length : Int) + 1) := hf 3 (by show 3 < 13; omega) rfl
                have f4 : f 4 = .int .i64 (l.length : Int) := hf 4 (by show 4 < 13; omega) rfl
                have f5 : f 5 = .slice AL 1 cm := hf 5 (by show 5 < 13; omega) rfl
                have HS6 := Lib.hid (show (fun f W => ∃ (u : Value) (b : Bool), f 6 = .tuple #[u, .bool b]) f W from hf 6 (by show 6 < 13; omega) rfl)
                have HS7 := Lib.hid (show (fun f W => ∃ (u : Value) (b : Bool), f 6 = .tuple #[u, .bool b] ∧ f 7 = f 6) f W from hf 7 (by show 7 < 13; omega) rfl)
                have HS8 := Lib.hid (show (fun f W => ∃ (u : Value) (b : Bool), f 7 = .tuple #[u, .bool b] ∧ f 8 = u) f W from hf 8 (by show 8 < 13; omega) rfl)
                have HS9 := Lib.hid (show (fun f W => ∃ (u : Value) (b : Bool), f 7 = .tuple #[u, .bool b] ∧ f 9 = .bool b) f W from hf 9 (by show 9 < 13; omega) rfl)
                have HS11 := Lib.hid (show (fun f W => ∃ (g : Nat) (z0 z1 z2 z3 z4 : Value), f 10 = .pointer (some ⟨g, 0, none⟩) ∧ f 8 = .agg #[z0, z1, z2, z3, z4] ∧ W.heap[g]? = some (.cells #[z0, z1, z2, z3, z4] 26 (0, 0)) ∧ X.heap.size ≤ g) f W from hf 11 (by show 11 < 13; omega) rfl)
                have HS12 := Lib.hid (show (fun f W => f 12 = f 9) f W from hf 12 (by show 12 < 13; omega) rfl)
                clear hf
                refine (show ∀ (a : Act) (w : World), Code.wp _ _ _ a w → _ from by assumption) _ _ ?_
                refine Rv.fin_swap (L' := [(95, f 0), (96, f 1), (97, f 2), (98, f 3), (99, f 4), (100, f 5), (101, f 6), (94, f 7), (102, f 8), (103, f 9), (11, f 10), (1011, f 11), (12, f 12)]) rfl ?_
                rw [f0, f1, f2, f3, f4, f5]
                clear f0 f1 f2 f3 f4 f5
                simp only [Rv.fin, List.foldl_cons, List.foldl_nil, Act.put, List.setIfInBounds_toArray, List.set_cons_succ, List.set_cons_zero, List.set_nil]
                obtain ⟨g, z0, z1, z2, z3, z4, q10, q8, hgc, hgx⟩ := HS11.out
                obtain ⟨u6, b6, cj, q6, hjc, hor⟩ := hJ rfl
                obtain ⟨u7, b7, q7a, q7⟩ := HS7.out
                obtain ⟨u8, b8', q8a, q8b⟩ := HS8.out
                obtain ⟨u9, b9, q9a, q9⟩ := HS9.out
                have h12 : f 12 = .bool b6 := by
                  rw [HS12.out, q9]
                  rw [q7, q6] at q9a
                  injection q9a with h; injection h with h; simp only [List.cons.injEq, Value.bool.injEq, and_true] at h
                  rw [h.2]
                have h8 : u6 = .agg #[z0, z1, z2, z3, z4] := by
                  rw [q7, q6] at q8a
                  injection q8a with h; injection h with h; simp only [List.cons.injEq, and_true] at h
                  exact h.1.trans (q8b.symm.trans q8)
                rw [q10, h12]
                have HBW := Lib.hid (HB.out.trans (htr.mono HB.out.size))
                have HG := Lib.hid ((htr.block _ hga).trans HG.out)
                have HMs := Lib.hid (HMs.out.below htr)
                have HO8 := Lib.hid (own_below HO8.out htr)
                obtain ⟨A5, c5, A6, c6, ez, _⟩ := hjc.five
                rw [h8] at ez
                (injection ez with ez); (injection ez with ez); simp only [List.cons.injEq, and_true] at ez
                obtain ⟨rfl, rfl, rfl, rfl, rfl⟩ := ez
                rw [h8] at hjc
                have HJJ := Lib.hid hjc
                have HGC := Lib.hid hgc
                have HOR := Lib.hid hor
                clear hJ q10 q8 q6 hjc hor q7a q7 q8a q8b q9a q9 h12 h8 htr HS6 HS7 HS8 HS9 HS11 HS12 hgc GT HTL HJC HB
                generalize f 6 = f6
                generalize f 7 = f7
                generalize f 8 = f8
                generalize f 9 = f9
                obtain ⟨q0, q1, q2, q3, q4⟩ := Rv.cells5 HGC.out
                obtain ⟨y0, y1, y2, y3, y4⟩ := Rv.cells5 HG.out
                obtain ⟨p0, p1, p2, p3, p4⟩ := Rv.frozen5 HG.out
                have hst : ∀ s ∈ l ++ [sp], Stp s := fun s hs => by
                  rcases List.mem_append.1 hs with h | h
                  · exact HS.out s h
                  · rw [List.mem_singleton.1 h]; exact HSTP.out
                have HST := Lib.hid hst
                have hla : (l ++ [sp]).length = l.length + 1 := by simp
                have hsa : stc l ++ (#[.string sp.x, .int .i64 (sp.i : Int), .bool sp.b] : Array Value).toList = stc (l ++ [sp]) := by
                  show stc l ++ stv sp = stc (l ++ [sp])
                  unfold stc
                  rw [List.flatMap_append]
                  simp
                rw [hsa] at HO8
                clear hst hsa
                cases b6
                · rcases HOR.out with ⟨h, _⟩ | ⟨_, hgn⟩
                  · cases h
                  · have hf1 : fI tc sp = -1 := by
                      rcases fI_cases HWC.out sp with h | ⟨k, hk1, hk2⟩
                      · exact h
                      · rw [getJ_at _ _ _ k hk1 hk2] at hgn
                        cases hgn
                    have HWY := Lib.hid (HP.out _ (.last tc sp hf1 HSK.out))
                    clear HOR hgn hf1
                    go_wp2
                    refine bodyPost_ret (v := .tuple #[.slice (some ⟨b8, o8, none⟩) (l.length + 1) c8, .bool true]) ?_ rfl (.inl ⟨some ⟨b8, o8, none⟩, c8, l ++ [sp], by rw [hla], HWY.out, HST.out, by rw [hla]; omega, by rw [hla]; exact Rd.of_own HO8.out, HBW.out⟩)
                    simp only [results, show Tryz.f7.results = #[.tmp 4, .tmp 5] by kernel_rfl]
                    go_simp
                · rcases HOR.out with ⟨_, hgs, hwc⟩ | ⟨h, _⟩
                  · have hex : ∃ k, ∃ (hk : k < tc.is.length), fI tc sp = (k : Int) ∧ tc.is[k] = cj := by
                      rcases fI_cases HWC.out sp with h | ⟨k, hk1, hk2⟩
                      · rw [getJ_no _ _ _ h] at hgs
                        cases hgs
                      · rw [getJ_at _ _ _ k hk1 hk2] at hgs
                        injection hgs with hgs
                        exact ⟨k, hk2, hk1, hgs⟩
                    obtain ⟨k, hk2, hk1, hck⟩ := hex
                    have HPN := Lib.hid (show Pre t (l ++ [sp]) cj from hck ▸ HP.out.step sp k hk1 hk2)
                    have HWN := Lib.hid hwc
                    clear HOR hgs hwc hk1 hck hk2
                    go_wp2
                    have sb : ∀ (V : World) (j : Nat) (u : Value), Below w.heap.size w V → Below w.heap.size w (V.setCell ⟨w.heap.size, j, none⟩ u) := fun V j u h => h.setCell (Nat.le_refl _) u
                    have gs := fun (V : World) j u => grown_set (Below.refl _ V) w.heap.size j u
                    have HBF := Lib.hid (sb _ 4 (.slice A6 cj.is.length c6) (sb _ 3 (.slice A5 cj.ns.length c5) (sb _ 2 (.string cj.s) (sb _ 1 (.int .i64 cj.n) (sb _ 0 (.int .i64 cj.k) HBW.out)))))
                    have hgg := (grown_then (grown_then (grown_then (grown_then (gs W 0 (.int .i64 cj.k)) (gs _ 1 (.int .i64 cj.n))) (gs _ 2 (.string cj.s))) (gs _ 3 (.slice A5 cj.ns.length c5))) (gs _ 4 (.slice A6 cj.is.length c6)))
                    have HJF := Lib.hid (HJJ.out.grown hgg (fun x hx e => by have := HE.out x hx; injection e with e; omega))
                    have HGF := Lib.hid (Rv.sets5 HG.out (.int .i64 cj.k) (.int .i64 cj.n) (.string cj.s) (.slice A5 cj.ns.length c5) (.slice A6 cj.is.length c6))
                    have HMF := Lib.hid (HMs.out.grown hgg (fun k hk => by injection hk with hk; omega))
                    have HOF := Lib.hid (own_kept HO8.out hgg (fun k hk e => by have := (HO8.out.lt k hk).1; injection e with e; omega))
                    clear sb gs hgg q0 q1 q2 q3 q4 y0 y1 y2 y3 y4 p0 p1 p2 p3 p4
                    go_roundg (gk - 1)
                    case rel => exact ⟨n - 1, l ++ [sp], cj, A5, c5, A6, c6, some ⟨b8, o8, none⟩, c8, by first | rw [hla] | simp, by go_num, by omega, by rw [hla]; omega, HPN, HST, HWN, HJF, HGF, by rw [hla]; exact HOF, HMF, HBF⟩
                    case measure => omega
                  · cases h
    · obtain rfl : n = 0 := by omega
      go_wp2
      refine bodyPost_ret (v := .tuple #[.slice A9 l.length c9, .bool true]) ?_ rfl (.inl ⟨_, _, l, rfl, HP.out.done, HS.out, by omega, Rd.of_own HO.out, HB.out⟩)
      simp only [results, show Tryz.f7.results = #[.tmp 4, .tmp 5] by kernel_rfl]
      go_simp
end Go.Proofs.YtmelgankbegjaaaGreatDoor.Js

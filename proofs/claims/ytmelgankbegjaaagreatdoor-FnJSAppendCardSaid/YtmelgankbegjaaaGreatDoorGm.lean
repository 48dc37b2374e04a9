/- Part m of the chain. Conditions: those written at each lemma. -/
import Derived.Test.YtmelgankbegjaaaGreatDoorGh
import Derived.Test.YtmelgankbegjaaaGreatDoorGl
import Derived.Test.YtmelgankbegjaaaGreatDoorGd
set_option linter.unusedVariables false
set_option linter.unusedSimpArgs false
set_option maxRecDepth 100000
set_option maxHeartbeats 8000000
namespace Go.Proofs.YtmelgankbegjaaaGreatDoor.Js
open Go.RowKit Go.Proofs.YtmelgankbegjaaaGreatDoor.B

/-- Where a step leads. -/
theorem find_sp (t : J) (p : Nat → Prop) (v : Value) (s : Sp) (w : World) (hj : JN p w t v) (h8 : t.ns.length ≤ 8) (h8i : t.is.length ≤ 8) :
    Calls Tryz.prog 24 #[v, .agg #[.string s.x, .int .i64 (s.i : Int), .bool s.b]] w fun e w' => e = .returned (.int .i64 (fI t s)) ∧ Below w.heap.size w w' := by
  obtain ⟨A, c, A2, c2, rfl, hn, hs, hI, hH⟩ := hj.five
  have HA := Lib.hid (old_blk (o := .cells #[.string s.x, .int .i64 (s.i : Int), .bool s.b] 51) (heap_alloc_new w (.cells #[.int .i64 t.k, .int .i64 t.n, .string t.s, .slice A t.ns.length c, .slice A2 t.is.length c2] 26)))
  have HS := Lib.hid (show ((w.alloc (.cells #[.int .i64 t.k, .int .i64 t.n, .string t.s, .slice A t.ns.length c, .slice A2 t.is.length c2] 26)).alloc (.cells #[.string s.x, .int .i64 (s.i : Int), .bool s.b] 51)).heap[w.heap.size + 1]? = some (.cells #[.string s.x, .int .i64 (s.i : Int), .bool s.b] 51 (0, 0)) from by
    have := heap_alloc_new (w.alloc (.cells #[.int .i64 t.k, .int .i64 t.n, .string t.s, .slice A t.ns.length c, .slice A2 t.is.length c2] 26)) (.cells #[.string s.x, .int .i64 (s.i : Int), .bool s.b] 51)
    simpa using this)
  have hX : Below w.heap.size w ((w.alloc (.cells #[.int .i64 t.k, .int .i64 t.n, .string t.s, .slice A t.ns.length c, .slice A2 t.is.length c2] 26)).alloc (.cells #[.string s.x, .int .i64 (s.i : Int), .bool s.b] 51)) := ((Below.refl _ _).alloc (Nat.le_refl _) _).alloc (by simp) _
  have AT := Lib.hid (at_any t p _ s.x _ (hj.below hX) (by omega))
  have HX := Lib.hid hX
  obtain ⟨y0, y1, y2, y3, y4⟩ := Rv.cells5 HA.out
  obtain ⟨s0, s1, s2⟩ := Rv.cells3 HS.out
  have HF : Hid (fI t s = if s.b then (if t.k = 4 ∧ s.i < t.is.length then (s.i : Int) else -1) else if t.k = 5 then idx s.x t.ns 0 else -1) := Lib.hid rfl
  clear hj hX hn hI hH
  generalize s.b = sb at *
  cases sb
  · rw [if_neg (by simp)] at HF
    by_cases hk : t.k = 5
    · rw [if_pos hk] at HF
      have hkb : (t.k != 5) = false := by simp [hk]
      have hkb2 : (t.k == 5) = true := by simp [hk]
      rw [HF.out]
      clear hk HF
      go_enter Tryz.func24, Tryz.ntmps24
      go_wp2_with (go_at_call 26; (with_reducible refine AT.out.mono ?_); rintro e w1 ⟨rfl, hb⟩; have HB := Lib.hid (HX.out.trans (hb.mono HX.out.size)); clear hb)
      go_ret
      exact ⟨rfl, HB.out⟩
    · rw [if_neg hk] at HF
      have hkb : (t.k != 5) = true := by simp [hk]
      have hkb2 : (t.k == 5) = false := by simp [hk]
      rw [HF.out]
      clear hk HF
      go_enter Tryz.func24, Tryz.ntmps24
      go_wp2
      go_ret
      exact ⟨rfl, HX.out⟩
  · rw [if_pos rfl] at HF
    by_cases hk : t.k = 4
    · have hkb : (t.k == 4) = true := by simp [hk]
      by_cases hi : s.i < t.is.length
      · rw [if_pos ⟨hk, hi⟩] at HF
        have hib : decide ((s.i : Int) < (t.is.length : Int)) = true := decide_eq_true (by omega)
        rw [HF.out]
        clear hk HF
        go_enter Tryz.func24, Tryz.ntmps24
        go_wp2
        go_ret
        exact ⟨rfl, HX.out⟩
      · rw [if_neg (fun h => hi h.2)] at HF
        have hib : decide ((s.i : Int) < (t.is.length : Int)) = false := decide_eq_false (by omega)
        rw [HF.out]
        clear hk HF
        go_enter Tryz.func24, Tryz.ntmps24
        go_wp2
        go_ret
        exact ⟨rfl, HX.out⟩
    · rw [if_neg (fun h => hk h.1)] at HF
      have hkb : (t.k == 4) = false := by simp [hk]
      rw [HF.out]
      clear hk HF
      go_enter Tryz.func24, Tryz.ntmps24
      go_wp2
      go_ret
      exact ⟨rfl, HX.out⟩
/-- A path of no steps: the value itself. -/
theorem put_nil (ad : Bool) (t tx : J) (p q : Nat → Prop) (v vx : Value) (A0 : Option Addr) (c0 : Nat) (w : World) (hj : JN p w t v) (hx : JN q w tx vx) :
    Calls Tryz.prog 11 #[v, .slice A0 0 c0, vx, .bool true, .bool ad] w fun e w' => e = .returned (.tuple #[vx, .bool true]) ∧ Below w.heap.size w w' := by
  obtain ⟨A, c, A2, c2, rfl, _⟩ := hj.five
  obtain ⟨C, d, C2, d2, rfl, _⟩ := hx.five
  have HX := Lib.hid (old_blk (o := .cells #[.int .i64 0, .int .i64 0, .string ⟨#[]⟩, .slice none 0 0, .slice none 0 0] 26) (show ((w.alloc (.cells #[.int .i64 t.k, .int .i64 t.n, .string t.s, .slice A t.ns.length c, .slice A2 t.is.length c2] 26)).alloc (.cells #[.int .i64 tx.k, .int .i64 tx.n, .string tx.s, .slice C tx.ns.length d, .slice C2 tx.is.length d2] 26)).heap[w.heap.size + 1]? = some (.cells #[.int .i64 tx.k, .int .i64 tx.n, .string tx.s, .slice C tx.ns.length d, .slice C2 tx.is.length d2] 26 (0, 0)) from by
    have := heap_alloc_new (w.alloc (.cells #[.int .i64 t.k, .int .i64 t.n, .string t.s, .slice A t.ns.length c, .slice A2 t.is.length c2] 26)) (.cells #[.int .i64 tx.k, .int .i64 tx.n, .string tx.s, .slice C tx.ns.length d, .slice C2 tx.is.length d2] 26)
    simpa using this))
  have HZ := Lib.hid (show (((w.alloc (.cells #[.int .i64 t.k, .int .i64 t.n, .string t.s, .slice A t.ns.length c, .slice A2 t.is.length c2] 26)).alloc (.cells #[.int .i64 tx.k, .int .i64 tx.n, .string tx.s, .slice C tx.ns.length d, .slice C2 tx.is.length d2] 26)).alloc (.cells #[.int .i64 0, .int .i64 0, .string ⟨#[]⟩, .slice none 0 0, .slice none 0 0] 26)).heap[w.heap.size + 1 + 1]? = some (.cells #[.int .i64 0, .int .i64 0, .string ⟨#[]⟩, .slice none 0 0, .slice none 0 0] 26 (0, 0)) from by
    have := heap_alloc_new ((w.alloc (.cells #[.int .i64 t.k, .int .i64 t.n, .string t.s, .slice A t.ns.length c, .slice A2 t.is.length c2] 26)).alloc (.cells #[.int .i64 tx.k, .int .i64 tx.n, .string tx.s, .slice C tx.ns.length d, .slice C2 tx.is.length d2] 26)) (.cells #[.int .i64 0, .int .i64 0, .string ⟨#[]⟩, .slice none 0 0, .slice none 0 0] 26)
    simpa using this)
  have hX : Below w.heap.size w (((w.alloc (.cells #[.int .i64 t.k, .int .i64 t.n, .string t.s, .slice A t.ns.length c, .slice A2 t.is.length c2] 26)).alloc (.cells #[.int .i64 tx.k, .int .i64 tx.n, .string tx.s, .slice C tx.ns.length d, .slice C2 tx.is.length d2] 26)).alloc (.cells #[.int .i64 0, .int .i64 0, .string ⟨#[]⟩, .slice none 0 0, .slice none 0 0] 26)) := (((Below.refl _ _).alloc (Nat.le_refl _) _).alloc (by simp) _).alloc (by simp; omega) _
  clear hj hx
  go_enter Tryz.func11, Tryz.ntmps11
  go_upto_region 3 with fail
  generalize ((w.alloc (.cells #[.int .i64 t.k, .int .i64 t.n, .string t.s, .slice A t.ns.length c, .slice A2 t.is.length c2] 26)).alloc (.cells #[.int .i64 tx.k, .int .i64 tx.n, .string tx.s, .slice C tx.ns.length d, .slice C2 tx.is.length d2] 26)).alloc (.cells #[.int .i64 0, .int .i64 0, .string ⟨#[]⟩, .slice none 0 0, .slice none 0 0] 26) = X at *
  obtain ⟨y0, y1, y2, y3, y4⟩ := Rv.cells5 HX.out
  obtain ⟨s0, s1, s2, s3, s4⟩ := Rv.cells5 HZ.out
  obtain ⟨z0, z1, z2, z3, z4⟩ := Rv.frozen5 HZ.out
  go_wp2
  have sb : ∀ (V : World) (j : Nat) (u : Value), Below w.heap.size w V → Below w.heap.size w (V.setCell ⟨w.heap.size + 1 + 1, j, none⟩ u) := fun V j u h => h.setCell (by show w.heap.size ≤ w.heap.size + 1 + 1; omega) u
  have HBF := Lib.hid (sb _ 4 (.slice C2 tx.is.length d2) (sb _ 3 (.slice C tx.ns.length d) (sb _ 2 (.string tx.s) (sb _ 1 (.int .i64 tx.n) (sb _ 0 (.int .i64 tx.k) hX)))))
  obtain ⟨q0, q1, q2, q3, q4⟩ := Rv.cells5 (Rv.sets5 HZ.out (.int .i64 tx.k) (.int .i64 tx.n) (.string tx.s) (.slice C tx.ns.length d) (.slice C2 tx.is.length d2))
  clear y0 y1 y2 y3 y4 s0 s1 s2 s3 s4 z0 z1 z2 z3 z4 sb hX
  refine bodyPost_ret (v := .tuple #[.agg #[.int .i64 tx.k, .int .i64 tx.n, .string tx.s, .slice C tx.ns.length d, .slice C2 tx.is.length d2], .bool true]) ?_ rfl ⟨rfl, HBF.out⟩
  simp only [results, show Tryz.f11.results = #[.cell 10 26, .tmp 11] by kernel_rfl]
  go_simp

/-- What stands at a path. -/
def getJ : List Sp → J → Option J
  | [], t => some t
  | s :: r, t => match t.is[(fI t s).toNat]? with
    | some c => if 0 ≤ fI t s then getJ r c else none
    | none => none
theorem getJ_cons (s : Sp) (r : List Sp) (t : J) : getJ (s :: r) t = (match t.is[(fI t s).toNat]? with
    | some c => if 0 ≤ fI t s then getJ r c else none
    | none => none) := by cases t; rfl
theorem getJ_at (s : Sp) (r : List Sp) (t : J) (k : Nat) (hf : fI t s = (k : Int)) (hk : k < t.is.length) : getJ (s :: r) t = getJ r t.is[k] := by
  rw [getJ_cons, hf, Int.toNat_natCast, List.getElem?_eq_getElem hk]
  simp only
  rw [if_pos (by omega)]
theorem getJ_no (s : Sp) (r : List Sp) (t : J) (hf : fI t s = -1) : getJ (s :: r) t = none := by
  rw [getJ_cons, hf]
  split
  · rw [if_neg (by omega)]
  · rfl
theorem fI_cases {t : J} (hwf : Wf t) (s : Sp) : fI t s = -1 ∨ ∃ k : Nat, fI t s = (k : Int) ∧ k < t.is.length := by
  unfold fI
  split
  · split
    · rename_i h
      exact .inr ⟨_, rfl, h.2⟩
    · exact .inl rfl
  · split
    · rename_i h
      rcases idx_range (x := s.x) (l := t.ns) (i := 0) (Int.le_refl _) with h2 | ⟨k, h1, h2, _⟩
      · exact .inl h2.1
      · have := (List.getElem?_eq_some_iff.1 h2).1
        exact .inr ⟨k, by rw [h1]; omega, by rw [← (hwf.kids.2 h).1]; exact this⟩
    · exact .inl rfl
def OutG (E : Nat → Prop) (l : List Sp) (t : J) (w : World) (e : Ending) (w' : World) : Prop :=
  (∃ (u : Value) (c : J), e = .returned (.tuple #[u, .bool true]) ∧ getJ l t = some c ∧ Wf c ∧ JN E w' c u ∧ Below w.heap.size w w') ∨ (∃ (u : Value) (c : J), e = .returned (.tuple #[u, .bool false]) ∧ getJ l t = none ∧ JN E w' c u ∧ Below w.heap.size w w')
/-- JSGet. -/
theorem get_any (E : Nat → Prop) (t : J) (v : Value) (A0 : Option Addr) (c0 : Nat) (l : List Sp) (w : World) (hE : ∀ x, E x → x < w.heap.size) (hj : JN E w t v) (hwf : Wf t) (hl : Rd w 3 (.slice A0 l.length c0) l.length (stc l)) (hl4 : l.length ≤ 4) :
    Calls Tryz.prog 17 #[v, .slice A0 l.length c0] w (OutG E l t w) := by
  obtain ⟨A, c, A2, c2, rfl, _⟩ := hj.five
  have hba := (Below.refl w.heap.size w).alloc (Nat.le_refl _) (.cells #[.int .i64 t.k, .int .i64 t.n, .string t.s, .slice A t.ns.length c, .slice A2 t.is.length c2] 26)
  have hn1 := heap_alloc_new w (.cells #[.int .i64 t.k, .int .i64 t.n, .string t.s, .slice A t.ns.length c, .slice A2 t.is.length c2] 26)
  have hsz1 : (w.alloc (.cells #[.int .i64 t.k, .int .i64 t.n, .string t.s, .slice A t.ns.length c, .slice A2 t.is.length c2] 26)).heap.size = w.heap.size + 1 := by simp
  have hn2 := heap_alloc_new (w.alloc (.cells #[.int .i64 t.k, .int .i64 t.n, .string t.s, .slice A t.ns.length c, .slice A2 t.is.length c2] 26)) (.cells #[.int .i64 0, .int .i64 0, .string ⟨#[]⟩, .slice none 0 0, .slice none 0 0] 26)
  have hbb := (Below.refl (w.alloc (.cells #[.int .i64 t.k, .int .i64 t.n, .string t.s, .slice A t.ns.length c, .slice A2 t.is.length c2] 26)).heap.size (w.alloc (.cells #[.int .i64 t.k, .int .i64 t.n, .string t.s, .slice A t.ns.length c, .slice A2 t.is.length c2] 26))).alloc (Nat.le_refl _) (.cells #[.int .i64 0, .int .i64 0, .string ⟨#[]⟩, .slice none 0 0, .slice none 0 0] 26)
  have HG1 := Lib.hid ((hbb.block _ (Rv.lt_of_blk hn1)).trans hn1)
  rw [hsz1] at hn2
  have HG2 := Lib.hid hn2
  have HX := Lib.hid (hba.trans (hbb.mono hba.size))
  have HJ := Lib.hid hj
  have HW := Lib.hid hwf
  have HL := Lib.hid hl
  have HE := Lib.hid hE
  clear hba hn1 hsz1 hn2 hbb hj hwf hl hE
  go_enter Tryz.func17, Tryz.ntmps17
  go_wp2
  generalize (w.alloc (.cells #[.int .i64 t.k, .int .i64 t.n, .string t.s, .slice A t.ns.length c, .slice A2 t.is.length c2] 26)).alloc (.cells #[.int .i64 0, .int .i64 0, .string ⟨#[]⟩, .slice none 0 0, .slice none 0 0] 26) = X at *
  go_loopw [6] (fun v6 wr => ∃ (jj : Nat) (tc : J) (A1 : Option Addr) (c1 : Nat) (B1 : Option Addr) (d1 : Nat), v6 = .int .i64 (jj : Int) ∧ jj ≤ l.length ∧ Hid (getJ l t = getJ (l.drop jj) tc) ∧ Hid (Wf tc) ∧ Hid (JN E wr tc (.agg #[.int .i64 tc.k, .int .i64 tc.n, .string tc.s, .slice A1 tc.ns.length c1, .slice B1 tc.is.length d1])) ∧ Hid (wr.heap[w.heap.size]? = some (.cells #[.int .i64 tc.k, .int .i64 tc.n, .string tc.s, .slice A1 tc.ns.length c1, .slice B1 tc.is.length d1] 26 (0, 0))) ∧ Hid (wr.heap[w.heap.size + 1]? = some (.cells #[.int .i64 0, .int .i64 0, .string ⟨#[]⟩, .slice none 0 0, .slice none 0 0] 26 (0, 0))) ∧ Hid (Below w.heap.size w wr)) (fun v6 _ => (l.length - (intOf v6)).toNat)
  case atStart => exact ⟨0, t, A, c, A2, c2, rfl, Nat.zero_le _, Lib.hid rfl, HW, Lib.hid (HJ.out.below HX.out), HG1, HG2, HX⟩
  case round =>
    obtain ⟨jj, tc, A1, c1, B1, d1, rfl, hi, HGJ, HWC, HJC, HG, HZ, HB⟩ := hrel
    clear HG1 HG2 HX HJ
    by_cases hlt : jj < l.length
    · obtain ⟨bl, ol, rfl, hbl, l0, l1, l2⟩ := st_at HL.out jj hlt
      have HLW := Lib.hid (fun (W : World) (hb : Below w.heap.size w W) => show W.cell? ⟨bl, ol + jj * 3, none⟩ = some (.string l[jj].x) ∧ W.cell? ⟨bl, ol + jj * 3 + 1, none⟩ = some (.int .i64 (l[jj].i : Int)) ∧ W.cell? ⟨bl, ol + jj * 3 + 2, none⟩ = some (.bool l[jj].b) from
        ⟨(hb.cell (p := ⟨bl, ol + jj * 3, none⟩) hbl).trans l0, (hb.cell (p := ⟨bl, ol + jj * 3 + 1, none⟩) hbl).trans l1, (hb.cell (p := ⟨bl, ol + jj * 3 + 2, none⟩) hbl).trans l2⟩)
      have hfc := fI_cases HWC.out l[jj]
      have HD := Lib.hid (List.drop_eq_getElem_cons hlt)
      have hs8 := HWC.out.short
      have FIW := Lib.hid (fun (W : World) (hb : Below wr.heap.size wr W) => find_sp tc _ _ l[jj] W (HJC.out.below hb) (by omega) (by omega))
      have HFI : Hid (fI tc l[jj] = fI tc l[jj]) := Lib.hid rfl
      generalize l[jj] = s at *
      generalize hK : fI tc s = K at FIW HFI hfc
      go_upto_region 4 with fail
      rename World => X1
      generalize X1 = X at *
      have hga := Rv.lt_of_blk HG.out
      have FI := FIW
      have HL2 := Lib.hid (fun (W : World) (hb : Below X.heap.size X W) => HLW.out W (HB.out.trans (hb.mono HB.out.size)))
      refine Rv.region_goods (n := 29) (by kernel_rfl) #[14, 15, 16, 17, 18, 19, 7] #[] (fun i v W => v = (#[.agg #[.int .i64 tc.k, .int .i64 tc.n, .string tc.s, .slice A1 tc.ns.length c1, .slice B1 tc.is.length d1], .slice (some ⟨bl, ol, none⟩) l.length c0, .int .i64 (jj : Int), .pointer (some ⟨bl, ol + jj * 3, none⟩), .agg #[.string s.x, .int .i64 (s.i : Int), .bool s.b], .int .i64 K, .int .i64 K] : Array Value).getD i undef) (fun i v w w' h hb => ?_) (fun i h g b hg => ?_) rfl (by kernel_rfl) (by kernel_rfl) (fun i h hr w => ?_) ?_ ?_
      · exact h
      · match i, h, hg with
        | 0, _, hg => cases hg
        | 1, _, hg => cases hg
        | 2, _, hg => cases hg
        | 3, _, hg => cases hg
        | 4, _, hg => cases hg
        | 5, _, hg => cases hg
        | 6, _, hg => cases hg
        | m + 7, h, _ => exact absurd h (by show ¬ m + 7 < 7; omega)
      · match i, h, hr with
        | 0, _, hr => exact Bool.noConfusion (show true = false from hr)
        | 1, _, hr => exact Bool.noConfusion (show true = false from hr)
        | 2, _, hr => exact Bool.noConfusion (show true = false from hr)
        | 3, _, hr => exact Bool.noConfusion (show true = false from hr)
        | 4, _, hr => exact Bool.noConfusion (show true = false from hr)
        | 5, _, hr => exact Bool.noConfusion (show true = false from hr)
        | 6, _, hr => exact Bool.noConfusion (show true = false from hr)
        | m + 7, h, _ => exact absurd h (by show ¬ m + 7 < 7; omega)
      · intro i h a W hrun hbase hpre hdep htr
        obtain ⟨y0, y1, y2, y3, y4⟩ := Rv.cells5 ((htr.block _ hga).trans HG.out)
        obtain ⟨l0, l1, l2⟩ := HL2.out W htr
        match i, h with
        | 0, _ =>
          obtain ⟨e2, x2⟩ := Rv.ev (show a.tmps.getD 2 undef = .pointer (some ⟨w.heap.size, 0, none⟩) from hbase 2 rfl)
          exact Rv.step_op (op := Go.Op.load 26 (Go.Operand.tmp 2)) (v := .agg #[.int .i64 tc.k, .int .i64 tc.n, .string tc.s, .slice A1 tc.ns.length c1, .slice B1 tc.is.length d1]) (w1 := W) rfl rfl (fun d pos aft g => by unfold execOp; go_simp) ⟨_, rfl, rfl, Below.refl _ _⟩
        | 1, _ =>
          obtain ⟨e1, x1⟩ := Rv.ev (show a.tmps.getD 1 undef = .slice (some ⟨bl, ol, none⟩) l.length c0 from hbase 1 rfl)
          exact Rv.step_op (op := Go.Op.move (Go.Operand.tmp 1)) (v := .slice (some ⟨bl, ol, none⟩) l.length c0) (w1 := W) rfl rfl (fun d pos aft g => by unfold execOp; go_simp) ⟨_, rfl, rfl, Below.refl _ _⟩
        | 2, _ =>
          obtain ⟨e6, x6⟩ := Rv.ev (show a.tmps.getD 6 undef = .int .i64 (jj : Int) from hbase 6 rfl)
          exact Rv.step_op (op := Go.Op.move (Go.Operand.tmp 6)) (v := .int .i64 (jj : Int)) (w1 := W) rfl rfl (fun d pos aft g => by unfold execOp; go_simp) ⟨_, rfl, rfl, Below.refl _ _⟩
        | 3, _ =>
          obtain ⟨e15, x15⟩ := Rv.ev (show a.tmps.getD 15 undef = .slice (some ⟨bl, ol, none⟩) l.length c0 from hdep 1 rfl)
          obtain ⟨e16, x16⟩ := Rv.ev (show a.tmps.getD 16 undef = .int .i64 (jj : Int) from hdep 2 rfl)
          exact Rv.step_op (op := Go.Op.indexAddr 28 (Go.Operand.tmp 15) (Go.Operand.tmp 16)) (v := .pointer (some ⟨bl, ol + jj * 3, none⟩)) (w1 := W) rfl rfl (fun d pos aft g => by unfold execOp; go_simp) ⟨_, rfl, rfl, Below.refl _ _⟩
        | 4, _ =>
          obtain ⟨e17, x17⟩ := Rv.ev (show a.tmps.getD 17 undef = .pointer (some ⟨bl, ol + jj * 3, none⟩) from hdep 3 rfl)
          exact Rv.step_op (op := Go.Op.load 51 (Go.Operand.tmp 17)) (v := .agg #[.string s.x, .int .i64 (s.i : Int), .bool s.b]) (w1 := W) rfl rfl (fun d pos aft g => by unfold execOp; go_simp) ⟨_, rfl, rfl, Below.refl _ _⟩
        | 5, _ =>
          obtain ⟨e14, x14⟩ := Rv.ev (show a.tmps.getD 14 undef = .agg #[.int .i64 tc.k, .int .i64 tc.n, .string tc.s, .slice A1 tc.ns.length c1, .slice B1 tc.is.length d1] from hdep 0 rfl)
          obtain ⟨e18, x18⟩ := Rv.ev (show a.tmps.getD 18 undef = .agg #[.string s.x, .int .i64 (s.i : Int), .bool s.b] from hdep 4 rfl)
          have cf : ∀ x0 x1 W, (callFunc 24 #[x0, x1]).run Tryz.prog W = .ok (.enter 24 #[x0, x1]) W := fun _ _ _ => by kernel_rfl
          refine Rv.step_fn (op := Go.Op.call { callee := Go.Callee.value (Go.Operand.func 24), args := #[Go.Operand.tmp 14, Go.Operand.tmp 18], argTypes := #[26, 51] }) (f := 24) (args := #[.agg #[.int .i64 tc.k, .int .i64 tc.n, .string tc.s, .slice A1 tc.ns.length c1, .slice B1 tc.is.length d1], .agg #[.string s.x, .int .i64 (s.i : Int), .bool s.b]]) (R := fun v W' => v = .int .i64 K ∧ Below W.heap.size W W') rfl rfl (fun d pos aft g => by unfold execOp; go_simp) ((FI.out W htr).mono ?_) ?_
          · (rintro e W' ⟨rfl, hb⟩; exact ⟨_, rfl, rfl, hb⟩)
          · (rintro v W' ⟨rfl, hb⟩; exact ⟨_, rfl, rfl, hb⟩)
        | 6, _ =>
          obtain ⟨e19, x19⟩ := Rv.ev (show a.tmps.getD 19 undef = .int .i64 K from hdep 5 rfl)
          exact Rv.step_op (op := Go.Op.assign (Go.Operand.tmp 19)) (v := .int .i64 K) (w1 := W) rfl rfl (fun d pos aft g => by unfold execOp; go_simp) ⟨_, rfl, rfl, Below.refl _ _⟩
        | m + 7, h => exact absurd h (by show ¬ m + 7 < 7; omega)
      intro W f hf htr
      have f0 : f 0 = .agg #[.int .i64 tc.k, .int .i64 tc.n, .string tc.s, .slice A1 tc.ns.length c1, .slice B1 tc.is.length d1] := hf 0 (by show 0 < 7; omega)
      have f1 : f 1 = .slice (some ⟨bl, ol, none⟩) l.length c0 := hf 1 (by show 1 < 7; omega)
      have f2 : f 2 = .int .i64 (jj : Int) := hf 2 (by show 2 < 7; omega)
      have f3 : f 3 = .pointer (some ⟨bl, ol + jj * 3, none⟩) := hf 3 (by show 3 < 7; omega)
      have f4 : f 4 = .agg #[.string s.x, .int .i64 (s.i : Int), .bool s.b] := hf 4 (by show 4 < 7; omega)
      have f5 : f 5 = .int .i64 K := hf 5 (by show 5 < 7; omega)
      have f6 : f 6 = .int .i64 K := hf 6 (by show 6 < 7; omega)
      refine (show ∀ (a : Act) (w : World), Code.wp _ _ _ a w → _ from by assumption) _ _ ?_
      refine Rv.fin_swap (L' := [(14, f 0), (15, f 1), (16, f 2), (17, f 3), (18, f 4), (19, f 5), (7, f 6)]) rfl ?_
      rw [f0, f1, f2, f3, f4, f5, f6]
      clear f0 f1 f2 f3 f4 f5 f6
      simp only [Rv.fin, List.foldl_cons, List.foldl_nil, Act.put, List.setIfInBounds_toArray, List.set_cons_succ, List.set_cons_zero]
      have HB := Lib.hid (HB.out.trans (htr.mono HB.out.size))
      have HG := Lib.hid ((htr.block _ hga).trans HG.out)
      have HZ := Lib.hid ((htr.block _ (Rv.lt_of_blk HZ.out)).trans HZ.out)
      have HJC := Lib.hid (HJC.out.below htr)
      clear hf htr FI FIW HL2 hga HLW
      rcases hfc with rfl | ⟨k, rfl, hk⟩
      · obtain ⟨s0, s1, s2, s3, s4⟩ := Rv.cells5 HZ.out
        obtain ⟨z0, z1, z2, z3, z4⟩ := Rv.frozen5 HZ.out
        go_wp2
        have sb : ∀ (V : World) (j : Nat) (u : Value), Below w.heap.size w V → Below w.heap.size w (V.setCell ⟨w.heap.size + 1, j, none⟩ u) := fun V j u h => h.setCell (by show w.heap.size ≤ w.heap.size + 1; omega) u
        have HBF := Lib.hid (sb _ 4 (.slice none 0 0) (sb _ 3 (.slice none 0 0) (sb _ 2 (.string ⟨#[]⟩) (sb _ 1 (.int .i64 0) (sb _ 0 (.int .i64 0) HB.out)))))
        obtain ⟨q0, q1, q2, q3, q4⟩ := Rv.cells5 (Rv.sets5 HZ.out (.int .i64 0) (.int .i64 0) (.string ⟨#[]⟩) (.slice none 0 0) (.slice none 0 0))
        clear s0 s1 s2 s3 s4 z0 z1 z2 z3 z4 sb
        refine bodyPost_ret (v := .tuple #[.agg #[.int .i64 0, .int .i64 0, .string ⟨#[]⟩, .slice none 0 0, .slice none 0 0], .bool false]) ?_ rfl (.inr ⟨_, .mk 0 0 ⟨#[]⟩ [] [], rfl, by rw [HGJ.out, HD.out]; exact getJ_no _ _ _ hK, ⟨none, 0, none, 0, [], rfl, Rp.nil _ _ _, Rp.nil _ _ _, rfl⟩, HBF.out⟩)
        simp only [results, show Tryz.f17.results = #[.cell 4 26, .tmp 5] by kernel_rfl]
        go_simp
      · obtain ⟨A9, c9, B9, d9, e9, hn9, hs9, hI9, hH9⟩ := HJC.out.five
        (injection e9 with e9); (injection e9 with e9); simp only [List.cons.injEq, Value.slice.injEq, true_and, and_true] at e9
        obtain ⟨⟨rfl, rfl⟩, rfl, rfl⟩ := e9
        obtain ⟨b2, o2, A3, c3, B3, d3, eb, hb2, x0, x1, x2, x3, x4, hjt⟩ := row_item hI9.1 hH9 rfl k hk
        subst eb
        have hwk := HWC.out.kids.1.get _ (List.getElem_mem hk)
        have HNX := Lib.hid (show getJ l t = getJ (l.drop (jj + 1)) tc.is[k] from by rw [HGJ.out, HD.out]; exact getJ_at _ _ _ k hK hk)
        have HWK := Lib.hid hwk
        have HJK := Lib.hid hjt
        generalize tc.is[k] = ti at *
        obtain ⟨y0, y1, y2, y3, y4⟩ := Rv.cells5 HG.out
        obtain ⟨z0, z1, z2, z3, z4⟩ := Rv.frozen5 HG.out
        clear hn9 hI9 hH9 hjt hwk HD hK
        go_wp2
        have sb : ∀ (V : World) (j : Nat) (u : Value), Below w.heap.size w V → Below w.heap.size w (V.setCell ⟨w.heap.size, j, none⟩ u) := fun V j u h => h.setCell (Nat.le_refl _) u
        have gs := fun (V : World) j u => grown_set (Below.refl _ V) w.heap.size j u
        have HBF := Lib.hid (sb _ 4 (.slice B3 ti.is.length d3) (sb _ 3 (.slice A3 ti.ns.length c3) (sb _ 2 (.string ti.s) (sb _ 1 (.int .i64 ti.n) (sb _ 0 (.int .i64 ti.k) HB.out)))))
        have hgg := (grown_then (grown_then (grown_then (grown_then (gs W 0 (.int .i64 ti.k)) (gs _ 1 (.int .i64 ti.n))) (gs _ 2 (.string ti.s))) (gs _ 3 (.slice A3 ti.ns.length c3))) (gs _ 4 (.slice B3 ti.is.length d3)))
        have HJF := Lib.hid (HJK.out.grown hgg (fun x hx e => by have := HE.out x hx; injection e with e; omega))
        have HGF := Lib.hid (Rv.sets5 HG.out (.int .i64 ti.k) (.int .i64 ti.n) (.string ti.s) (.slice A3 ti.ns.length c3) (.slice B3 ti.is.length d3))
        have HZF := Lib.hid (blk_grown HZ.out hgg (fun e => by injection e with e; omega))
        clear sb gs hgg y0 y1 y2 y3 y4 z0 z1 z2 z3 z4 x0 x1 x2 x3 x4
        go_roundw
        case rel => exact ⟨jj + 1, ti, A3, c3, B3, d3, by go_num, by omega, HNX, HWK, HJF, HGF, HZF, HBF⟩
        case measure => simp [intOf]; omega
    · obtain rfl : jj = l.length := by omega
      obtain ⟨y0, y1, y2, y3, y4⟩ := Rv.cells5 HG.out
      obtain ⟨s0, s1, s2, s3, s4⟩ := Rv.cells5 HZ.out
      obtain ⟨z0, z1, z2, z3, z4⟩ := Rv.frozen5 HZ.out
      go_wp2
      have sb : ∀ (V : World) (j : Nat) (u : Value), Below w.heap.size w V → Below w.heap.size w (V.setCell ⟨w.heap.size + 1, j, none⟩ u) := fun V j u h => h.setCell (by show w.heap.size ≤ w.heap.size + 1; omega) u
      have gs := fun (V : World) j u => grown_set (Below.refl _ V) (w.heap.size + 1) j u
      have HBF := Lib.hid (sb _ 4 (.slice B1 tc.is.length d1) (sb _ 3 (.slice A1 tc.ns.length c1) (sb _ 2 (.string tc.s) (sb _ 1 (.int .i64 tc.n) (sb _ 0 (.int .i64 tc.k) HB.out)))))
      have hgg := (grown_then (grown_then (grown_then (grown_then (gs wr 0 (.int .i64 tc.k)) (gs _ 1 (.int .i64 tc.n))) (gs _ 2 (.string tc.s))) (gs _ 3 (.slice A1 tc.ns.length c1))) (gs _ 4 (.slice B1 tc.is.length d1)))
      have HJF := Lib.hid (HJC.out.grown hgg (fun x hx e => by have := HE.out x hx; injection e with e; omega))
      obtain ⟨q0, q1, q2, q3, q4⟩ := Rv.cells5 (Rv.sets5 HZ.out (.int .i64 tc.k) (.int .i64 tc.n) (.string tc.s) (.slice A1 tc.ns.length c1) (.slice B1 tc.is.length d1))
      clear sb gs hgg y0 y1 y2 y3 y4 z0 z1 z2 z3 z4 s0 s1 s2 s3 s4
      refine bodyPost_ret (v := .tuple #[.agg #[.int .i64 tc.k, .int .i64 tc.n, .string tc.s, .slice A1 tc.ns.length c1, .slice B1 tc.is.length d1], .bool true]) ?_ rfl (.inl ⟨_, tc, rfl, by rw [HGJ.out, List.drop_length]; rfl, HWC.out, HJF.out, HBF.out⟩)
      simp only [results, show Tryz.f17.results = #[.cell 4 26, .tmp 5] by kernel_rfl]
      go_simp
end Go.Proofs.YtmelgankbegjaaaGreatDoor.Js

set_option linter.unusedVariables false
set_option linter.unusedSimpArgs false
set_option maxRecDepth 100000
set_option maxHeartbeats 8000000
namespace Go.Proofs.YtmelgankbegjaaaGreatDoor.Js
open Go.RowKit Go.Proofs.YtmelgankbegjaaaGreatDoor.B

/-- What a call answers, and a variable's place: what is answered lies elsewhere. -/
def Mp (E2 : Nat → Prop) (tr : J) (n0 : Nat) (L : Nat → Bool) (f : Nat → Value) (W : World) : Prop :=
  (L 14 = true → ∃ g : Nat, f 14 = .pointer (some ⟨g, 0, none⟩) ∧ g < W.heap.size ∧ n0 ≤ g) ∧
  (L 10 = true → ∃ (u : Value) (c : Bool), f 10 = .tuple #[u, .bool c] ∧ JN E2 W tr u ∧ (L 14 = true → JN (fun x => E2 x ∧ f 14 ≠ .pointer (some ⟨x, 0, none⟩)) W tr u))
section
variable {E E2 : Nat → Prop} {tr : J} {n0 : Nat} {L : Nat → Bool} {f : Nat → Value} {W W' : World}
theorem Mp.loc {n : Nat} (hn : 14 < n) (L L' : Nat → Bool) (f f' : Nat → Value) (w : World) (h1 : ∀ k, k < n → L k = L' k) (h2 : ∀ k, k < n → f k = f' k) (h : Mp E2 tr n0 L f w) : Mp E2 tr n0 L' f' w := by
  unfold Mp at *
  rw [← h1 14 hn, ← h1 10 (by omega), ← h2 14 hn, ← h2 10 (by omega)]
  exact h
theorem Mp.keep {i : Nat} (h4 : i ≠ 10) (h8 : i ≠ 14) (v : Value) (hb : Below W.heap.size W W') (h : Mp E2 tr n0 L f W) : Mp E2 tr n0 (Rv.put L i) (Rv.upd f i v) W' := by
  unfold Mp Rv.put Rv.upd at *
  rw [if_neg (Ne.symm h4), if_neg (Ne.symm h8), if_neg (Ne.symm h4), if_neg (Ne.symm h8)]
  refine ⟨fun hl => ?_, fun hl => ?_⟩
  · obtain ⟨g, a, b, c⟩ := h.1 hl
    exact ⟨g, a, Nat.lt_of_lt_of_le b hb.size, c⟩
  · obtain ⟨v, c, q1, q2, q3⟩ := h.2 hl
    exact ⟨v, c, q1, q2.below hb, fun h => (q3 h).below hb⟩
theorem Mp.call {u : Value} {c : Bool} (hb : Below W.heap.size W W') (hE : ∀ x, E x → x < n0) (hn : n0 ≤ W.heap.size) (h4 : JN (fun x => E x ∨ W.heap.size ≤ x) W' tr u) (h : Mp (fun x => E x ∨ n0 ≤ x) tr n0 L f W) : Mp (fun x => E x ∨ n0 ≤ x) tr n0 (Rv.put L 10) (Rv.upd f 10 (.tuple #[u, .bool c])) W' := by
  unfold Mp Rv.put Rv.upd at *
  rw [if_neg (by decide : ¬ (14 = 10)), if_neg (by decide : ¬ (14 = 10)), if_pos rfl, if_pos rfl]
  refine ⟨fun hl => ?_, fun _ => ⟨u, c, rfl, h4.weak (fun x _ hx => hx.imp id (Nat.le_trans hn)), fun hl => ?_⟩⟩
  · obtain ⟨g, a, b, c⟩ := h.1 hl
    exact ⟨g, a, Nat.lt_of_lt_of_le b hb.size, c⟩
  · obtain ⟨g, a, b, cc⟩ := h.1 hl
    refine h4.weak (fun x _ hx => ⟨hx.imp id (Nat.le_trans hn), fun e => ?_⟩)
    rw [a] at e
    injection e with e
    injection e with e
    injection e with e
    rcases hx with hx | hx
    · have := hE x hx; omega
    · omega
theorem Mp.new (hb : Below W.heap.size W W') (hs : W.heap.size < W'.heap.size) (hn : n0 ≤ W.heap.size) (h : Mp E2 tr n0 L f W) : Mp E2 tr n0 (Rv.put L 14) (Rv.upd f 14 (.pointer (some ⟨W.heap.size, 0, none⟩))) W' := by
  unfold Mp Rv.put Rv.upd at *
  rw [if_neg (by decide : ¬ (10 = 14)), if_neg (by decide : ¬ (10 = 14)), if_pos rfl, if_pos rfl]
  refine ⟨fun _ => ⟨_, rfl, hs, hn⟩, fun hl => ?_⟩
  obtain ⟨v, c, q1, q2, q3⟩ := h.2 hl
  refine ⟨v, c, q1, q2.below hb, fun _ => (q2.weak (q := fun x => E2 x ∧ Value.pointer (some ⟨W.heap.size, 0, none⟩) ≠ .pointer (some ⟨x, 0, none⟩)) (fun x hx h => ⟨h, fun e => ?_⟩)).below hb⟩
  injection e with e
  injection e with e
  injection e with e
  omega
theorem Mp.store {i : Nat} {u : Value} {c : Bool} (h4 : i ≠ 10) (h8 : i ≠ 14) (v : Value) (hs : W.heap.size ≤ W'.heap.size) (he : f 10 = .tuple #[u, .bool c]) (hn : JN (fun x => E2 x ∧ f 14 ≠ .pointer (some ⟨x, 0, none⟩)) W' tr u) (h : Mp E2 tr n0 L f W) : Mp E2 tr n0 (Rv.put L i) (Rv.upd f i v) W' := by
  unfold Mp Rv.put Rv.upd at *
  rw [if_neg (Ne.symm h4), if_neg (Ne.symm h8), if_neg (Ne.symm h4), if_neg (Ne.symm h8)]
  refine ⟨fun hl => ?_, fun hl => ⟨u, c, he, hn.weak (fun _ _ h => h.1), fun _ => hn⟩⟩
  obtain ⟨g, a, b, c⟩ := h.1 hl
  exact ⟨g, a, Nat.lt_of_lt_of_le b hs, c⟩
end
/-- What JSPut answers. -/
def OutP (E : Nat → Prop) (t : J) (w : World) (e : Ending) (w' : World) : Prop := ∃ (u : Value) (c : Bool), e = .returned (.tuple #[u, .bool c]) ∧ JN (fun x => E x ∨ w.heap.size ≤ x) w' t u ∧ Below w.heap.size w w'
theorem tail_ofS {P : Program} (t e : TypeId) (size : Nat) (ht : P.underlying t = some (.slice e)) (hz : ∀ W, (sizeOf e).run P W = .ok size W) (b o len c m : Nat) (hm : m ≤ len) (hc : len ≤ c) :
    ∃ A', (∀ W, (Instr.slice t (.slice (some ⟨b, o, none⟩) len c) (some (.int .i64 (m : Int))) none none).run P W = .ok (.slice A' (len - m) (c - m)) W) ∧ (∀ W cs, Rd W size (.slice (some ⟨b, o, none⟩) len c) len cs → Rd W size (.slice A' (len - m) (c - m)) (len - m) (cs.drop (m * size))) := by
  have he : P.elem t = e := by simp [Program.elem, ht]
  have hrun := fun W => run_slice_l (P := P) (w := W) t (some ⟨b, o, none⟩) len c (by rw [he]; exact ht) .i64 (m : Int) (by omega) (by omega)
  rw [he] at hrun
  simp only [hz, Result.andThen_ok, Int.toNat_natCast] at hrun
  refine ⟨some (if c = m then ⟨b, o, none⟩ else (⟨b, o, none⟩ : Addr).add (m * size)), fun W => by rw [hrun]; simp [sliced]; split <;> rfl, fun W cs h => ?_⟩
  obtain ⟨h1, A', c', h2, h3, h4, h5⟩ := h
  injection h2 with e1 e2 e3
  have hle : m * size ≤ len * size := Nat.mul_le_mul_right _ hm
  refine ⟨by rw [List.length_drop, h1, Nat.sub_mul], _, c - m, rfl, by omega, by omega, fun h0 => ?_⟩
  obtain ⟨b', o', hA, hb, hc'⟩ := h5 (by omega)
  rw [← e1] at hA
  injection hA with hA
  injection hA with hA1 hA2 _
  subst hA1 hA2
  rw [if_neg (by omega), add_at]
  exact ⟨b, o + m * size, rfl, hb, fun j u hu => by
    rw [List.getElem?_drop] at hu
    have := hc' _ _ hu
    rwa [← Nat.add_assoc] at this⟩
theorem tail_steps {b o cl : Nat} {r : List Sp} {sp : Sp} {w : World} (h : Rd w 3 (.slice (some ⟨b, o, none⟩) (r.length + 1) cl) (r.length + 1) (stc (sp :: r))) :
    ∃ AL cm, (∀ W, (Instr.slice 28 (.slice (some ⟨b, o, none⟩) (r.length + 1) cl) (some (.int .i64 1)) none none).run Tryz.prog W = .ok (.slice AL r.length cm) W) ∧ Rd w 3 (.slice AL r.length cm) r.length (stc r) := by
  obtain ⟨A', c', hv, hlc, hcm⟩ := h.shape
  injection hv with _ _ e3
  subst e3
  obtain ⟨AL, hrun, hrd⟩ := tail_ofS (P := Tryz.prog) 28 51 3 Tryz.underlying28 (fun W => by kernel_rfl) b o (r.length + 1) cl 1 (by omega) hlc
  exact ⟨AL, cl - 1, hrun, hrd w _ h⟩
theorem put_found (E : Nat → Prop) (kk n : Int) (s : ByteArray) (ns : List ByteArray) (is : List J) (tx tr : J) (ad : Bool) (v vx : Value) (sp : Sp) (r : List Sp) (bl ol cl k1 : Nat) (w : World) (hE : ∀ x, E x → x < w.heap.size) (hj : JN E w (.mk kk n s ns is) v) (hx : JN E w tx vx)
    (h8 : is.length ≤ 8) (hn8 : ns.length ≤ 8) (hi : k1 < is.length) (hK : fI (.mk kk n s ns is) sp = (k1 : Int)) (hl : Rd w 3 (.slice (some ⟨bl, ol, none⟩) (r.length + 1) cl) (r.length + 1) (stc (sp :: r))) (hr4 : r.length ≤ 4)
    (IH : ∀ (W : World) (A0 : Option Addr) (c0 : Nat) (v vx : Value), Below w.heap.size w W → JN E W is[k1] v → JN E W tx vx → Rd W 3 (.slice A0 r.length c0) r.length (stc r) → Calls Tryz.prog 11 #[v, .slice A0 r.length c0, vx, .bool true, .bool ad] W (OutP E tr W)) :
    Calls Tryz.prog 11 #[v, .slice (some ⟨bl, ol, none⟩) (r.length + 1) cl, vx, .bool true, .bool ad] w (OutP E (.mk kk n s ns (is.set k1 tr)) w) := by
  have hj0 := hj
  obtain ⟨A, c, A2, c2, hs, rfl, hn, hI, hH⟩ := hj0
  obtain ⟨C, d, C2, d2, rfl, _⟩ := hx.five
  obtain ⟨b2, o2, A1, c1, A3, c3, ea, hb2, x0, x1, x2, x3, x4, hjt⟩ := row_item hI.1 hH rfl k1 hi
  have ea : A2 = some ⟨b2, o2, none⟩ := ea
  subst ea
  obtain ⟨AL, cm, htl, hrest⟩ := tail_steps hl
  obtain ⟨bl', ol', ea, hbl, l0, l1, l2⟩ := st_at (l := sp :: r) hl 0 (by simp)
  (injection ea with ea); (injection ea with ea1 ea2 _); subst ea1; subst ea2
  rw [Nat.zero_mul, Nat.add_zero] at l0 l1 l2
  simp only [List.getElem_cons_zero] at l0 l1 l2
  generalize hti : is[k1] = ti at *
  have HA := Lib.hid (old_blk (o := .cells #[.int .i64 0, .int .i64 0, .string ⟨#[]⟩, .slice none 0 0, .slice none 0 0] 26) (old_blk (o := .cells #[.int .i64 tx.k, .int .i64 tx.n, .string tx.s, .slice C tx.ns.length d, .slice C2 tx.is.length d2] 26) (heap_alloc_new w (.cells #[.int .i64 kk, .int .i64 n, .string s, .slice A ns.length c, .slice (some ⟨b2, o2, none⟩) is.length c2] 26))))
  have HXB := Lib.hid (old_blk (o := .cells #[.int .i64 0, .int .i64 0, .string ⟨#[]⟩, .slice none 0 0, .slice none 0 0] 26) (show ((w.alloc (.cells #[.int .i64 kk, .int .i64 n, .string s, .slice A ns.length c, .slice (some ⟨b2, o2, none⟩) is.length c2] 26)).alloc (.cells #[.int .i64 tx.k, .int .i64 tx.n, .string tx.s, .slice C tx.ns.length d, .slice C2 tx.is.length d2] 26)).heap[w.heap.size + 1]? = some (.cells #[.int .i64 tx.k, .int .i64 tx.n, .string tx.s, .slice C tx.ns.length d, .slice C2 tx.is.length d2] 26 (0, 0)) from by
    have := heap_alloc_new (w.alloc (.cells #[.int .i64 kk, .int .i64 n, .string s, .slice A ns.length c, .slice (some ⟨b2, o2, none⟩) is.length c2] 26)) (.cells #[.int .i64 tx.k, .int .i64 tx.n, .string tx.s, .slice C tx.ns.length d, .slice C2 tx.is.length d2] 26)
    simpa using this))
  have HZ := Lib.hid (show (((w.alloc (.cells #[.int .i64 kk, .int .i64 n, .string s, .slice A ns.length c, .slice (some ⟨b2, o2, none⟩) is.length c2] 26)).alloc (.cells #[.int .i64 tx.k, .int .i64 tx.n, .string tx.s, .slice C tx.ns.length d, .slice C2 tx.is.length d2] 26)).alloc (.cells #[.int .i64 0, .int .i64 0, .string ⟨#[]⟩, .slice none 0 0, .slice none 0 0] 26)).heap[w.heap.size + 1 + 1]? = some (.cells #[.int .i64 0, .int .i64 0, .string ⟨#[]⟩, .slice none 0 0, .slice none 0 0] 26 (0, 0)) from by
    have := heap_alloc_new ((w.alloc (.cells #[.int .i64 kk, .int .i64 n, .string s, .slice A ns.length c, .slice (some ⟨b2, o2, none⟩) is.length c2] 26)).alloc (.cells #[.int .i64 tx.k, .int .i64 tx.n, .string tx.s, .slice C tx.ns.length d, .slice C2 tx.is.length d2] 26)) (.cells #[.int .i64 0, .int .i64 0, .string ⟨#[]⟩, .slice none 0 0, .slice none 0 0] 26)
    simpa using this)
  have hX : Below w.heap.size w (((w.alloc (.cells #[.int .i64 kk, .int .i64 n, .string s, .slice A ns.length c, .slice (some ⟨b2, o2, none⟩) is.length c2] 26)).alloc (.cells #[.int .i64 tx.k, .int .i64 tx.n, .string tx.s, .slice C tx.ns.length d, .slice C2 tx.is.length d2] 26)).alloc (.cells #[.int .i64 0, .int .i64 0, .string ⟨#[]⟩, .slice none 0 0, .slice none 0 0] 26)) := (((Below.refl _ _).alloc (Nat.le_refl _) _).alloc (by simp) _).alloc (by simp; omega) _
  have HXS := Lib.hid (show w.heap.size + 1 + 1 + 1 ≤ (((w.alloc (.cells #[.int .i64 kk, .int .i64 n, .string s, .slice A ns.length c, .slice (some ⟨b2, o2, none⟩) is.length c2] 26)).alloc (.cells #[.int .i64 tx.k, .int .i64 tx.n, .string tx.s, .slice C tx.ns.length d, .slice C2 tx.is.length d2] 26)).alloc (.cells #[.int .i64 0, .int .i64 0, .string ⟨#[]⟩, .slice none 0 0, .slice none 0 0] 26)).heap.size by simp)
  have HX := Lib.hid hX
  have HJ := Lib.hid hj
  have HJX := Lib.hid hx
  have HTL := Lib.hid htl
  have HLW := Lib.hid (fun (W : World) (hb : Below w.heap.size w W) => show W.cell? ⟨bl, ol, none⟩ = some (.string sp.x) ∧ W.cell? ⟨bl, ol + 1, none⟩ = some (.int .i64 (sp.i : Int)) ∧ W.cell? ⟨bl, ol + 2, none⟩ = some (.bool sp.b) from
    ⟨(hb.cell (p := ⟨bl, ol, none⟩) hbl).trans l0, (hb.cell (p := ⟨bl, ol + 1, none⟩) hbl).trans l1, (hb.cell (p := ⟨bl, ol + 2, none⟩) hbl).trans l2⟩)
  have ITW := Lib.hid (fun (W : World) (hb : Below w.heap.size w W) => show W.cell? ⟨b2, o2 + k1 * 5, none⟩ = some (.int .i64 ti.k) ∧ W.cell? ⟨b2, o2 + k1 * 5 + 1, none⟩ = some (.int .i64 ti.n) ∧ W.cell? ⟨b2, o2 + k1 * 5 + 2, none⟩ = some (.string ti.s) ∧ W.cell? ⟨b2, o2 + k1 * 5 + 3, none⟩ = some (.slice A1 ti.ns.length c1) ∧ W.cell? ⟨b2, o2 + k1 * 5 + 4, none⟩ = some (.slice A3 ti.is.length c3) from
    ⟨(hb.cell (p := ⟨b2, o2 + k1 * 5, none⟩) hb2).trans x0, (hb.cell (p := ⟨b2, o2 + k1 * 5 + 1, none⟩) hb2).trans x1, (hb.cell (p := ⟨b2, o2 + k1 * 5 + 2, none⟩) hb2).trans x2, (hb.cell (p := ⟨b2, o2 + k1 * 5 + 3, none⟩) hb2).trans x3, (hb.cell (p := ⟨b2, o2 + k1 * 5 + 4, none⟩) hb2).trans x4⟩)
  have HIL := Lib.hid hi
  have FIW := Lib.hid (fun (W : World) (hb : Below w.heap.size w W) => show Calls Tryz.prog 24 #[.agg #[.int .i64 kk, .int .i64 n, .string s, .slice A ns.length c, .slice (some ⟨b2, o2, none⟩) is.length c2], .agg #[.string sp.x, .int .i64 (sp.i : Int), .bool sp.b]] W fun e w' => e = .returned (.int .i64 (k1 : Int)) ∧ Below W.heap.size W w' from by
    have h := find_sp (.mk kk n s ns is) _ _ sp W (hj.below hb) hn8 h8
    rwa [hK] at h)
  have PNW := Lib.hid (fun (W : World) (hb : Below w.heap.size w W) => IH W AL cm (.agg #[.int .i64 ti.k, .int .i64 ti.n, .string ti.s, .slice A1 ti.ns.length c1, .slice A3 ti.is.length c3]) (.agg #[.int .i64 tx.k, .int .i64 tx.n, .string tx.s, .slice C tx.ns.length d, .slice C2 tx.is.length d2]) hb (hjt.below hb) (hx.below hb) (hrest.below hb))
  have hn1 : decide ((r.length : Int) + 1 = 0) = false := decide_eq_false (by omega)
  clear hj hx hn hI hH hX x0 x1 x2 x3 x4 hjt hl l0 l1 l2 hK IH htl hrest hti
  go_enter Tryz.func11, Tryz.ntmps11
  go_upto_region 5 with fail
  generalize ((w.alloc (.cells #[.int .i64 kk, .int .i64 n, .string s, .slice A ns.length c, .slice (some ⟨b2, o2, none⟩) is.length c2] 26)).alloc (.cells #[.int .i64 tx.k, .int .i64 tx.n, .string tx.s, .slice C tx.ns.length d, .slice C2 tx.is.length d2] 26)).alloc (.cells #[.int .i64 0, .int .i64 0, .string ⟨#[]⟩, .slice none 0 0, .slice none 0 0] 26) = X at *
  have hga := Rv.lt_of_blk HA.out
  have FI := Lib.hid (fun (W : World) (hb : Below X.heap.size X W) => FIW.out W (HX.out.trans (hb.mono HX.out.size)))
  have HL := Lib.hid (fun (W : World) (hb : Below X.heap.size X W) => HLW.out W (HX.out.trans (hb.mono HX.out.size)))
  generalize hKi : (k1 : Int) = K at FI
  refine Rv.region_goods (n := 102) (by kernel_rfl) #[21, 22, 23, 24, 25, 12] #[] (fun i v W => v = (#[.agg #[.int .i64 kk, .int .i64 n, .string s, .slice A ns.length c, .slice (some ⟨b2, o2, none⟩) is.length c2], .slice (some ⟨bl, ol, none⟩) (r.length + 1) cl, .pointer (some ⟨bl, ol, none⟩), .agg #[.string sp.x, .int .i64 (sp.i : Int), .bool sp.b], .int .i64 K, .int .i64 K] : Array Value).getD i undef) (fun i v w w' h hb => ?_) (fun i h g b hg => ?_) rfl (by kernel_rfl) (by kernel_rfl) (fun i h hr w => ?_) ?_ ?_
  · exact h
  · match i, h, hg with
    | 0, _, hg => cases hg
    | 1, _, hg => cases hg
    | 2, _, hg => cases hg
    | 3, _, hg => cases hg
    | 4, _, hg => cases hg
    | 5, _, hg => cases hg
    | m + 6, h, _ => exact absurd h (by show ¬ m + 6 < 6; omega)
  · match i, h, hr with
    | 0, _, hr => exact Bool.noConfusion (show true = false from hr)
    | 1, _, hr => exact Bool.noConfusion (show true = false from hr)
    | 2, _, hr => exact Bool.noConfusion (show true = false from hr)
    | 3, _, hr => exact Bool.noConfusion (show true = false from hr)
    | 4, _, hr => exact Bool.noConfusion (show true = false from hr)
    | 5, _, hr => exact Bool.noConfusion (show true = false from hr)
    | m + 6, h, _ => exact absurd h (by show ¬ m + 6 < 6; omega)
  · intro i h a W hrun hbase hpre hdep htr
    obtain ⟨y0, y1, y2, y3, y4⟩ := Rv.cells5 ((htr.block _ hga).trans HA.out)
    obtain ⟨l0, l1, l2⟩ := HL.out W htr
    match i, h with
    | 0, _ =>
      obtain ⟨e5, x5⟩ := Rv.ev (show a.tmps.getD 5 undef = .pointer (some ⟨w.heap.size, 0, none⟩) from hbase 5 rfl)
      exact Rv.step_op (op := Go.Op.load 26 (Go.Operand.tmp 5)) (v := .agg #[.int .i64 kk, .int .i64 n, .string s, .slice A ns.length c, .slice (some ⟨b2, o2, none⟩) is.length c2]) (w1 := W) rfl rfl (fun d pos aft g => by unfold execOp; go_simp) ⟨_, rfl, rfl, Below.refl _ _⟩
    | 1, _ =>
      obtain ⟨e1, x1⟩ := Rv.ev (show a.tmps.getD 1 undef = .slice (some ⟨bl, ol, none⟩) (r.length + 1) cl from hbase 1 rfl)
      exact Rv.step_op (op := Go.Op.move (Go.Operand.tmp 1)) (v := .slice (some ⟨bl, ol, none⟩) (r.length + 1) cl) (w1 := W) rfl rfl (fun d pos aft g => by unfold execOp; go_simp) ⟨_, rfl, rfl, Below.refl _ _⟩
    | 2, _ =>
      obtain ⟨e22, x22⟩ := Rv.ev (show a.tmps.getD 22 undef = .slice (some ⟨bl, ol, none⟩) (r.length + 1) cl from hdep 1 rfl)
      exact Rv.step_op (op := Go.Op.indexAddr 28 (Go.Operand.tmp 22) (Go.Operand.const (Go.Value.int Go.IntKind.i64 0))) (v := .pointer (some ⟨bl, ol, none⟩)) (w1 := W) rfl rfl (fun d pos aft g => by unfold execOp; go_simp) ⟨_, rfl, rfl, Below.refl _ _⟩
    | 3, _ =>
      obtain ⟨e23, x23⟩ := Rv.ev (show a.tmps.getD 23 undef = .pointer (some ⟨bl, ol, none⟩) from hdep 2 rfl)
      exact Rv.step_op (op := Go.Op.load 51 (Go.Operand.tmp 23)) (v := .agg #[.string sp.x, .int .i64 (sp.i : Int), .bool sp.b]) (w1 := W) rfl rfl (fun d pos aft g => by unfold execOp; go_simp) ⟨_, rfl, rfl, Below.refl _ _⟩
    | 4, _ =>
      obtain ⟨e21, x21⟩ := Rv.ev (show a.tmps.getD 21 undef = .agg #[.int .i64 kk, .int .i64 n, .string s, .slice A ns.length c, .slice (some ⟨b2, o2, none⟩) is.length c2] from hdep 0 rfl)
      obtain ⟨e24, x24⟩ := Rv.ev (show a.tmps.getD 24 undef = .agg #[.string sp.x, .int .i64 (sp.i : Int), .bool sp.b] from hdep 3 rfl)
      have cf : ∀ x0 x1 W, (callFunc 24 #[x0, x1]).run Tryz.prog W = .ok (.enter 24 #[x0, x1]) W := fun _ _ _ => by kernel_rfl
      refine Rv.step_fn (op := Go.Op.call { callee := Go.Callee.value (Go.Operand.func 24), args := #[Go.Operand.tmp 21, Go.Operand.tmp 24], argTypes := #[26, 51] }) (f := 24) (args := #[.agg #[.int .i64 kk, .int .i64 n, .string s, .slice A ns.length c, .slice (some ⟨b2, o2, none⟩) is.length c2], .agg #[.string sp.x, .int .i64 (sp.i : Int), .bool sp.b]]) (R := fun v W' => v = .int .i64 K ∧ Below W.heap.size W W') rfl rfl (fun d pos aft g => by unfold execOp; go_simp) ((FI.out W htr).mono ?_) ?_
      · (rintro e W' ⟨rfl, hb⟩; exact ⟨_, rfl, rfl, hb⟩)
      · (rintro v W' ⟨rfl, hb⟩; exact ⟨_, rfl, rfl, hb⟩)
    | 5, _ =>
      obtain ⟨e25, x25⟩ := Rv.ev (show a.tmps.getD 25 undef = .int .i64 K from hdep 4 rfl)
      exact Rv.step_op (op := Go.Op.assign (Go.Operand.tmp 25)) (v := .int .i64 K) (w1 := W) rfl rfl (fun d pos aft g => by unfold execOp; go_simp) ⟨_, rfl, rfl, Below.refl _ _⟩
    | m + 6, h => exact absurd h (by show ¬ m + 6 < 6; omega)
  intro W f hf htr
  have f0 : f 0 = .agg #[.int .i64 kk, .int .i64 n, .string s, .slice A ns.length c, .slice (some ⟨b2, o2, none⟩) is.length c2] := hf 0 (by show 0 < 6; omega)
  have f1 : f 1 = .slice (some ⟨bl, ol, none⟩) (r.length + 1) cl := hf 1 (by show 1 < 6; omega)
  have f2 : f 2 = .pointer (some ⟨bl, ol, none⟩) := hf 2 (by show 2 < 6; omega)
  have f3 : f 3 = .agg #[.string sp.x, .int .i64 (sp.i : Int), .bool sp.b] := hf 3 (by show 3 < 6; omega)
  have f4 : f 4 = .int .i64 K := hf 4 (by show 4 < 6; omega)
  have f5 : f 5 = .int .i64 K := hf 5 (by show 5 < 6; omega)
  refine (show ∀ (a : Act) (w : World), Code.wp _ _ _ a w → _ from by assumption) _ _ ?_
  refine Rv.fin_swap (L' := [(21, f 0), (22, f 1), (23, f 2), (24, f 3), (25, f 4), (12, f 5)]) rfl ?_
  rw [f0, f1, f2, f3, f4, f5]
  clear f0 f1 f2 f3 f4 f5
  simp only [Rv.fin, List.foldl_cons, List.foldl_nil, Act.put, List.setIfInBounds_toArray, List.set_cons_succ, List.set_cons_zero]
  subst hKi
  have HX := Lib.hid (HX.out.trans (htr.mono HX.out.size))
  have HA := Lib.hid ((htr.block _ hga).trans HA.out)
  have HXB := Lib.hid ((htr.block _ (Rv.lt_of_blk HXB.out)).trans HXB.out)
  have HZ := Lib.hid ((htr.block _ (Rv.lt_of_blk HZ.out)).trans HZ.out)
  have HXS := Lib.hid (Nat.le_trans HXS.out htr.size)
  clear hf htr FI HL hga FIW
  go_upto_region 7 with fail
  rename World => X1
  generalize X1 = X at *
  have hga := Rv.lt_of_blk HA.out
  have hgb := Rv.lt_of_blk HXB.out
  have hgz := Rv.lt_of_blk HZ.out
  have IT := Lib.hid (fun (W : World) (hb : Below X.heap.size X W) => ITW.out W (HX.out.trans (hb.mono HX.out.size)))
  have PN := Lib.hid (fun (W : World) (hb : Below X.heap.size X W) => PNW.out W (HX.out.trans (hb.mono HX.out.size)))
  have HXS2 := HXS.out
  have HXS := Lib.hid (show w.heap.size ≤ X.heap.size by omega)
  refine Rv.region_fin (n := 102) (by kernel_rfl) #[29, 30, 31, 32, 33, 34, 35, 36, 37, 38, 39, 28, 40, 41, 13, 1015, 14] #[] (fun i f W => if i = 16 then (fun f W => ∃ c : Bool, f 16 = .bool c) f W else if i = 15 then (fun f W => ∃ (g : Nat) (A5 : Option Addr) (c5 : Nat) (A6 : Option Addr) (c6 : Nat), f 14 = .pointer (some ⟨g, 0, none⟩) ∧ W.heap[g]? = some (.cells #[.int .i64 tr.k, .int .i64 tr.n, .string tr.s, .slice A5 tr.ns.length c5, .slice A6 tr.is.length c6] 26 (0, 0)) ∧ X.heap.size ≤ g ∧ JN (fun x => E x ∨ X.heap.size ≤ x) W tr (.agg #[.int .i64 tr.k, .int .i64 tr.n, .string tr.s, .slice A5 tr.ns.length c5, .slice A6 tr.is.length c6])) f W else if i = 14 then (fun f W => ∃ (g : Nat), f 14 = .pointer (some ⟨g, 0, none⟩) ∧ W.heap[g]? = some (.cells #[.int .i64 0, .int .i64 0, .string ⟨#[]⟩, .slice none 0 0, .slice none 0 0] 26 (0, 0)) ∧ X.heap.size ≤ g) f W else if i = 13 then (fun f W => ∃ (u : Value) (c : Bool), f 11 = .tuple #[u, .bool c] ∧ f 13 = .bool c) f W else if i = 12 then (fun f W => ∃ (u : Value) (c : Bool), f 11 = .tuple #[u, .bool c] ∧ f 12 = u) f W else if i = 11 then (fun f W => ∃ (u : Value) (c : Bool), f 10 = .tuple #[u, .bool c] ∧ f 11 = f 10) f W else if i = 10 then (fun f W => ∃ (u : Value) (c : Bool), f 10 = .tuple #[u, .bool c]) f W else f i = (#[.pointer (some ⟨w.heap.size, 4, none⟩), .slice (some ⟨b2, o2, none⟩) is.length c2, .int .i64 (k1 : Int), .pointer (some ⟨b2, o2 + k1 * 5, none⟩), .agg #[.int .i64 ti.k, .int .i64 ti.n, .string ti.s, .slice A1 ti.ns.length c1, .slice A3 ti.is.length c3], .slice (some ⟨bl, ol, none⟩) (r.length + 1) cl, .slice AL r.length cm, .agg #[.int .i64 tx.k, .int .i64 tx.n, .string tx.s, .slice C tx.ns.length d, .slice C2 tx.is.length d2], .bool true, .bool ad, undef, undef, undef, undef, undef, undef, undef] : Array Value).getD i undef) (fun i j => (i == 15 && (j == 14))) (fun i => i == 15) (fun i f W W' => True) (fun W => Below X.heap.size X W) (fun _ => True) (Mp (fun x => E x ∨ X.heap.size ≤ x) tr X.heap.size) (Mp.loc (by show 14 < 17; omega)) (fun i f f' w hi h hd hg => ?_) (fun i j f w w' hi hj hij hK hdp h hr => ?_) (fun i h g b hg => ?_) rfl (by kernel_rfl) (fun i h g b hg => ?_) ((Below.refl _ _).drew) (trivial) (fun f => ⟨fun h => (by cases h), fun h => (by cases h)⟩) (fun i h hr f w hf => ?_) (fun i h hr => absurd hr (Rv.allrun (by kernel_rfl) i h)) ?_ ?_
  · by_cases hi14 : i = 16
    · subst hi14
      rw [if_pos rfl] at hg ⊢
      obtain ⟨c, q⟩ := hg
      exact ⟨c, h.symm.trans q⟩
    rw [if_neg hi14] at hg ⊢
    by_cases hi1015 : i = 15
    · subst hi1015
      rw [if_pos rfl] at hg ⊢
      obtain ⟨g, A5, c5, A6, c6, q1, q2⟩ := hg
      exact ⟨g, A5, c5, A6, c6, (hd 14 rfl).symm.trans q1, q2⟩
    rw [if_neg hi1015] at hg ⊢
    by_cases hi13 : i = 14
    · subst hi13
      rw [if_pos rfl] at hg ⊢
      obtain ⟨g, q1, q2⟩ := hg
      exact ⟨g, h.symm.trans q1, q2⟩
    rw [if_neg hi13] at hg ⊢
    by_cases hi41 : i = 13
    · subst hi41
      rw [if_pos rfl] at hg ⊢
      obtain ⟨u, c, q1, q2⟩ := hg
      exact ⟨u, c, (hd 11 rfl).symm.trans q1, h.symm.trans q2⟩
    rw [if_neg hi41] at hg ⊢
    by_cases hi40 : i = 12
    · subst hi40
      rw [if_pos rfl] at hg ⊢
      obtain ⟨u, c, q1, q2⟩ := hg
      exact ⟨u, c, (hd 11 rfl).symm.trans q1, h.symm.trans q2⟩
    rw [if_neg hi40] at hg ⊢
    by_cases hi28 : i = 11
    · subst hi28
      rw [if_pos rfl] at hg ⊢
      obtain ⟨u, c, q1, q2⟩ := hg
      exact ⟨u, c, (hd 10 rfl).symm.trans q1, h.symm.trans (q2.trans (hd 10 rfl))⟩
    rw [if_neg hi28] at hg ⊢
    by_cases hi39 : i = 10
    · subst hi39
      rw [if_pos rfl] at hg ⊢
      obtain ⟨u, c, q⟩ := hg
      exact ⟨u, c, h.symm.trans q⟩
    rw [if_neg hi39] at hg ⊢
    rw [← h]; exact hg
  · by_cases hj14 : j = 16
    · subst hj14
      rw [if_pos rfl] at h ⊢
      exact h
    rw [if_neg hj14] at h ⊢
    by_cases hj1015 : j = 15
    · subst hj1015
      rw [if_pos rfl] at h ⊢
      rcases hr with ⟨hK1, hr⟩ | hr
      · have e : i = 15 := by simpa using hK1
        exact absurd e hij
      · obtain ⟨g, A5, c5, A6, c6, e, h1, h2, h3⟩ := h
        exact ⟨g, A5, c5, A6, c6, e, (hr.block _ (Rv.lt_of_blk h1)).trans h1, h2, h3.below hr⟩
    rw [if_neg hj1015] at h ⊢
    by_cases hj13 : j = 14
    · subst hj13
      rw [if_pos rfl] at h ⊢
      rcases hr with ⟨hK1, hr⟩ | hr
      · have e : i = 15 := by simpa using hK1
        subst e; exfalso; revert hK; decide
      · obtain ⟨g, e, h1, h2⟩ := h
        exact ⟨g, e, (hr.block _ (Rv.lt_of_blk h1)).trans h1, h2⟩
    rw [if_neg hj13] at h ⊢
    by_cases hj41 : j = 13
    · subst hj41
      rw [if_pos rfl] at h ⊢
      exact h
    rw [if_neg hj41] at h ⊢
    by_cases hj40 : j = 12
    · subst hj40
      rw [if_pos rfl] at h ⊢
      exact h
    rw [if_neg hj40] at h ⊢
    by_cases hj28 : j = 11
    · subst hj28
      rw [if_pos rfl] at h ⊢
      exact h
    rw [if_neg hj28] at h ⊢
    by_cases hj39 : j = 10
    · subst hj39
      rw [if_pos rfl] at h ⊢
      exact h
    rw [if_neg hj39] at h ⊢
    exact h
  · match i, h, hg with
    | 0, _, hg => cases hg
    | 1, _, hg => cases hg
    | 2, _, hg => cases hg
    | 3, _, hg => cases hg
    | 4, _, hg => cases hg
    | 5, _, hg => cases hg
    | 6, _, hg => cases hg
    | 7, _, hg => cases hg
    | 8, _, hg => cases hg
    | 9, _, hg => cases hg
    | 10, _, hg => cases hg
    | 11, _, hg => cases hg
    | 12, _, hg => cases hg
    | 13, _, hg => cases hg
    | 14, _, hg => cases hg
    | 15, _, hg => cases hg
    | 16, _, hg => cases hg
    | m + 17, h, _ => exact absurd h (by show ¬ m + 17 < 17; omega)
  · match i, h, hg with
    | 0, _, hg => cases hg
    | 1, _, hg => cases hg
    | 2, _, hg => cases hg
    | 3, _, hg => cases hg
    | 4, _, hg => cases hg
    | 5, _, hg => cases hg
    | 6, _, hg => cases hg
    | 7, _, hg => cases hg
    | 8, _, hg => cases hg
    | 9, _, hg => cases hg
    | 10, _, hg => cases hg
    | 11, _, hg => cases hg
    | 12, _, hg => cases hg
    | 13, _, hg => cases hg
    | 14, _, hg => cases hg
    | 15, _, hg => cases hg
    | 16, _, hg => cases hg
    | m + 17, h, _ => exact absurd h (by show ¬ m + 17 < 17; omega)
  · match i, h, hr, hf with
    | 0, _, hr, _ => exact Bool.noConfusion (show true = false from hr)
    | 1, _, hr, _ => exact Bool.noConfusion (show true = false from hr)
    | 2, _, hr, _ => exact Bool.noConfusion (show true = false from hr)
    | 3, _, hr, _ => exact Bool.noConfusion (show true = false from hr)
    | 4, _, hr, _ => exact Bool.noConfusion (show true = false from hr)
    | 5, _, hr, _ => exact Bool.noConfusion (show true = false from hr)
    | 6, _, hr, _ => exact Bool.noConfusion (show true = false from hr)
    | 7, _, hr, _ => exact Bool.noConfusion (show true = false from hr)
    | 8, _, hr, _ => exact Bool.noConfusion (show true = false from hr)
    | 9, _, hr, _ => exact Bool.noConfusion (show true = false from hr)
    | 10, _, hr, _ => exact Bool.noConfusion (show true = false from hr)
    | 11, _, hr, _ => exact Bool.noConfusion (show true = false from hr)
    | 12, _, hr, _ => exact Bool.noConfusion (show true = false from hr)
    | 13, _, hr, _ => exact Bool.noConfusion (show true = false from hr)
    | 14, _, hr, _ => exact Bool.noConfusion (show true = false from hr)
    | 15, _, hr, _ => exact Bool.noConfusion (show true = false from hr)
    | 16, _, hr, _ => exact Bool.noConfusion (show true = false from hr)
    | m + 17, h, _, _ => exact absurd h (by show ¬ m + 17 < 17; omega)
  · intro i h a W hrun hbase hpre hdep htr hta hJ
    obtain ⟨y0, y1, y2, y3, y4⟩ := Rv.cells5 ((htr.block _ hga).trans HA.out)
    obtain ⟨x0, x1, x2, x3, x4⟩ := Rv.cells5 ((htr.block _ hgb).trans HXB.out)
    obtain ⟨j0, j1, j2, j3, j4⟩ := IT.out W htr
    have hil := HIL.out
    match i, h with
    | 0, _ =>
      obtain ⟨e5, x5⟩ := Rv.ev (show a.tmps.getD 5 undef = .pointer (some ⟨w.heap.size, 0, none⟩) from hbase 5 rfl)
      exact Rv.step_op (op := Go.Op.fieldAddr 26 (Go.Operand.tmp 5) 4) (v := .pointer (some ⟨w.heap.size, 4, none⟩)) (w1 := W) rfl rfl (fun d pos aft g => by unfold execOp; go_simp) ⟨_, rfl, rfl, .inr (Below.refl _ _), htr, fun _ ht => ht, fun L _ hJ => Mp.keep (by decide) (by decide) _ (Below.refl _ _) hJ⟩
    | 1, _ =>
      obtain ⟨e29, x29⟩ := Rv.ev (show a.tmps.getD 29 undef = .pointer (some ⟨w.heap.size, 4, none⟩) from hdep 0 rfl rfl)
      exact Rv.step_op (op := Go.Op.load 24 (Go.Operand.tmp 29)) (v := .slice (some ⟨b2, o2, none⟩) is.length c2) (w1 := W) rfl rfl (fun d pos aft g => by unfold execOp; go_simp) ⟨_, rfl, rfl, .inr (Below.refl _ _), htr, fun _ ht => ht, fun L _ hJ => Mp.keep (by decide) (by decide) _ (Below.refl _ _) hJ⟩
    | 2, _ =>
      obtain ⟨e12, x12⟩ := Rv.ev (show a.tmps.getD 12 undef = .int .i64 (k1 : Int) from hbase 12 rfl)
      exact Rv.step_op (op := Go.Op.move (Go.Operand.tmp 12)) (v := .int .i64 (k1 : Int)) (w1 := W) rfl rfl (fun d pos aft g => by unfold execOp; go_simp) ⟨_, rfl, rfl, .inr (Below.refl _ _), htr, fun _ ht => ht, fun L _ hJ => Mp.keep (by decide) (by decide) _ (Below.refl _ _) hJ⟩
    | 3, _ =>
      obtain ⟨e30, x30⟩ := Rv.ev (show a.tmps.getD 30 undef = .slice (some ⟨b2, o2, none⟩) is.length c2 from hdep 1 rfl rfl)
      obtain ⟨e31, x31⟩ := Rv.ev (show a.tmps.getD 31 undef = .int .i64 (k1 : Int) from hdep 2 rfl rfl)
      exact Rv.step_op (op := Go.Op.indexAddr 24 (Go.Operand.tmp 30) (Go.Operand.tmp 31)) (v := .pointer (some ⟨b2, o2 + k1 * 5, none⟩)) (w1 := W) rfl rfl (fun d pos aft g => by unfold execOp; go_simp) ⟨_, rfl, rfl, .inr (Below.refl _ _), htr, fun _ ht => ht, fun L _ hJ => Mp.keep (by decide) (by decide) _ (Below.refl _ _) hJ⟩
    | 4, _ =>
      obtain ⟨e32, x32⟩ := Rv.ev (show a.tmps.getD 32 undef = .pointer (some ⟨b2, o2 + k1 * 5, none⟩) from hdep 3 rfl rfl)
      exact Rv.step_op (op := Go.Op.load 26 (Go.Operand.tmp 32)) (v := .agg #[.int .i64 ti.k, .int .i64 ti.n, .string ti.s, .slice A1 ti.ns.length c1, .slice A3 ti.is.length c3]) (w1 := W) rfl rfl (fun d pos aft g => by unfold execOp; go_simp) ⟨_, rfl, rfl, .inr (Below.refl _ _), htr, fun _ ht => ht, fun L _ hJ => Mp.keep (by decide) (by decide) _ (Below.refl _ _) hJ⟩
    | 5, _ =>
      obtain ⟨e1, x1⟩ := Rv.ev (show a.tmps.getD 1 undef = .slice (some ⟨bl, ol, none⟩) (r.length + 1) cl from hbase 1 rfl)
      exact Rv.step_op (op := Go.Op.move (Go.Operand.tmp 1)) (v := .slice (some ⟨bl, ol, none⟩) (r.length + 1) cl) (w1 := W) rfl rfl (fun d pos aft g => by unfold execOp; go_simp) ⟨_, rfl, rfl, .inr (Below.refl _ _), htr, fun _ ht => ht, fun L _ hJ => Mp.keep (by decide) (by decide) _ (Below.refl _ _) hJ⟩
    | 6, _ =>
      obtain ⟨e34, x34⟩ := Rv.ev (show a.tmps.getD 34 undef = .slice (some ⟨bl, ol, none⟩) (r.length + 1) cl from hdep 5 rfl rfl)
      have htl := HTL.out W
      exact Rv.step_op (op := Go.Op.slice 28 (Go.Operand.tmp 34) (some (Go.Operand.const (Go.Value.int Go.IntKind.i64 1))) none none) (v := .slice AL r.length cm) (w1 := W) rfl rfl (fun d pos aft g => by unfold execOp; go_simp) ⟨_, rfl, rfl, .inr (Below.refl _ _), htr, fun _ ht => ht, fun L _ hJ => Mp.keep (by decide) (by decide) _ (Below.refl _ _) hJ⟩
    | 7, _ =>
      obtain ⟨e7, x7⟩ := Rv.ev (show a.tmps.getD 7 undef = .pointer (some ⟨w.heap.size + 1, 0, none⟩) from hbase 7 rfl)
      exact Rv.step_op (op := Go.Op.load 26 (Go.Operand.tmp 7)) (v := .agg #[.int .i64 tx.k, .int .i64 tx.n, .string tx.s, .slice C tx.ns.length d, .slice C2 tx.is.length d2]) (w1 := W) rfl rfl (fun d pos aft g => by unfold execOp; go_simp) ⟨_, rfl, rfl, .inr (Below.refl _ _), htr, fun _ ht => ht, fun L _ hJ => Mp.keep (by decide) (by decide) _ (Below.refl _ _) hJ⟩
    | 8, _ =>
      obtain ⟨e3, x3⟩ := Rv.ev (show a.tmps.getD 3 undef = .bool true from hbase 3 rfl)
      exact Rv.step_op (op := Go.Op.move (Go.Operand.tmp 3)) (v := .bool true) (w1 := W) rfl rfl (fun d pos aft g => by unfold execOp; go_simp) ⟨_, rfl, rfl, .inr (Below.refl _ _), htr, fun _ ht => ht, fun L _ hJ => Mp.keep (by decide) (by decide) _ (Below.refl _ _) hJ⟩
    | 9, _ =>
      obtain ⟨e4, x4⟩ := Rv.ev (show a.tmps.getD 4 undef = .bool ad from hbase 4 rfl)
      exact Rv.step_op (op := Go.Op.move (Go.Operand.tmp 4)) (v := .bool ad) (w1 := W) rfl rfl (fun d pos aft g => by unfold execOp; go_simp) ⟨_, rfl, rfl, .inr (Below.refl _ _), htr, fun _ ht => ht, fun L _ hJ => Mp.keep (by decide) (by decide) _ (Below.refl _ _) hJ⟩
    | 10, _ =>
      obtain ⟨e33, x33⟩ := Rv.ev (show a.tmps.getD 33 undef = .agg #[.int .i64 ti.k, .int .i64 ti.n, .string ti.s, .slice A1 ti.ns.length c1, .slice A3 ti.is.length c3] from hdep 4 rfl rfl)
      obtain ⟨e35, x35⟩ := Rv.ev (show a.tmps.getD 35 undef = .slice AL r.length cm from hdep 6 rfl rfl)
      obtain ⟨e36, x36⟩ := Rv.ev (show a.tmps.getD 36 undef = .agg #[.int .i64 tx.k, .int .i64 tx.n, .string tx.s, .slice C tx.ns.length d, .slice C2 tx.is.length d2] from hdep 7 rfl rfl)
      obtain ⟨e37, x37⟩ := Rv.ev (show a.tmps.getD 37 undef = .bool true from hdep 8 rfl rfl)
      obtain ⟨e38, x38⟩ := Rv.ev (show a.tmps.getD 38 undef = .bool ad from hdep 9 rfl rfl)
      have cf : ∀ x0 x1 x2 x3 x4 W, (callFunc 11 #[x0, x1, x2, x3, x4]).run Tryz.prog W = .ok (.enter 11 #[x0, x1, x2, x3, x4]) W := fun _ _ _ _ _ _ => by kernel_rfl
      refine Rv.step_fn (op := Go.Op.call { callee := Go.Callee.value (Go.Operand.func 11), args := #[Go.Operand.tmp 33, Go.Operand.tmp 35, Go.Operand.tmp 36, Go.Operand.tmp 37, Go.Operand.tmp 38], argTypes := #[26, 28, 26, 4, 4] }) (ty := 39) (f := 11) (args := #[.agg #[.int .i64 ti.k, .int .i64 ti.n, .string ti.s, .slice A1 ti.ns.length c1, .slice A3 ti.is.length c3], .slice AL r.length cm, .agg #[.int .i64 tx.k, .int .i64 tx.n, .string tx.s, .slice C tx.ns.length d, .slice C2 tx.is.length d2], .bool true, .bool ad]) (R := fun v W' => (∃ (u : Value) (c : Bool), v = .tuple #[u, .bool c] ∧ JN (fun x => E x ∨ W.heap.size ≤ x) W' tr u) ∧ Below W.heap.size W W') rfl rfl (fun d pos aft g => by unfold execOp; go_simp) ((PN.out W htr).mono ?_) ?_
      · (rintro e W' ⟨u, c, rfl, h1, hb⟩; exact ⟨_, rfl, ⟨u, c, rfl, h1⟩, hb⟩)
      · (rintro v W' ⟨⟨u, c, rfl, h1⟩, hb⟩; exact ⟨_, rfl, ⟨u, c, rfl⟩, .inr hb, htr.trans (hb.mono htr.size), fun _ ht => trivial, fun L _ hJ => Mp.call hb (fun x hx => Nat.lt_of_lt_of_le (hE x hx) HXS.out) htr.size h1 hJ⟩)
    | 11, _ =>
      obtain ⟨u39, c39, q39⟩ : ∃ (u : Value) (c : Bool), a.tmps.getD 39 undef = .tuple #[u, .bool c] := hdep 10 rfl rfl
      obtain ⟨e39, x39⟩ := Rv.ev q39
      exact Rv.step_op (op := Go.Op.move (Go.Operand.tmp 39)) (ty := 39) (v := .tuple #[u39, .bool c39]) (w1 := W) rfl rfl (fun d pos aft g => by unfold execOp; go_simp) ⟨_, rfl, ⟨u39, c39, q39, q39.symm⟩, .inr (Below.refl _ _), htr, (fun _ ht => ht), fun L _ hJ => Mp.keep (by decide) (by decide) _ (Below.refl _ _) hJ⟩
    | 12, _ =>
      obtain ⟨u28, c28, q28a, q28⟩ : ∃ (u : Value) (c : Bool), a.tmps.getD 39 undef = .tuple #[u, .bool c] ∧ a.tmps.getD 28 undef = a.tmps.getD 39 undef := hdep 11 rfl rfl
      obtain ⟨e28, x28⟩ := Rv.ev (q28.trans q28a)
      exact Rv.step_op (op := Go.Op.extract (Go.Operand.tmp 28) 0) (ty := 26) (v := u28) (w1 := W) rfl rfl (fun d pos aft g => by unfold execOp; go_simp) ⟨_, rfl, ⟨u28, c28, q28.trans q28a, rfl⟩, .inr (Below.refl _ _), htr, (fun _ ht => ht), fun L _ hJ => Mp.keep (by decide) (by decide) _ (Below.refl _ _) hJ⟩
    | 13, _ =>
      obtain ⟨u28, c28, q28a, q28⟩ : ∃ (u : Value) (c : Bool), a.tmps.getD 39 undef = .tuple #[u, .bool c] ∧ a.tmps.getD 28 undef = a.tmps.getD 39 undef := hdep 11 rfl rfl
      obtain ⟨e28, x28⟩ := Rv.ev (q28.trans q28a)
      exact Rv.step_op (op := Go.Op.extract (Go.Operand.tmp 28) 1) (ty := 4) (v := .bool c28) (w1 := W) rfl rfl (fun d pos aft g => by unfold execOp; go_simp) ⟨_, rfl, ⟨u28, c28, q28.trans q28a, rfl⟩, .inr (Below.refl _ _), htr, (fun _ ht => ht), fun L _ hJ => Mp.keep (by decide) (by decide) _ (Below.refl _ _) hJ⟩
    | 14, _ =>
      have hal : Below W.heap.size W (W.alloc (.cells #[.int .i64 0, .int .i64 0, .string ⟨#[]⟩, .slice none 0 0, .slice none 0 0] 26)) := (Below.refl _ _).alloc (Nat.le_refl _) _
      exact Rv.step_op (op := Go.Op.alloc 26) (ty := 0) (v := .pointer (some ⟨W.heap.size, 0, none⟩)) (w1 := W.alloc (.cells #[.int .i64 0, .int .i64 0, .string ⟨#[]⟩, .slice none 0 0, .slice none 0 0] 26)) rfl rfl (fun d pos aft g => by unfold execOp; go_simp) ⟨_, rfl, ⟨W.heap.size, rfl, heap_alloc_new W _, htr.size⟩, .inr hal, htr.trans (hal.mono htr.size), (fun _ ht => ht), fun L _ hJ => Mp.new hal (by simp) htr.size hJ⟩
    | 15, _ =>
      obtain ⟨g, e13', k13, h13⟩ : ∃ (g : Nat), a.tmps.getD 13 undef = .pointer (some ⟨g, 0, none⟩) ∧ W.heap[g]? = some (.cells #[.int .i64 0, .int .i64 0, .string ⟨#[]⟩, .slice none 0 0, .slice none 0 0] 26 (0, 0)) ∧ X.heap.size ≤ g := hdep 14 rfl rfl
      obtain ⟨e13, x13⟩ := Rv.ev e13'
      obtain ⟨u40, c40, q40a, q40⟩ : ∃ (u : Value) (c : Bool), a.tmps.getD 28 undef = .tuple #[u, .bool c] ∧ a.tmps.getD 40 undef = u := hdep 12 rfl rfl
      obtain ⟨u28, c28, q28a, q28⟩ : ∃ (u : Value) (c : Bool), a.tmps.getD 39 undef = .tuple #[u, .bool c] ∧ a.tmps.getD 28 undef = a.tmps.getD 39 undef := hdep 11 rfl rfl
      obtain ⟨L, hL, hLd, hj0⟩ := hJ
      obtain ⟨u4, c4, q4, m4, m5⟩ := hj0.2 (hLd 10 rfl)
      have m6 := m5 (hLd 14 rfl)
      have q4 : a.tmps.getD 39 undef = .tuple #[u4, .bool c4] := q4
      have q8 : a.tmps.getD 13 undef = .pointer (some ⟨g, 0, none⟩) := e13'
      have ev : u4 = a.tmps.getD 40 undef := by rw [q28, q4] at q40a; injection q40a with q; injection q with q; simp only [List.cons.injEq] at q; exact q.1.trans q40.symm
      obtain ⟨A5, c5, A6, c6, ez, _⟩ := m6.five
      subst ez
      obtain ⟨e40, x40⟩ := Rv.ev ev.symm
      obtain ⟨s0, s1, s2, s3, s4⟩ := Rv.cells5 k13
      obtain ⟨z0, z1, z2, z3, z4⟩ := Rv.frozen5 k13
      have gs' := fun (V : World) j u => grown_set (Below.refl _ V) g j u
      have hgg := (grown_then (grown_then (grown_then (grown_then (gs' W 0 (.int .i64 tr.k)) (gs' _ 1 (.int .i64 tr.n))) (gs' _ 2 (.string tr.s))) (gs' _ 3 (.slice A5 tr.ns.length c5))) (gs' _ 4 (.slice A6 tr.is.length c6)))
      have sb : ∀ (V : World) (j : Nat) (u : Value), Below X.heap.size W V → Below X.heap.size W (V.setCell ⟨g, j, none⟩ u) := fun V j u h => h.setCell h13 u
      have hne : ∀ x, (Rv.vals (#[29, 30, 31, 32, 33, 34, 35, 36, 37, 38, 39, 28, 40, 41, 13, 1015, 14] : Array Nat) a) 14 ≠ .pointer (some ⟨x, 0, none⟩) → some x ≠ some g := fun x hx e => by injection e with e; subst e; exact hx q8
      have hnn := m6.grown hgg (fun x hx => hne x hx.2)
      have hjk := fun L' (hJ' : Mp (fun x => E x ∨ X.heap.size ≤ x) tr X.heap.size L' (Rv.vals (#[29, 30, 31, 32, 33, 34, 35, 36, 37, 38, 39, 28, 40, 41, 13, 1015, 14] : Array Nat) a) W) => Mp.store (i := 15) (by decide) (by decide) undef hgg.size q4 hnn hJ'
      clear q28 q28a q40 q40a ev q4 hj0 m5 hL hLd
      exact Rv.step_skip (op := Go.Op.store 26 (Go.Operand.tmp 13) (Go.Operand.tmp 40)) (ty := 0) (w1 := (((((W.setCell ⟨g, 0, none⟩ (.int .i64 tr.k)).setCell ⟨g, 1, none⟩ (.int .i64 tr.n)).setCell ⟨g, 2, none⟩ (.string tr.s)).setCell ⟨g, 3, none⟩ (.slice A5 tr.ns.length c5)).setCell ⟨g, 4, none⟩ (.slice A6 tr.is.length c6))) rfl rfl (fun d pos aft g => by unfold execOp; go_simp) ⟨undef, rfl, ⟨g, A5, c5, A6, c6, e13', Rv.sets5 k13 _ _ _ _ _, h13, hnn.weak (fun _ _ h => h.1)⟩, .inl ⟨rfl, trivial⟩, htr.trans (sb _ 4 (.slice A6 tr.is.length c6) (sb _ 3 (.slice A5 tr.ns.length c5) (sb _ 2 (.string tr.s) (sb _ 1 (.int .i64 tr.n) (sb _ 0 (.int .i64 tr.k) (Below.refl X.heap.size W)))))), (fun h => by cases h), fun L' _ hJ' => hjk L' hJ'⟩
    | 16, _ =>
      obtain ⟨u41, c41, q41a, q41⟩ : ∃ (u : Value) (c : Bool), a.tmps.getD 28 undef = .tuple #[u, .bool c] ∧ a.tmps.getD 41 undef = .bool c := hdep 13 rfl rfl
      obtain ⟨e41, x41⟩ := Rv.ev q41
      exact Rv.step_op (op := Go.Op.assign (Go.Operand.tmp 41)) (ty := 4) (v := .bool c41) (w1 := W) rfl rfl (fun d pos aft g => by unfold execOp; go_simp) ⟨_, rfl, ⟨c41, rfl⟩, .inr (Below.refl _ _), htr, (fun _ ht => ht), fun L _ hJ => Mp.keep (by decide) (by decide) _ (Below.refl _ _) hJ⟩
    | m + 17, h => exact absurd h (by show ¬ m + 17 < 17; omega)
  intro W f hf htr hJ
  have f0 : f 0 = .pointer (some ⟨w.heap.size, 4, none⟩) := hf 0 (by show 0 < 17; omega) rfl
  have f1 : f 1 = .slice (some ⟨b2, o2, none⟩) is.length c2 := hf 1 (by show 1 < 17; omega) rfl
  have f2 : f 2 = .int .i64 (k1 : Int) := hf 2 (by show 2 < 17; omega) rfl
  have f3 : f 3 = .pointer (some ⟨b2, o2 + k1 * 5, none⟩) := hf 3 (by show 3 < 17; omega) rfl
  have f4 : f 4 = .agg #[.int .i64 ti.k, .int .i64 ti.n, .string ti.s, .slice A1 ti.ns.length c1, .slice A3 ti.is.length c3] := hf 4 (by show 4 < 17; omega) rfl
  have f5 : f 5 = .slice (some ⟨bl, ol, none⟩) (r.length + 1) cl := hf 5 (by show 5 < 17; omega) rfl
  have f6 : f 6 = .slice AL r.length cm := hf 6 (by show 6 < 17; omega) rfl
  have f7 : f 7 = .agg #[.int .i64 tx.k, .int .i64 tx.n, .string tx.s, .slice C tx.ns.length d, .slice C2 tx.is.length d2] := hf 7 (by show 7 < 17; omega) rfl
  have f8 : f 8 = .bool true := hf 8 (by show 8 < 17; omega) rfl
  have f9 : f 9 = .bool ad := hf 9 (by show 9 < 17; omega) rfl
  have HS10 := Lib.hid (show (fun f W => ∃ (u : Value) (c : Bool), f 10 = .tuple #[u, .bool c]) f W from hf 10 (by show 10 < 17; omega) rfl)
  have HS11 := Lib.hid (show (fun f W => ∃ (u : Value) (c : Bool), f 10 = .tuple #[u, .bool c] ∧ f 11 = f 10) f W from hf 11 (by show 11 < 17; omega) rfl)
  have HS12 := Lib.hid (show (fun f W => ∃ (u : Value) (c : Bool), f 11 = .tuple #[u, .bool c] ∧ f 12 = u) f W from hf 12 (by show 12 < 17; omega) rfl)
  have HS13 := Lib.hid (show (fun f W => ∃ (u : Value) (c : Bool), f 11 = .tuple #[u, .bool c] ∧ f 13 = .bool c) f W from hf 13 (by show 13 < 17; omega) rfl)
  have HS15 := Lib.hid (show (fun f W => ∃ (g : Nat) (A5 : Option Addr) (c5 : Nat) (A6 : Option Addr) (c6 : Nat), f 14 = .pointer (some ⟨g, 0, none⟩) ∧ W.heap[g]? = some (.cells #[.int .i64 tr.k, .int .i64 tr.n, .string tr.s, .slice A5 tr.ns.length c5, .slice A6 tr.is.length c6] 26 (0, 0)) ∧ X.heap.size ≤ g ∧ JN (fun x => E x ∨ X.heap.size ≤ x) W tr (.agg #[.int .i64 tr.k, .int .i64 tr.n, .string tr.s, .slice A5 tr.ns.length c5, .slice A6 tr.is.length c6])) f W from hf 15 (by show 15 < 17; omega) rfl)
  have HS16 := Lib.hid (show (fun f W => ∃ c : Bool, f 16 = .bool c) f W from hf 16 (by show 16 < 17; omega) rfl)
  clear hf
  refine (show ∀ (a : Act) (w : World), Code.wp _ _ _ a w → _ from by assumption) _ _ ?_
  refine Rv.fin_swap (L' := [(29, f 0), (30, f 1), (31, f 2), (32, f 3), (33, f 4), (34, f 5), (35, f 6), (36, f 7), (37, f 8), (38, f 9), (39, f 10), (28, f 11), (40, f 12), (41, f 13), (13, f 14), (1015, f 15), (14, f 16)]) rfl ?_
  rw [f0, f1, f2, f3, f4, f5, f6, f7, f8, f9]
  clear f0 f1 f2 f3 f4 f5 f6 f7 f8 f9
  simp only [Rv.fin, List.foldl_cons, List.foldl_nil, Act.put, List.setIfInBounds_toArray, List.set_cons_succ, List.set_cons_zero, List.set_nil]
  obtain ⟨g, A5, c5, A6, c6, q14, hg1, hg2, hjn⟩ := HS15.out
  obtain ⟨cc, q16⟩ := HS16.out
  rw [q14, q16]
  have hXW := htr.size
  have HX := Lib.hid (HX.out.trans (htr.mono HX.out.size))
  have HA := Lib.hid ((htr.block _ hga).trans HA.out)
  have HXB := Lib.hid ((htr.block _ hgb).trans HXB.out)
  have HZ := Lib.hid ((htr.block _ hgz).trans HZ.out)
  have HGG := Lib.hid hg1
  have hgz2 := Rv.lt_of_blk HZ.out
  have HXN : Hid (w.heap.size + 1 + 1 + 1 ≤ X.heap.size) := Lib.hid HXS2
  have WA := Lib.hid (with_any (fun x => (E x ∨ X.heap.size ≤ x) ∧ x < W.heap.size) (.mk kk n s ns is) tr _ _ k1 W (fun x hx => hx.2) ((HJ.out.below HX.out).weak (fun x h1 h2 => ⟨.inl h2, h1⟩)) (hjn.weak (fun x h1 h2 => ⟨h2, h1⟩)) hi h8)
  have HES := Lib.hid hE
  clear htr HS10 HS11 HS12 HS13 HS15 HS16 q14 q16 IT PN hjn hg1 hJ HXS HXS2 ITW PNW HLW HTL hE
  generalize f 10 = f10
  generalize f 11 = f11
  generalize f 12 = f12
  generalize f 13 = f13
  obtain ⟨y0, y1, y2, y3, y4⟩ := Rv.cells5 HA.out
  obtain ⟨u0, u1, u2, u3, u4⟩ := Rv.cells5 HGG.out
  go_wp2_with (go_at_call 25; (with_reducible refine WA.out.mono ?_); rintro e w5 ⟨u, rfl, hu, hb⟩; obtain ⟨A9, c9, A8, c8, hs9, ez, hr⟩ := (show JN _ _ (.mk kk n s ns (is.set k1 tr)) u from hu); rw [List.length_set] at ez; have HU := Lib.hid hu; rw [ez] at HU; subst ez; have HZ5 := Lib.hid ((hb.block _ hgz2).trans HZ.out); have HB5 := Lib.hid (HX.out.trans (hb.mono HX.out.size)); obtain ⟨s0, s1, s2, s3, s4⟩ := Rv.cells5 HZ5.out; obtain ⟨z0, z1, z2, z3, z4⟩ := Rv.frozen5 HZ5.out; clear hu hb hr)
  have gs := fun (W : World) j u => grown_set (Below.refl _ W) (w.heap.size + 1 + 1) j u
  have hgg := (grown_then (grown_then (grown_then (grown_then (gs w5 0 (.int .i64 kk)) (gs _ 1 (.int .i64 n))) (gs _ 2 (.string s))) (gs _ 3 (.slice A9 ns.length c9))) (gs _ 4 (.slice A8 is.length c8)))
  have sb : ∀ (V : World) (j : Nat) (u : Value), Below w.heap.size w V → Below w.heap.size w (V.setCell ⟨w.heap.size + 1 + 1, j, none⟩ u) := fun V j u h => h.setCell (by show w.heap.size ≤ w.heap.size + 1 + 1; omega) u
  have HBF := Lib.hid (sb _ 4 (.slice A8 is.length c8) (sb _ 3 (.slice A9 ns.length c9) (sb _ 2 (.string s) (sb _ 1 (.int .i64 n) (sb _ 0 (.int .i64 kk) HB5.out)))))
  have hne : ∀ x, ((E x ∨ X.heap.size ≤ x) ∧ x < W.heap.size) ∨ W.heap.size ≤ x → x ≠ w.heap.size + 1 + 1 ∧ (E x ∨ w.heap.size ≤ x) := fun x hx => by
    have h1 := HXN.out
    rcases hx with ⟨h | h, _⟩ | h
    · have := HES.out x h
      exact ⟨by omega, .inl h⟩
    · exact ⟨by omega, .inr (by omega)⟩
    · exact ⟨by omega, .inr (by omega)⟩
  have HJF := Lib.hid ((HU.out.grown hgg (fun x hx e => by injection e with e; exact (hne x hx).1 e)).weak (q := fun x => E x ∨ w.heap.size ≤ x) (fun x _ hx => (hne x hx).2))
  obtain ⟨q0, q1, q2, q3, q4⟩ := Rv.cells5 (Rv.sets5 HZ5.out (.int .i64 kk) (.int .i64 n) (.string s) (.slice A9 ns.length c9) (.slice A8 is.length c8))
  clear y0 y1 y2 y3 y4 u0 u1 u2 u3 u4 s0 s1 s2 s3 s4 z0 z1 z2 z3 z4 gs hgg sb hne
  refine bodyPost_ret (v := .tuple #[.agg #[.int .i64 kk, .int .i64 n, .string s, .slice A9 ns.length c9, .slice A8 is.length c8], .bool cc]) ?_ rfl ⟨_, _, rfl, HJF.out, HBF.out⟩
  simp only [results, show Tryz.f11.results = #[.cell 10 26, .tmp 11] by kernel_rfl]
  go_simp
end Go.Proofs.YtmelgankbegjaaaGreatDoor.Js

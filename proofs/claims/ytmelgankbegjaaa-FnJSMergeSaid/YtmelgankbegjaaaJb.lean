/- The law's own reader of bytes: a byte, a word; the index of a member. Conditions: those written at each lemma. -/
import Derived.Test.YtmelgankbegjaaaProg
import Derived.Test.YtmelgankbegjaaaJa
import Derived.Handy
import Derived.IntWalk
import Derived.Deep.Cut
import Derived.Deep.CutRange
import Derived.Laws.StructEq
import Derived.MapKept
set_option linter.unusedVariables false
set_option linter.unusedSimpArgs false
set_option maxRecDepth 100000
set_option maxHeartbeats 4000000
namespace Go.Proofs.Ytmelgankbegjaaa.Js
open Go.RowKit Go.Proofs.Ytmelgankbegjaaa.B

abbrev u8s (xs : List Int) : List Value := xs.map (Value.int .u8)
/-- The reader lies in block b: bytes that came in, and how many parts are left. -/
def Mst (w0 W : World) (b : Nat) : Prop := ∃ A n c left xs, W.heap[b]? = some (.cells #[.slice A n c, .int .i64 left] 44 (0, 0)) ∧ Rd w0 1 (.slice A n c) n (u8s xs) ∧ (∀ z ∈ xs, 0 ≤ z ∧ z ≤ 255) ∧ Below w0.heap.size w0 W
theorem Mst.below {w0 W W' : World} {b : Nat} (h : Mst w0 W b) (hb : Below W.heap.size W W') : Mst w0 W' b := by
  obtain ⟨A, n, c, left, xs, h1, h2, h3, h4⟩ := h
  exact ⟨A, n, c, left, xs, (hb.block b (Rv.lt_of_blk h1)).trans h1, h2, h3, h4.trans (hb.mono h4.size)⟩
theorem Mst.grown {w0 W W' : World} {b : Nat} {row : Option Nat} (h : Mst w0 W b) (hg : W.grownBy W' row) (hr : ∀ k, row = some k → w0.heap.size ≤ k ∧ k ≠ b) : Mst w0 W' b := by
  obtain ⟨A, n, c, left, xs, h1, h2, h3, h4⟩ := h
  exact ⟨A, n, c, left, xs, (hg.block b (Rv.lt_of_blk h1) (fun e => (hr b e.symm).2 rfl)).trans h1, h2, h3, h4.grown hg h4.size (fun k hk => (hr k hk).1)⟩
theorem Mst.lt {w0 W : World} {b : Nat} (h : Mst w0 W b) : b < W.heap.size := by
  obtain ⟨A, n, c, left, xs, h1, _⟩ := h
  exact Rv.lt_of_blk h1
theorem Mst.code {w0 W : World} {b : Nat} {A A' : Option Addr} {n c n' c' : Nat} {left : Int} {xs : List Int} (h1 : W.heap[b]? = some (.cells #[.slice A n c, .int .i64 left] 44 (0, 0))) (h2 : Rd w0 1 (.slice A' n' c') n' (u8s xs)) (h3 : ∀ z ∈ xs, 0 ≤ z ∧ z ≤ 255) (h4 : Below w0.heap.size w0 W) (hb : w0.heap.size ≤ b) : Mst w0 (W.setCell ⟨b, 0, none⟩ (.slice A' n' c')) b :=
  ⟨A', n', c', left, xs, Rv.set_cell1 0 _ h1, h2, h3, h4.setCell hb _⟩
theorem Mst.less {w0 W : World} {b : Nat} {A : Option Addr} {n c : Nat} {left l2 : Int} {xs : List Int} (h1 : W.heap[b]? = some (.cells #[.slice A n c, .int .i64 left] 44 (0, 0))) (h2 : Rd w0 1 (.slice A n c) n (u8s xs)) (h3 : ∀ z ∈ xs, 0 ≤ z ∧ z ≤ 255) (h4 : Below w0.heap.size w0 W) (hb : w0.heap.size ≤ b) : Mst w0 (W.setCell ⟨b, 1, none⟩ (.int .i64 l2)) b :=
  ⟨A, n, c, l2, xs, Rv.set_cell1 1 _ h1, h2, h3, h4.setCell hb _⟩
theorem byte_any (w0 W : World) (b : Nat) (hb : w0.heap.size ≤ b) (h : Mst w0 W b) :
    Calls Try.prog 26 #[.pointer (some ⟨b, 0, none⟩)] W fun e w' => ∃ x : Int, e = .returned (.int .i64 x) ∧ 0 ≤ x ∧ x ≤ 255 ∧ Mst w0 w' b ∧ W.grownBy w' (some b) := by
  obtain ⟨A, n, c, left, xs, h1, h2, h3, h4⟩ := h
  obtain ⟨c0, c1⟩ := Rv.cells2 h1
  obtain ⟨f0, f1⟩ := Rv.frozen2 h1
  have hln := h2.le
  have hxl : xs.length = n := by have := h2.len; simpa using this
  have H1 := Lib.hid h1
  have H2 := Lib.hid h2
  have H3 := Lib.hid h3
  have H4 := Lib.hid h4
  clear h1 h2 h3 h4
  rcases Nat.eq_zero_or_pos n with h0 | h0
  · subst h0
    go_enter Try.func26, Try.ntmps26
    go_wp2
    go_ret
    exact ⟨0, rfl, Int.le_refl _, by omega, ⟨_, _, _, _, _, H1.out, H2.out, H3.out, H4.out⟩, World.grownBy.refl _ _⟩
  · obtain ⟨b', o', c', hv, hlc, hcm, hb', hc'⟩ := H2.out.open h0
    injection hv with e1 e2 e3
    subst e1 e3
    obtain ⟨A', hrun, hrd⟩ := tail_of (P := Try.prog) 22 5 Try.underlying22 (fun W => by kernel_rfl) (some ⟨b', o', none⟩) n c 1 (by omega) (by omega)
    have hrun1 : ∀ W, (Instr.slice 22 (.slice (some ⟨b', o', none⟩) n c) (some (.int .i64 1)) none none).run Try.prog W = .ok (.slice A' (n - 1) (c - 1)) W := hrun
    have hx0 : (u8s xs)[0]? = some (.int .u8 (xs.getD 0 0)) := by
      rw [List.getElem?_map, List.getElem?_eq_getElem (by omega : 0 < xs.length), List.getD_eq_getElem?_getD, List.getElem?_eq_getElem (by omega : 0 < xs.length)]
      rfl
    have hd := (H4.out.cell (p := ⟨b', o' + 0, none⟩) hb').trans (hc' 0 _ hx0)
    rw [Nat.add_zero] at hd
    have hz := H3.out (xs.getD 0 0) (by
      rw [List.getD_eq_getElem?_getD, List.getElem?_eq_getElem (by omega : 0 < xs.length)]
      exact List.getElem_mem _)
    have HM := Lib.hid (Mst.code (W := W) (xs := xs.drop 1) H1.out (by rw [show u8s (xs.drop 1) = (u8s xs).drop 1 from List.map_drop]; exact hrd w0 _ H2.out) (fun z hz => H3.out z (List.mem_of_mem_drop hz)) H4.out hb)
    generalize xs.getD 0 0 = z at *
    clear hx0 hc' hrd hrun
    go_enter Try.func26, Try.ntmps26
    go_wp2
    go_ret
    exact ⟨z, rfl, hz.1, hz.2, HM.out, grown_set (Below.refl _ _) b 0 _⟩
theorem grown_then {X W W' : World} {r : Option Nat} (h : X.grownBy W r) (hg : W.grownBy W' r) : X.grownBy W' r :=
  ⟨hg.os.trans h.os, hg.tape.trans h.tape, hg.output.trans h.output, Nat.le_trans h.size hg.size, fun k hk hn => (hg.block k (Nat.lt_of_lt_of_le hk h.size) hn).trans (h.block k hk hn)⟩
abbrev abcB : ByteArray := ⟨#[97, 98, 99, 100, 101, 102, 103, 104, 105, 106, 107, 108, 109, 110, 111, 112, 113, 114, 115, 116, 117, 118, 119, 120, 121, 122, 65, 66, 67, 68, 69, 70, 71, 72, 73, 74, 75, 76, 77, 78, 79, 80, 81, 82, 83, 84, 85, 86, 87, 88, 89, 90, 32, 48, 49, 50, 51, 52, 53, 54, 55, 56, 57]⟩
/-- One letter of the law's alphabet. -/
def ltr (x : Int) : ByteArray := abcB.extract (x % 63).toNat (x % 63 + 1).toNat
theorem ltr_all : ∀ k : Fin 63, (abcB.extract k.1 (k.1 + 1)).size = 1 ∧ ((abcB.extract k.1 (k.1 + 1)).data.toList.all fun c => abc.contains c) = true := by decide +kernel
theorem ltr_ok (x : Int) : (ltr x).size = 1 ∧ ∀ c ∈ (ltr x).data.toList, c ∈ abc := by
  have h0 : 0 ≤ x % 63 := Int.emod_nonneg _ (by omega)
  have h1 : x % 63 < 63 := Int.emod_lt_of_pos _ (by omega)
  have h := ltr_all ⟨(x % 63).toNat, by omega⟩
  unfold ltr
  rw [show (x % 63 + 1).toNat = (x % 63).toNat + 1 by omega]
  refine ⟨h.1, fun c hc => ?_⟩
  have h2 := List.all_eq_true.1 h.2 c hc
  simpa using h2
theorem ltr_run (x : Int) (W : World) : (Instr.slice 9 (.string ⟨#[97, 98, 99, 100, 101, 102, 103, 104, 105, 106, 107, 108, 109, 110, 111, 112, 113, 114, 115, 116, 117, 118, 119, 120, 121, 122, 65, 66, 67, 68, 69, 70, 71, 72, 73, 74, 75, 76, 77, 78, 79, 80, 81, 82, 83, 84, 85, 86, 87, 88, 89, 90, 32, 48, 49, 50, 51, 52, 53, 54, 55, 56, 57]⟩) (some (.int .i64 (x % 63))) (some (.int .i64 (x % 63 + 1))) none).run Try.prog W = .ok (.string (ltr x)) W := by
  have h0 : 0 ≤ x % 63 := Int.emod_nonneg _ (by omega)
  have h1 : x % 63 < 63 := Int.emod_lt_of_pos _ (by omega)
  exact run_slice_string W 9 abcB .i64 .i64 (x % 63) (x % 63 + 1) Try.underlying9 h0 (by omega) (by show x % 63 + 1 ≤ ((63 : Nat) : Int); omega)
theorem word_any (w0 w : World) (b : Nat) (hb : w0.heap.size ≤ b) (h : Mst w0 w b) :
    Calls Try.prog 27 #[.pointer (some ⟨b, 0, none⟩)] w fun e w' => ∃ s, e = .returned (.string s) ∧ Wd s ∧ Mst w0 w' b ∧ w.grownBy w' (some b) := by
  have BY := Lib.hid (fun W h => byte_any w0 W b hb h)
  have HM := Lib.hid h
  clear h
  go_enter Try.func27, Try.ntmps27
  go_wp2_with (go_at_call 26; (with_reducible refine (BY.out _ HM.out).mono ?_); rintro e w1 ⟨x, rfl, hx0, hx1, hm, hg⟩; have HM1 := Lib.hid hm; have HG1 := Lib.hid hg; clear hm hg)
  go_loopw [3, 4] (fun v3 v4 wr => ∃ (s : ByteArray) (n : Int), v3 = .string s ∧ v4 = .int .i64 n ∧ 0 ≤ n ∧ n ≤ 6 ∧ Hid ((s.size : Int) + n ≤ 6 ∧ ∀ c ∈ s.data.toList, c ∈ abc) ∧ Hid (Mst w0 wr b) ∧ Hid (w.grownBy wr (some b))) (fun _ v4 _ => (intOf v4).toNat)
  case atStart => exact ⟨.empty, _, rfl, rfl, by omega, by omega, Lib.hid ⟨by simp; omega, fun c hc => by cases hc⟩, HM1, HG1⟩
  case round =>
    obtain ⟨s, n, rfl, rfl, hn0, hn6, HS, HM2, HG2⟩ := hrel
    by_cases hlt : 0 < n
    · go_upto_region 6 with (go_at_call 26; (with_reducible refine (BY.out _ HM2.out).mono ?_); rintro e w3 ⟨x, rfl, hx0, hx1, hm, hg⟩; have HM3 := Lib.hid hm; have HG3 := Lib.hid (grown_then HG2.out hg); clear hm hg)
      have hsl := ltr_run x
      have hl1 := (ltr_ok x).1
      have hs6 : s.size ≤ 6 := by have := HS.out.1; omega
      have HL := Lib.hid (ltr_ok x).2
      generalize ltr x = l at *
      go_wp2
      go_roundw
      case rel => exact ⟨s ++ l, n - 1, rfl, by go_num, by omega, by omega, Lib.hid ⟨by have := HS.out.1; rw [ByteArray.size_append]; omega, fun c hc => by
        rw [ByteArray.data_append, Array.toList_append, List.mem_append] at hc
        exact hc.elim (HS.out.2 c) (HL.out c)⟩, HM3, HG3⟩
      case measure => simp [intOf]; omega
    · obtain rfl : n = 0 := by omega
      go_wp2
      go_ret
      exact ⟨s, rfl, ⟨by have := HS.out.1; omega, HS.out.2⟩, HM2.out, HG2.out⟩

theorem tl_eq (a b : ByteArray) : (a.toList == b.toList) = decide (a = b) := by
  rw [← beq_toListBytes, Bool.eq_iff_iff, MapKept.bytes_beq, decide_eq_true_iff]
/-- The index of a name. -/
def idx (x : ByteArray) : List ByteArray → Int → Int
  | [], _ => -1
  | y :: r, i => if y = x then i else idx x r (i + 1)
theorem idx_none {x : ByteArray} : ∀ {l : List ByteArray} {i : Int}, x ∉ l → idx x l i = -1
  | [], _, _ => rfl
  | y :: r, i, h => by
    rw [idx, if_neg (fun e => h (by rw [← e]; exact .head _))]
    exact idx_none (fun h2 => h (.tail _ h2))
theorem idx_drop (x : ByteArray) (l : List ByteArray) (k : Nat) (h : k < l.length) : idx x (l.drop k) k = if l[k] = x then (k : Int) else idx x (l.drop (k + 1)) ((k + 1 : Nat) : Int) := by
  rw [List.drop_eq_getElem_cons h, idx]
  rfl
theorem idx_range {x : ByteArray} : ∀ {l : List ByteArray} {i : Int}, 0 ≤ i → (idx x l i = -1 ∧ x ∉ l) ∨ (∃ k : Nat, idx x l i = i + k ∧ l[k]? = some x ∧ ∀ j, j < k → l[j]? ≠ some x)
  | [], _, _ => .inl ⟨rfl, by simp⟩
  | y :: r, i, h => by
    rw [idx]
    by_cases e : y = x
    · rw [if_pos e]
      exact .inr ⟨0, by simp, by rw [e]; rfl, fun j hj => absurd hj (Nat.not_lt_zero j)⟩
    · rw [if_neg e]
      rcases idx_range (l := r) (i := i + 1) (by omega) with ⟨h1, h2⟩ | ⟨k, h1, h2, h3⟩
      · refine .inl ⟨h1, fun hm => ?_⟩
        rcases List.mem_cons.1 hm with rfl | hm
        · exact e rfl
        · exact h2 hm
      · refine .inr ⟨k + 1, by rw [h1]; omega, h2, fun j hj => ?_⟩
        cases j with
        | zero => intro h4; injection h4 with h4; exact e h4
        | succ j => exact h3 j (by omega)
theorem at_any (t : J) (p : Nat → Prop) (v : Value) (x : ByteArray) (w : World) (h : JN p w t v) (hl : t.ns.length ≤ 1000000) :
    Calls Try.prog 20 #[v, .string x] w fun e w' => e = .returned (.int .i64 (idx x t.ns 0)) ∧ Below w.heap.size w w' := by
  obtain ⟨A, c, A2, c2, rfl, h1, hs, h2, h3⟩ := h.five
  have hrd := h1.1
  have HR := Lib.hid hrd
  generalize t.ns = ns at *
  have hc := (hrd.shape)
  clear h h1 h2 h3 hrd
  have HB0 := Lib.hid ((Below.refl w.heap.size w).alloc (Nat.le_refl _) (.cells #[.int .i64 t.k, .int .i64 t.n, .string t.s, .slice A ns.length c, .slice A2 t.is.length c2] 26))
  have HX0 := Lib.hid (heap_alloc_new w (.cells #[.int .i64 t.k, .int .i64 t.n, .string t.s, .slice A ns.length c, .slice A2 t.is.length c2] 26))
  generalize t.k = k0 at *
  generalize t.n = n0 at *
  generalize t.s = s0 at *
  generalize t.is.length = il at *
  go_enter Try.func20, Try.ntmps20
  go_wp2
  go_loopw [5] (fun v5 wr => ∃ (k : Nat), v5 = .int .i64 k ∧ k ≤ ns.length ∧ Hid (idx x ns 0 = idx x (ns.drop k) k) ∧ Hid (Below w.heap.size w wr) ∧ Hid (wr.heap[w.heap.size]? = some (.cells #[.int .i64 k0, .int .i64 n0, .string s0, .slice A ns.length c, .slice A2 il c2] 26 (0, 0)))) (fun v5 _ => (ns.length - (intOf v5)).toNat)
  case atStart => exact ⟨0, rfl, Nat.zero_le _, Lib.hid rfl, HB0, HX0⟩
  case round =>
    obtain ⟨k, rfl, hk, HI, HB, HX⟩ := hrel
    clear HB0 HX0
    obtain ⟨f0, f1, f2, f3, f4⟩ := Rv.cells5 HX.out
    by_cases hlt : k < ns.length
    · obtain ⟨b, o, c', hv, _, _, hb, hcl⟩ := HR.out.open (by omega)
      injection hv with e1 _ _
      subst e1
      have hcell := hcl k (.string ns[k]) (by rw [List.getElem?_map, List.getElem?_eq_getElem hlt]; rfl)
      have hcw := (HB.out.cell (p := ⟨b, o + k, none⟩) hb).trans hcell
      have HD := Lib.hid (idx_drop x ns k hlt)
      clear hcell hcl
      generalize ns[k] = y at *
      by_cases hyx : y = x
      · rw [if_pos hyx] at HD
        subst hyx
        have hne := tl_eq y y
        rw [decide_eq_true rfl] at hne
        go_wp2
        go_ret
        exact ⟨by rw [HI.out, HD.out]; rfl, HB.out⟩
      · rw [if_neg hyx] at HD
        have hne := tl_eq y x
        rw [decide_eq_false hyx] at hne
        go_wp2
        go_roundw
        case rel => exact ⟨k + 1, by go_num, by omega, Lib.hid (by rw [HI.out, HD.out]), HB, HX⟩
        case measure => simp [intOf]; omega
    · obtain rfl : k = ns.length := by omega
      rw [List.drop_length] at HI
      go_wp2
      go_ret
      exact ⟨by rw [HI.out]; rfl, HB.out⟩
end Go.Proofs.Ytmelgankbegjaaa.Js

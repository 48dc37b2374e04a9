/- The walk of what is asked of two column sets. Conditions: the listed table of math/bits reads as listed; those written at each lemma. -/
import Derived.Test.YtbhlhgfgkiclgaaDoorSfo
import Derived.Deep.Cut
set_option linter.unusedVariables false
set_option linter.unusedSimpArgs false
set_option maxRecDepth 100000
set_option maxHeartbeats 8000000
namespace Go.Proofs.YtbhlhgfgkiclgaaDoor.Set
open Go.RowKit Go.Proofs.YtbhlhgfgkiclgaaDoor.B

theorem up_down (xs : List Int) : (up xs).map (· - 1) = xs := by
  unfold up
  rw [List.map_map]
  have : ((fun x : Int => x - 1) ∘ fun x => x + 1) = id := by funext x; simp only [Function.comp, id]; omega
  rw [this, List.map_id]
theorem cols_any (va : Value) (xs : List Int) (w : World) (hT : Tab w) (hr : Rd w 1 va (up xs).length (nums (up xs))) (hs : Srt xs) (hbd : ∀ u ∈ xs, 0 ≤ u ∧ u ≤ 200) :
    Calls Tryd.prog 24 #[va] w fun e w' => Copied w xs e w' := by
  have hlen : xs.length ≤ 201 := srt_len hs 200 hbd
  have h := columns_any va (up xs) w hT hr (by rw [up_len]; omega) (fun u hu => by
    unfold up at hu
    obtain ⟨v, hv, rfl⟩ := List.mem_map.1 hu
    have := hbd v hv
    omega)
  rwa [up_down, insAll_srt hs] at h

theorem getD_at (t : Array Value) (i : Nat) (h : i < t.size) : t[i] = t.getD i undef := by rw [Array.getD_eq_getD_getElem?, Array.getElem?_eq_getElem h]; rfl
/-- What each operation of the asking leaves. -/
def Ask (b : Nat) (VA VB : Value) (xs ys : List Int) (i : Nat) (v : Value) (W : World) : Prop :=
  if i = 2 then ∃ (n : Nat) (P : Option Addr), v = .agg #[.int .u64 n, .pointer P] ∧ Fv W b (.int .u64 n) (.pointer P) (uni xs ys)
  else if i = 6 then ∃ (n : Nat) (P : Option Addr), v = .agg #[.int .u64 n, .pointer P] ∧ Fv W b (.int .u64 n) (.pointer P) (xs.filter fun u => hasB ys u == true)
  else if i = 10 then ∃ (n : Nat) (P : Option Addr), v = .agg #[.int .u64 n, .pointer P] ∧ Fv W b (.int .u64 n) (.pointer P) (xs.filter fun u => hasB ys u == false)
  else if i = 3 ∨ i = 21 then W.ownsRow b 3 1 v (uni xs ys).length (nums (up (uni xs ys)))
  else if i = 7 ∨ i = 22 then W.ownsRow b 3 1 v (xs.filter fun u => hasB ys u == true).length (nums (up (xs.filter fun u => hasB ys u == true)))
  else if i = 11 ∨ i = 23 then W.ownsRow b 3 1 v (xs.filter fun u => hasB ys u == false).length (nums (up (xs.filter fun u => hasB ys u == false)))
  else if i = 14 ∨ i = 24 then v = .bool (decide (xs = ys))
  else if i = 17 ∨ i = 25 then v = .bool (xs.all (hasB ys))
  else if i = 20 ∨ i = 26 then v = .bool (xs.any (hasB ys))
  else if i = 0 ∨ i = 4 ∨ i = 8 ∨ i = 12 ∨ i = 15 ∨ i = 18 then v = VA else v = VB
theorem Ask.mono {b : Nat} {VA VB : Value} {xs ys : List Int} (i : Nat) (v : Value) (W W' : World) (h : Ask b VA VB xs ys i v W) (hb : Below W.heap.size W W') : Ask b VA VB xs ys i v W' := by
  unfold Ask at *
  split at h
  · rw [if_pos (by assumption)]; obtain ⟨n, P, h1, h2⟩ := h; exact ⟨n, P, h1, h2.below hb⟩
  rw [if_neg (by assumption)]
  split at h
  · rw [if_pos (by assumption)]; obtain ⟨n, P, h1, h2⟩ := h; exact ⟨n, P, h1, h2.below hb⟩
  rw [if_neg (by assumption)]
  split at h
  · rw [if_pos (by assumption)]; obtain ⟨n, P, h1, h2⟩ := h; exact ⟨n, P, h1, h2.below hb⟩
  rw [if_neg (by assumption)]
  split at h
  · rw [if_pos (by assumption)]; exact own_below h hb
  rw [if_neg (by assumption)]
  split at h
  · rw [if_pos (by assumption)]; exact own_below h hb
  rw [if_neg (by assumption)]
  split at h
  · rw [if_pos (by assumption)]; exact own_below h hb
  rw [if_neg (by assumption)]
  exact h

/-- What the asking hands back. -/
def Asked (xs ys : List Int) (w : World) (e : Ending) (w' : World) : Prop := ∃ v1 v2 v3, e = .returned (.tuple #[v1, v2, v3, .bool (decide (xs = ys)), .bool (xs.all (hasB ys)), .bool (xs.any (hasB ys))]) ∧
  w'.ownsRow w.heap.size 3 1 v1 (uni xs ys).length (nums (up (uni xs ys))) ∧
  w'.ownsRow w.heap.size 3 1 v2 (xs.filter fun u => hasB ys u == true).length (nums (up (xs.filter fun u => hasB ys u == true))) ∧
  w'.ownsRow w.heap.size 3 1 v3 (xs.filter fun u => hasB ys u == false).length (nums (up (xs.filter fun u => hasB ys u == false))) ∧ Below w.heap.size w w'

theorem ask_any (va vb : Value) (xs ys : List Int) (w : World) (hT : Tab w) (h0 : 0 < w.heap.size) (hr : Rd w 1 va (up xs).length (nums (up xs))) (hr2 : Rd w 1 vb (up ys).length (nums (up ys))) (hx : Srt xs) (hy : Srt ys) (hxb : ∀ u ∈ xs, 0 ≤ u ∧ u ≤ 200) (hyb : ∀ u ∈ ys, 0 ≤ u ∧ u ≤ 200) :
    Calls Tryd.prog 15 #[va, vb] w fun e w' => Asked xs ys w e w' := by
  have C1 := Lib.hid (cols_any va xs w hT hr hx hxb)
  have C2 := Lib.hid (fun W (hW : Below w.heap.size w W) => cols_any vb ys W (tab_below hT hW) (hr2.below hW) hy hyb)
  have HT := Lib.hid hT
  have hl1 := srt_len hx 200 hxb
  have hl2 := srt_len hy 200 hyb
  have HL := Lib.hid (show xs.length + ys.length < 1000000 by omega)
  have HU : Hid ((uni xs ys).length ≤ 1000000 ∧ ∀ u ∈ uni xs ys, 0 ≤ u ∧ u ≤ 60000) := Lib.hid ⟨by have := uni_len xs ys; omega, fun u hu => by rcases ((srt_uni hx ys).2 u).1 hu with h | h; (have := hxb u h; omega); (have := hyb u h; omega)⟩
  have HI : Hid ((xs.filter fun u => hasB ys u == true).length ≤ 1000000 ∧ ∀ u ∈ (xs.filter fun u => hasB ys u == true), 0 ≤ u ∧ u ≤ 60000) := Lib.hid ⟨Nat.le_trans (List.length_filter_le _ _) (by omega), fun u hu => by have := hxb u (List.mem_filter.1 hu).1; omega⟩
  have HD : Hid ((xs.filter fun u => hasB ys u == false).length ≤ 1000000 ∧ ∀ u ∈ (xs.filter fun u => hasB ys u == false), 0 ≤ u ∧ u ≤ 60000) := Lib.hid ⟨Nat.le_trans (List.length_filter_le _ _) (by omega), fun u hu => by have := hxb u (List.mem_filter.1 hu).1; omega⟩
  clear hT hr hr2 hx hy hxb hyb hl1 hl2
  go_enter Tryd.func15, Tryd.ntmps15
  go_upto_region 2 with (first
    | (go_at_call 24; (with_reducible refine C1.out.mono ?_); rintro e w1 ⟨n1, P1, rfl, hf1, hb1⟩; have HF1 := Lib.hid hf1; have HB1 := Lib.hid hb1; clear hf1 hb1)
    | (go_at_call 24; (with_reducible refine (C2.out _ HB1.out).mono ?_); rintro e w2 ⟨n2, P2, rfl, hf2, hb2⟩; have HF2 := Lib.hid hf2; have HB2 := Lib.hid hb2; clear hf2 hb2))
  have hX := Lib.hid (show Below w.heap.size w2 ((w2.alloc (.cells #[.int .u64 n1, .pointer P1] 51)).alloc (.cells #[.int .u64 n2, .pointer P2] 51)) from (((Below.refl _ _).alloc (Nat.le_refl _) _).alloc (by simp) _).mono (Nat.le_trans HB1.out.size HB2.out.size))
  have hX2 := Lib.hid (show Below w2.heap.size w2 ((w2.alloc (.cells #[.int .u64 n1, .pointer P1] 51)).alloc (.cells #[.int .u64 n2, .pointer P2] 51)) from ((Below.refl _ _).alloc (Nat.le_refl _) _).alloc (by simp) _)
  have Q1 := Lib.hid (show ((w2.alloc (.cells #[.int .u64 n1, .pointer P1] 51)).alloc (.cells #[.int .u64 n2, .pointer P2] 51)).heap[w2.heap.size]? = some (.cells #[.int .u64 n1, .pointer P1] 51 (0, 0)) from (alloc_old (by simp)).trans (heap_alloc_new _ _))
  have Q2 := Lib.hid (show ((w2.alloc (.cells #[.int .u64 n1, .pointer P1] 51)).alloc (.cells #[.int .u64 n2, .pointer P2] 51)).heap[w2.heap.size + 1]? = some (.cells #[.int .u64 n2, .pointer P2] 51 (0, 0)) from new_at (by simp))
  have F1 := Lib.hid ((HF1.out.below HB2.out).below hX2.out)
  have F2 := Lib.hid (HF2.out.below hX2.out)
  have HBX := Lib.hid ((HB1.out.trans (HB2.out.mono HB1.out.size)).trans hX.out)
  have HTX := Lib.hid (tab_below HT.out HBX.out)
  generalize (w2.alloc (.cells #[.int .u64 n1, .pointer P1] 51)).alloc (.cells #[.int .u64 n2, .pointer P2] 51) = X at *
  refine Rg.region_chk (n := 37) (by kernel_rfl) #[16, 17, 18, 19, 20, 21, 22, 23, 24, 25, 26, 27, 28, 29, 30, 31, 32, 33, 34, 35, 36, 4, 5, 6, 7, 8, 9] (Ask w.heap.size (.agg #[.int .u64 n1, .pointer P1]) (.agg #[.int .u64 n2, .pointer P2]) xs ys) Ask.mono rfl (by kernel_rfl) ?_ ?_
  · intro i h a W hdf hbase hdep hbw
    have h10 : a.tmps.getD 10 undef = .pointer (some ⟨w2.heap.size, 0, none⟩) := hbase 10 rfl
    have h11 : a.tmps.getD 11 undef = .pointer (some ⟨w2.heap.size + 1, 0, none⟩) := hbase 11 rfl
    obtain ⟨c0, c1, _, _⟩ := cells_two ((hbw.block _ (lt_of_block Q1.out)).trans Q1.out)
    obtain ⟨d0, d1, _, _⟩ := cells_two ((hbw.block _ (lt_of_block Q2.out)).trans Q2.out)
    have G1 := F1.out.below hbw
    have G2 := F2.out.below hbw
    have GT := tab_below HTX.out hbw
    have GS : w.heap.size ≤ W.heap.size := Nat.le_trans HBX.out.size hbw.size
    match i, h with
    | 0, _ => exact step_load rfl h10 c0 c1 ⟨_, rfl, rfl, Below.refl _ _⟩
    | 1, _ => exact step_load rfl h11 d0 d1 ⟨_, rfl, rfl, Below.refl _ _⟩
    | 2, _ =>
      have e1 : a.tmps.getD 16 undef = .agg #[.int .u64 n1, .pointer P1] := hdep 0 rfl
      have e2 : a.tmps.getD 17 undef = .agg #[.int .u64 n2, .pointer P2] := hdep 1 rfl
      refine step_call2 (R := fun v W' => Ask w.heap.size (.agg #[.int .u64 n1, .pointer P1]) (.agg #[.int .u64 n2, .pointer P2]) xs ys 2 v W' ∧ Below W.heap.size W W') rfl e1 e2 (cf29 _ _ _) (((cunion_any _ _ _ _ _ _ xs ys W GT (by have := HL.out; omega) G1 G2)).mono ?_) (fun v W' hr => ⟨v, rfl, hr.1, hr.2⟩)
      rintro e W' ⟨n, P, rfl, hf, hb⟩
      exact ⟨_, rfl, ⟨n, P, rfl, hf.mono GS⟩, hb⟩
    | 3, _ =>
      obtain ⟨n, P, e1, hf⟩ : ∃ (n : Nat) (P : Option Addr), a.tmps.getD 18 undef = .agg #[.int .u64 n, .pointer P] ∧ Fv W w.heap.size (.int .u64 n) (.pointer P) (uni xs ys) := hdep 2 rfl
      refine step_call1 (R := fun v W' => Ask w.heap.size (.agg #[.int .u64 n1, .pointer P1]) (.agg #[.int .u64 n2, .pointer P2]) xs ys 3 v W' ∧ Below W.heap.size W W') rfl e1 (cf27 _ _) ((ids_any _ _ _ (uni xs ys) W GT hf HU.out.1 HU.out.2).mono ?_) (fun v W' hr => ⟨v, rfl, hr.1, hr.2⟩)
      rintro e W' ⟨v, rfl, ho, hb⟩
      exact ⟨_, rfl, ho.mono GS, hb⟩
    | 4, _ => exact step_load rfl h10 c0 c1 ⟨_, rfl, rfl, Below.refl _ _⟩
    | 5, _ => exact step_load rfl h11 d0 d1 ⟨_, rfl, rfl, Below.refl _ _⟩
    | 6, _ =>
      have e1 : a.tmps.getD 20 undef = .agg #[.int .u64 n1, .pointer P1] := hdep 4 rfl
      have e2 : a.tmps.getD 21 undef = .agg #[.int .u64 n2, .pointer P2] := hdep 5 rfl
      refine step_call2 (R := fun v W' => Ask w.heap.size (.agg #[.int .u64 n1, .pointer P1]) (.agg #[.int .u64 n2, .pointer P2]) xs ys 6 v W' ∧ Below W.heap.size W W') rfl e1 e2 (cf30 _ _ _) (((cinter_any _ _ _ _ _ _ xs ys W GT G1 G2)).mono ?_) (fun v W' hr => ⟨v, rfl, hr.1, hr.2⟩)
      rintro e W' ⟨n, P, rfl, hf, hb⟩
      exact ⟨_, rfl, ⟨n, P, rfl, hf.mono GS⟩, hb⟩
    | 7, _ =>
      obtain ⟨n, P, e1, hf⟩ : ∃ (n : Nat) (P : Option Addr), a.tmps.getD 22 undef = .agg #[.int .u64 n, .pointer P] ∧ Fv W w.heap.size (.int .u64 n) (.pointer P) (xs.filter fun u => hasB ys u == true) := hdep 6 rfl
      refine step_call1 (R := fun v W' => Ask w.heap.size (.agg #[.int .u64 n1, .pointer P1]) (.agg #[.int .u64 n2, .pointer P2]) xs ys 7 v W' ∧ Below W.heap.size W W') rfl e1 (cf27 _ _) ((ids_any _ _ _ (xs.filter fun u => hasB ys u == true) W GT hf HI.out.1 HI.out.2).mono ?_) (fun v W' hr => ⟨v, rfl, hr.1, hr.2⟩)
      rintro e W' ⟨v, rfl, ho, hb⟩
      exact ⟨_, rfl, ho.mono GS, hb⟩
    | 8, _ => exact step_load rfl h10 c0 c1 ⟨_, rfl, rfl, Below.refl _ _⟩
    | 9, _ => exact step_load rfl h11 d0 d1 ⟨_, rfl, rfl, Below.refl _ _⟩
    | 10, _ =>
      have e1 : a.tmps.getD 24 undef = .agg #[.int .u64 n1, .pointer P1] := hdep 8 rfl
      have e2 : a.tmps.getD 25 undef = .agg #[.int .u64 n2, .pointer P2] := hdep 9 rfl
      refine step_call2 (R := fun v W' => Ask w.heap.size (.agg #[.int .u64 n1, .pointer P1]) (.agg #[.int .u64 n2, .pointer P2]) xs ys 10 v W' ∧ Below W.heap.size W W') rfl e1 e2 (cf31 _ _ _) (((cdiff_any _ _ _ _ _ _ xs ys W GT G1 G2)).mono ?_) (fun v W' hr => ⟨v, rfl, hr.1, hr.2⟩)
      rintro e W' ⟨n, P, rfl, hf, hb⟩
      exact ⟨_, rfl, ⟨n, P, rfl, hf.mono GS⟩, hb⟩
    | 11, _ =>
      obtain ⟨n, P, e1, hf⟩ : ∃ (n : Nat) (P : Option Addr), a.tmps.getD 26 undef = .agg #[.int .u64 n, .pointer P] ∧ Fv W w.heap.size (.int .u64 n) (.pointer P) (xs.filter fun u => hasB ys u == false) := hdep 10 rfl
      refine step_call1 (R := fun v W' => Ask w.heap.size (.agg #[.int .u64 n1, .pointer P1]) (.agg #[.int .u64 n2, .pointer P2]) xs ys 11 v W' ∧ Below W.heap.size W W') rfl e1 (cf27 _ _) ((ids_any _ _ _ (xs.filter fun u => hasB ys u == false) W GT hf HD.out.1 HD.out.2).mono ?_) (fun v W' hr => ⟨v, rfl, hr.1, hr.2⟩)
      rintro e W' ⟨v, rfl, ho, hb⟩
      exact ⟨_, rfl, ho.mono GS, hb⟩
    | 12, _ => exact step_load rfl h10 c0 c1 ⟨_, rfl, rfl, Below.refl _ _⟩
    | 13, _ => exact step_load rfl h11 d0 d1 ⟨_, rfl, rfl, Below.refl _ _⟩
    | 14, _ =>
      have e1 : a.tmps.getD 28 undef = .agg #[.int .u64 n1, .pointer P1] := hdep 12 rfl
      have e2 : a.tmps.getD 29 undef = .agg #[.int .u64 n2, .pointer P2] := hdep 13 rfl
      refine step_call2 (R := fun v W' => Ask w.heap.size (.agg #[.int .u64 n1, .pointer P1]) (.agg #[.int .u64 n2, .pointer P2]) xs ys 14 v W' ∧ Below W.heap.size W W') rfl e1 e2 (cf32 _ _ _) ((ceq_any _ _ _ _ _ _ xs ys W G1 G2).mono ?_) (fun v W' hr => ⟨v, rfl, hr.1, hr.2⟩)
      rintro e W' ⟨rfl, hb⟩
      exact ⟨_, rfl, rfl, hb⟩
    | 15, _ => exact step_load rfl h10 c0 c1 ⟨_, rfl, rfl, Below.refl _ _⟩
    | 16, _ => exact step_load rfl h11 d0 d1 ⟨_, rfl, rfl, Below.refl _ _⟩
    | 17, _ =>
      have e1 : a.tmps.getD 31 undef = .agg #[.int .u64 n1, .pointer P1] := hdep 15 rfl
      have e2 : a.tmps.getD 32 undef = .agg #[.int .u64 n2, .pointer P2] := hdep 16 rfl
      refine step_call2 (R := fun v W' => Ask w.heap.size (.agg #[.int .u64 n1, .pointer P1]) (.agg #[.int .u64 n2, .pointer P2]) xs ys 17 v W' ∧ Below W.heap.size W W') rfl e1 e2 (cf33 _ _ _) ((csub_any _ _ _ _ _ _ xs ys W G1 G2).mono ?_) (fun v W' hr => ⟨v, rfl, hr.1, hr.2⟩)
      rintro e W' ⟨rfl, hb⟩
      exact ⟨_, rfl, rfl, hb⟩
    | 18, _ => exact step_load rfl h10 c0 c1 ⟨_, rfl, rfl, Below.refl _ _⟩
    | 19, _ => exact step_load rfl h11 d0 d1 ⟨_, rfl, rfl, Below.refl _ _⟩
    | 20, _ =>
      have e1 : a.tmps.getD 34 undef = .agg #[.int .u64 n1, .pointer P1] := hdep 18 rfl
      have e2 : a.tmps.getD 35 undef = .agg #[.int .u64 n2, .pointer P2] := hdep 19 rfl
      refine step_call2 (R := fun v W' => Ask w.heap.size (.agg #[.int .u64 n1, .pointer P1]) (.agg #[.int .u64 n2, .pointer P2]) xs ys 20 v W' ∧ Below W.heap.size W W') rfl e1 e2 (cf34 _ _ _) ((cints_any _ _ _ _ _ _ xs ys W GT G1 G2).mono ?_) (fun v W' hr => ⟨v, rfl, hr.1, hr.2⟩)
      rintro e W' ⟨rfl, hb⟩
      exact ⟨_, rfl, rfl, hb⟩
    | 21, _ => exact step_assign rfl ⟨_, rfl, (show Ask w.heap.size (.agg #[.int .u64 n1, .pointer P1]) (.agg #[.int .u64 n2, .pointer P2]) xs ys 3 (a.tmps.getD 19 undef) W from hdep 3 rfl), Below.refl _ _⟩
    | 22, _ => exact step_assign rfl ⟨_, rfl, (show Ask w.heap.size (.agg #[.int .u64 n1, .pointer P1]) (.agg #[.int .u64 n2, .pointer P2]) xs ys 7 (a.tmps.getD 23 undef) W from hdep 7 rfl), Below.refl _ _⟩
    | 23, _ => exact step_assign rfl ⟨_, rfl, (show Ask w.heap.size (.agg #[.int .u64 n1, .pointer P1]) (.agg #[.int .u64 n2, .pointer P2]) xs ys 11 (a.tmps.getD 27 undef) W from hdep 11 rfl), Below.refl _ _⟩
    | 24, _ => exact step_assign rfl ⟨_, rfl, (show Ask w.heap.size (.agg #[.int .u64 n1, .pointer P1]) (.agg #[.int .u64 n2, .pointer P2]) xs ys 14 (a.tmps.getD 30 undef) W from hdep 14 rfl), Below.refl _ _⟩
    | 25, _ => exact step_assign rfl ⟨_, rfl, (show Ask w.heap.size (.agg #[.int .u64 n1, .pointer P1]) (.agg #[.int .u64 n2, .pointer P2]) xs ys 17 (a.tmps.getD 33 undef) W from hdep 17 rfl), Below.refl _ _⟩
    | 26, _ => exact step_assign rfl ⟨_, rfl, (show Ask w.heap.size (.agg #[.int .u64 n1, .pointer P1]) (.agg #[.int .u64 n2, .pointer P2]) xs ys 20 (a.tmps.getD 36 undef) W from hdep 20 rfl), Below.refl _ _⟩
    | n + 27, h => exact absurd h (by show ¬ n + 27 < 27; omega)
  · intro a W hs hdf hbase hg hbw
    have g21 : W.ownsRow w.heap.size 3 1 (a.tmps.getD 4 undef) (uni xs ys).length (nums (up (uni xs ys))) := hg 21 (by show 21 < 27; omega)
    have g22 : W.ownsRow w.heap.size 3 1 (a.tmps.getD 5 undef) (xs.filter fun u => hasB ys u == true).length (nums (up (xs.filter fun u => hasB ys u == true))) := hg 22 (by show 22 < 27; omega)
    have g23 : W.ownsRow w.heap.size 3 1 (a.tmps.getD 6 undef) (xs.filter fun u => hasB ys u == false).length (nums (up (xs.filter fun u => hasB ys u == false))) := hg 23 (by show 23 < 27; omega)
    have g24 : a.tmps.getD 7 undef = .bool (decide (xs = ys)) := hg 24 (by show 24 < 27; omega)
    have g25 : a.tmps.getD 8 undef = .bool (xs.all (hasB ys)) := hg 25 (by show 25 < 27; omega)
    have g26 : a.tmps.getD 9 undef = .bool (xs.any (hasB ys)) := hg 26 (by show 26 < 27; omega)
    rename_i hK
    apply hK
    have hd0 : a.defers = [] := hdf
    clear hg hbase hK
    go_wp2
    refine bodyPost_ret (v := .tuple #[a.tmps.getD 4 undef, a.tmps.getD 5 undef, a.tmps.getD 6 undef, .bool (decide (xs = ys)), .bool (xs.all (hasB ys)), .bool (xs.any (hasB ys))]) ?_ hd0 ⟨_, _, _, rfl, g21, g22, g23, HBX.out.trans (hbw.mono HBX.out.size)⟩
    simp only [results, show Tryd.f15.results = #[.tmp 4, .tmp 5, .tmp 6, .tmp 7, .tmp 8, .tmp 9] by kernel_rfl]
    go_simp
    exact ⟨(getD_at _ _ _).trans g24, (getD_at _ _ _).trans g25, (getD_at _ _ _).trans g26⟩
end Go.Proofs.YtbhlhgfgkiclgaaDoor.Set

/- The walk of a set joined to those it meets. Conditions: the listed table of math/bits reads as listed; those written at each lemma. -/
import Derived.Test.YtbhlhgfgkiclgaaDoorSgd
set_option linter.unusedVariables false
set_option linter.unusedSimpArgs false
set_option maxRecDepth 100000
set_option maxHeartbeats 8000000
namespace Go.Proofs.YtbhlhgfgkiclgaaDoor.Set
open Go.RowKit Go.Proofs.YtbhlhgfgkiclgaaDoor.B

theorem set_at {w : World} {q j : Nat} {cs : Array Value} {u : Value} {t : TypeId} (h : w.heap[q]? = some (.cells cs t (0, 0))) : (w.setCell ⟨q, j, none⟩ u).heap[q]? = some (.cells (cs.setIfInBounds j u) t (0, 0)) := by
  have hlt := lt_of_block h
  have h' : w.heap[q] = .cells cs t (0, 0) := by simpa [Array.getElem?_eq_getElem hlt] using h
  show (w.heap.modify q _)[q]? = _
  rw [Array.getElem?_eq_getElem (by simpa using hlt), Array.getElem_modify_self, h']
  rfl
theorem cell_at {w : World} {q j : Nat} {cs : Array Value} {u : Value} {t : TypeId} (h : w.heap[q]? = some (.cells cs t (0, 0))) (hj : cs[j]? = some u) : w.cell? ⟨q, j, none⟩ = some u ∧ w.frozen? ⟨q, j, none⟩ = false := by
  refine ⟨?_, ?_⟩ <;> simp [World.cell?, World.frozen?, h, hj]

theorem run_last46 (b o len c : Nat) (h1 : 0 < len) (h2 : len ≤ c) (W : World) : (Instr.slice 46 (.slice (some ⟨b, o, none⟩) len c) none (some (.int .i64 ((len : Int) - 1))) none).run Tryd.prog W = .ok (.slice (some ⟨b, o, none⟩) (len - 1) c) W := by
  rw [show ((len : Int) - 1) = ((len - 1 : Nat) : Int) by omega, run_slice_h (P := Tryd.prog) (w := W) 46 _ len c Tryd.underlying46 .i64 ((len - 1 : Nat) : Int) (by omega) (by omega), show Tryd.prog.elem 46 = 51 by kernel_rfl, sz51]
  by_cases h0 : c = 0 <;> simp [sliced, h0, Addr.add]
attribute [local go_sem ↓] run_last46

theorem eadd_any (B e : Nat) (l0 : List Nat) (c0 : Nat) (w : World) (hT : Tab w) (hB : B ≤ w.heap.size) (he0 : 0 < e) (hc0 : c0 < 18446744073709551616) (hl0 : ∀ n ∈ l0, n < 18446744073709551616) (hll : l0.length ≤ 100000) (hE : Eq w B e l0) (hJ : Joins (l0.map bitsL) (bitsL c0) (l0.map bitsL) 0 (bitsL c0)) :
    Calls Tryd.prog 23 #[.pointer (some ⟨e, 0, none⟩), Sm c0] w fun e1 w' => e1 = .returned (.tuple #[]) ∧ Below e w w' ∧ ∃ l c, Eq w' B e (l ++ [c]) ∧ (∀ n ∈ l ++ [c], n < 18446744073709551616) ∧ l.length ≤ l0.length ∧ Joins (l0.map bitsL) (bitsL c0) (l.map bitsL) (l.map bitsL).length (bitsL c) := by
  obtain ⟨heB, v0, hblk, hown⟩ := hE
  have hel := lt_of_block hblk
  have hb0 : Below w.heap.size w (w.alloc (.cells #[.int .u64 c0, .pointer none] 51)) := (Below.refl _ _).alloc (Nat.le_refl _) _
  have HT := Lib.hid hT
  have HBK := Lib.hid ((hb0.block e hel).trans hblk)
  have HOW := Lib.hid (own_below hown hb0)
  have hnb : v0.ownBlock ≠ some w.heap.size := fun h => by
    rcases hown.2 with ⟨rfl, _⟩ | ⟨g, cap, cur, rfl, _, hh, _⟩
    · cases h
    · simp only [Value.ownBlock] at h
      injection h with h
      rw [h] at hh
      have := lt_of_block hh
      omega
  have HNB := Lib.hid hnb
  have HJ := Lib.hid hJ
  have HL0 := Lib.hid hl0
  have HB0 := Lib.hid (hb0.mono (show e ≤ w.heap.size by omega))
  clear hT hblk hown hnb hJ hl0 hb0
  go_enter Tryd.func23, Tryd.ntmps23
  go_wp2
  go_loopg [4] l0.length (fun kq v4 wr => ∃ (i : Nat) (l : List Nat) (c : Nat) (v : Value), v4 = .int .i64 i ∧ kq + i = l.length ∧ l.length ≤ l0.length ∧ c < 18446744073709551616 ∧ Hid (∀ n ∈ l, n < 18446744073709551616) ∧ Hid (Joins (l0.map bitsL) (bitsL c0) (l.map bitsL) i (bitsL c)) ∧ Hid (wr.heap[w.heap.size]? = some (.cells #[.int .u64 c, .pointer none] 51 (0, 0))) ∧ Hid (wr.heap[e]? = some (.cells #[v] 48 (0, 0))) ∧ Hid (wr.ownsRow B 51 2 v l.length (smc l)) ∧ Hid (v.ownBlock ≠ some w.heap.size) ∧ Hid (Below e w wr))
  case atStart => exact ⟨0, l0, c0, v0, rfl, by omega, Nat.le_refl _, hc0, HL0, HJ, Lib.hid (heap_alloc_new _ _), HBK, HOW, HNB, HB0⟩
  case round =>
    obtain ⟨i, l, c, v, rfl, hki, hll2, hc, HL, HJ, HC, HE, HO, HNB, HB⟩ := hrel
    by_cases hlt : i < l.length
    · obtain ⟨gk, rfl⟩ : ∃ g, gk = g + 1 := ⟨gk - 1, by omega⟩
      obtain ⟨g, cap, cur, rfl, hgB, hg, hlc, hcm, hcs, htk⟩ : ∃ g cap cur, v = .slice (some ⟨g, 0, none⟩) l.length cap ∧ B ≤ g ∧ wr.heap[g]? = some (.cells cur 51 (0, 0)) ∧ l.length ≤ cap ∧ cap ≤ maxLen ∧ cur.size = cap * 2 ∧ cur.toList.take (l.length * 2) = smc l := by
        rcases HO.out.2 with ⟨_, h⟩ | h
        · omega
        · exact h
      have HRO := Lib.hid (ro_of_take htk)
      have hgx : g ≠ w.heap.size := fun h => HNB.out (by rw [← h]; rfl)
      have hge : g ≠ e := by omega
      have hxe : w.heap.size ≠ e := by omega
      have hgl := lt_of_block hg
      have hxl := lt_of_block HC.out
      have hel2 := lt_of_block HE.out
      obtain ⟨x0, x1, xf0, xf1⟩ := cells_two HC.out
      have e0 := cell_of_one HE.out
      have ef := free_of_one HE.out
      obtain ⟨r0, r1⟩ := HRO.out i hlt
      have c0i := (cell_at hg r0).1
      have c1i := (cell_at hg r1).1
      have hn := HL.out _ (List.getElem_mem hlt)
      obtain ⟨s0, s1⟩ := HRO.out (l.length - 1) (by omega)
      have hm := HL.out _ (List.getElem_mem (show l.length - 1 < l.length by omega))
      have HG := Lib.hid hg
      have HCM := Lib.hid (And.intro hcm hcs)
      have hal : Below wr.heap.size wr (wr.alloc (.cells #[.int .u64 l[i], .pointer none] 51)) := (Below.refl _ _).alloc (Nat.le_refl _) _
      have CI := Lib.hid (fun W (hW : Below e w W) => cintsS_any c l[i] hc hn W (tab_at HT.out hW he0))
      have CU := Lib.hid (fun W => cunionS_any c l[i] hc hn W)
      have HN := Lib.hid (or_nat c l[i] hc hn)
      have HAP := Lib.hid (fun (h : (bitsL c).any (hasB (bitsL l[i])) = false) => HJ.out.pass (by rw [List.length_map]; exact hlt) (fun u hu huc => by
        rw [List.getElem_map] at hu
        rw [List.any_eq_false] at h
        exact h u huc ((hasB_iff (srt_bitsL _) u).2 hu)))
      have HMT := Lib.hid (fun (h : (bitsL c).any (hasB (bitsL l[i])) = true) => (show Joins (l0.map bitsL) (bitsL c0) ((swapN l i).map bitsL) i (bitsL (c ||| l[i])) from by
        obtain ⟨u, huc, hu⟩ := List.any_eq_true.1 h
        rw [swap_map l i hlt, bitsL_or2]
        have hul : u ∈ (l.map bitsL)[i]'(by rw [List.length_map]; exact hlt) := by rw [List.getElem_map]; exact (hasB_iff (srt_bitsL _) u).1 hu
        exact HJ.out.join (by rw [List.length_map]; exact hlt) hul huc (srt_uni (srt_bitsL c) _).1 (fun t => by rw [(srt_uni (srt_bitsL c) _).2, List.getElem_map])))
      have HSW := Lib.hid (ro_swap HRO.out hlt (by omega))
      have HSL := Lib.hid (swapN_len l i)
      have HSM := Lib.hid (show ∀ n ∈ swapN l i, n < 18446744073709551616 from fun n hn => by
        obtain ⟨j, hj, rfl⟩ := List.getElem_of_mem hn
        rw [swapN_get hlt hj]
        split
        · exact hm
        · exact HL.out _ (List.getElem_mem _))
      generalize l[i] = n at *
      generalize l[l.length - 1] = m at *
      generalize hbv : (bitsL c).any (hasB (bitsL n)) = b at *
      clear hbv r0 r1 hg hm htk
      have X1 := Lib.hid ((hal.block _ hxl).trans HC.out)
      have E1 := Lib.hid ((hal.block _ hel2).trans HE.out)
      have G1 := Lib.hid ((hal.block _ hgl).trans HG.out)
      have hsz1 : (wr.alloc (.cells #[.int .u64 n, .pointer none] 51)).heap.size = wr.heap.size + 1 := by simp
      have HB1 := Lib.hid (HB.out.trans (hal.mono (show e ≤ wr.heap.size by omega)))
      have Y1 := Lib.hid (show (wr.alloc (.cells #[.int .u64 n, .pointer none] 51)).heap[wr.heap.size]? = some (.cells #[.int .u64 n, .pointer none] 51 (0, 0)) from heap_alloc_new _ _)
      obtain ⟨y0, y1, _, _⟩ := cells_two X1.out
      obtain ⟨v0', v1', _, _⟩ := cells_two Y1.out
      cases b with
      | false =>
        go_wp2_with (first
          | (go_at_call 34; go_loud (with_reducible refine (CI.out _ HB1.out).mono ?_); rintro e1 w2 ⟨rfl, hb2⟩; go_loud (have X2 := Lib.hid ((hb2.block _ (by omega)).trans X1.out); have E2 := Lib.hid ((hb2.block _ (by omega)).trans E1.out); have G2 := Lib.hid ((hb2.block _ (by omega)).trans G1.out); have Y2 := Lib.hid ((hb2.block _ (by omega)).trans Y1.out); have HB2 := Lib.hid (HB1.out.trans (hb2.mono (show e ≤ _ by omega))); have HO2 := Lib.hid (own_below (own_below HO.out hal) hb2); have hz2 : wr.heap.size + 1 ≤ w2.heap.size := (by have := hb2.size; omega); obtain ⟨z0, z1, _, _⟩ := cells_two X2.out; obtain ⟨q0, q1, _, _⟩ := cells_two Y2.out; clear hb2)))
        go_roundg gk
        case measure => omega
        case rel => exact ⟨i + 1, l, c, _, by go_num, by omega, hll2, hc, HL, Lib.hid (HAP.out (by simp)), X2, E2, HO2, HNB, HB2⟩
      | true =>
        go_wp2_with (first
          | (go_at_call 34; go_loud (with_reducible refine (CI.out _ HB1.out).mono ?_); rintro e1 w2 ⟨rfl, hb2⟩; go_loud (have X2 := Lib.hid ((hb2.block _ (by omega)).trans X1.out); have E2 := Lib.hid ((hb2.block _ (by omega)).trans E1.out); have G2 := Lib.hid ((hb2.block _ (by omega)).trans G1.out); have Y2 := Lib.hid ((hb2.block _ (by omega)).trans Y1.out); have HB2 := Lib.hid (HB1.out.trans (hb2.mono (show e ≤ _ by omega))); have HO2 := Lib.hid (own_below (own_below HO.out hal) hb2); have hz2 : wr.heap.size + 1 ≤ w2.heap.size := (by have := hb2.size; omega); obtain ⟨z0, z1, _, _⟩ := cells_two X2.out; obtain ⟨q0, q1, _, _⟩ := cells_two Y2.out; clear hb2))
          | (go_at_call 29; go_loud (with_reducible refine (CU.out _).mono ?_); rintro e1 w3 ⟨rfl, hb3⟩; go_loud (have X3 := Lib.hid ((hb3.block _ (by omega)).trans X2.out); have E3 := Lib.hid ((hb3.block _ (by omega)).trans E2.out); have G3 := Lib.hid ((hb3.block _ (by omega)).trans G2.out); have HB3 := Lib.hid (HB2.out.trans (hb3.mono (show e ≤ _ by omega))); obtain ⟨p0, p1, pf0, pf1⟩ := cells_two X3.out; clear hb3)))
        have hw4 : e ≤ w.heap.size := by omega
        have X4 := Lib.hid (set_two1 (u := .pointer none) (set_two0 (u := .int .u64 ((c ||| n : Nat) : Int)) X3.out))
        have E4 := Lib.hid ((set_keep (w := w3.setCell ⟨w.heap.size, 0, none⟩ (.int .u64 ((c ||| n : Nat) : Int))) (q := w.heap.size) (j := 1) (u := .pointer none) (fun h => hxe h.symm)).trans ((set_keep (w := w3) (q := w.heap.size) (j := 0) (u := .int .u64 ((c ||| n : Nat) : Int)) (fun h => hxe h.symm)).trans E3.out))
        have G4 := Lib.hid ((set_keep (w := w3.setCell ⟨w.heap.size, 0, none⟩ (.int .u64 ((c ||| n : Nat) : Int))) (q := w.heap.size) (j := 1) (u := .pointer none) hgx).trans ((set_keep (w := w3) (q := w.heap.size) (j := 0) (u := .int .u64 ((c ||| n : Nat) : Int)) hgx).trans G3.out))
        have HB4 := Lib.hid ((HB3.out.setCell (p := ⟨w.heap.size, 0, none⟩) hw4 (.int .u64 ((c ||| n : Nat) : Int))).setCell (p := ⟨w.heap.size, 1, none⟩) hw4 (.pointer none))
        generalize (w3.setCell ⟨w.heap.size, 0, none⟩ (.int .u64 ((c ||| n : Nat) : Int))).setCell ⟨w.heap.size, 1, none⟩ (.pointer none) = w4 at *
        clear X3 E3 G3 HB3 X2 E2 G2 Y2 HB2 HO2 z0 z1 q0 q1 p0 p1 pf0 pf1 X1 E1 G1 Y1 HB1 y0 y1 v0' v1' x0 x1 xf0 xf1 e0 ef c0i c1i
        have e4 := cell_of_one E4.out
        have ef4 := free_of_one E4.out
        obtain ⟨i0, if0⟩ := cell_at (u := .int .u64 (l[i] : Int)) G4.out (HRO.out i hlt).1
        obtain ⟨i1, if1⟩ := cell_at G4.out (HRO.out i hlt).2
        obtain ⟨l0', lf0⟩ := cell_at G4.out s0
        obtain ⟨l1', lf1⟩ := cell_at G4.out s1
        have hpos : 0 < l.length := by omega
        go_region
        all_goals
          have hXe : w.heap.size ≠ g := fun h => hgx h.symm
          have hEg : e ≠ g := fun h => hge h.symm
          have G5 : Hid ((((w4.setCell ⟨g, i * 2, none⟩ (.int .u64 (m : Int))).setCell ⟨g, i * 2 + 1, none⟩ (.pointer none)).drew).heap[g]? = some (.cells ((cur.setIfInBounds (i * 2) (.int .u64 (m : Int))).setIfInBounds (i * 2 + 1) (.pointer none)) 51 (0, 0))) := Lib.hid (set_at (set_at G4.out))
          have E5 : Hid ((((w4.setCell ⟨g, i * 2, none⟩ (.int .u64 (m : Int))).setCell ⟨g, i * 2 + 1, none⟩ (.pointer none)).drew).heap[e]? = some (.cells #[.slice (some ⟨g, 0, none⟩) l.length cap] 48 (0, 0))) := Lib.hid ((set_keep hEg).trans ((set_keep hEg).trans E4.out))
          have X5 : Hid ((((w4.setCell ⟨g, i * 2, none⟩ (.int .u64 (m : Int))).setCell ⟨g, i * 2 + 1, none⟩ (.pointer none)).drew).heap[w.heap.size]? = some (.cells #[.int .u64 ((c ||| n : Nat) : Int), .pointer none] 51 (0, 0))) := Lib.hid ((set_keep hXe).trans ((set_keep hXe).trans X4.out))
          have hge2 : e ≤ g := by omega
          have HB5 := Lib.hid (((HB4.out.setCell (p := ⟨g, i * 2, none⟩) hge2 (.int .u64 (m : Int))).setCell (p := ⟨g, i * 2 + 1, none⟩) hge2 (.pointer none)).drew)
          generalize ((w4.setCell ⟨g, i * 2, none⟩ (.int .u64 (m : Int))).setCell ⟨g, i * 2 + 1, none⟩ (.pointer none)).drew = w5 at *
          clear X4 E4 G4 HB4 e4 ef4 i0 i1 if0 if1 l0' l1' lf0 lf1
          have e5 := cell_of_one E5.out
          have ef5 := free_of_one E5.out
          go_wp2
          go_region
          all_goals
            go_wp2
            go_roundg gk
            case measure => omega
            case rel =>
              refine ⟨i, swapN l i, c ||| n, _, rfl, by rw [HSL.out]; omega, by rw [HSL.out]; omega, HN.out.2, HSM, Lib.hid (HMT.out (by simp)), Lib.hid ((set_keep hxe).trans X5.out), Lib.hid (one_setCell E5.out), Lib.hid ⟨smc_len _, .inr ⟨g, cap, _, by rw [HSL.out], hgB, (set_keep hge).trans G5.out, by rw [HSL.out]; omega, HCM.out.1, by simp; exact HCM.out.2, ro_take HSW.out (by rw [HSL.out]; simp; omega)⟩⟩, Lib.hid (fun h => hgx (by simpa [Value.ownBlock] using h)), Lib.hid ((HB5.out.setCell (p := ⟨e, 0, none⟩) (Nat.le_refl _) _).drew)⟩
    · obtain rfl : i = l.length := by omega
      obtain ⟨A, cap, rfl, hlc, hcm⟩ := (Rd.of_own HO.out).shape
      have hxl := lt_of_block HC.out
      have hel2 := lt_of_block HE.out
      have hxe : w.heap.size ≠ e := by omega
      obtain ⟨x0, x1, xf0, xf1⟩ := cells_two HC.out
      have e0 := cell_of_one HE.out
      have ef := free_of_one HE.out
      have HJD : Hid (Joins (l0.map bitsL) (bitsL c0) (l.map bitsL) (l.map bitsL).length (bitsL c)) := Lib.hid (by have h := HJ.out; rw [List.length_map]; exact h)
      have HLC : Hid (∀ n ∈ l ++ [c], n < 18446744073709551616) := Lib.hid (fun n hn => by
        rcases List.mem_append.1 hn with h | h
        · exact HL.out n h
        · rw [List.mem_singleton.1 h]; exact hc)
      have hbz : B ≤ wr.heap.size := by omega
      have hee : e ≤ wr.heap.size := by omega
      have HNE : Hid ((Value.slice A l.length cap).ownBlock ≠ some e) := Lib.hid (fun h => by have := own_base HO.out e h; omega)
      have E1 : Hid (((wr.alloc (.cells #[.int .u64 c, .pointer none] 51)).drew).heap[e]? = some (.cells #[.slice A l.length cap] 48 (0, 0))) := Lib.hid ((alloc_old hel2).trans HE.out)
      have HBA : Hid (Below e w (wr.alloc (.cells #[.int .u64 c, .pointer none] 51)).drew) := Lib.hid ((HB.out.alloc hee _).drew)
      have HOA : Hid ((wr.alloc (.cells #[.int .u64 c, .pointer none] 51)).drew.ownsRow B 51 2 (.slice A l.length cap) l.length (smc l)) := Lib.hid (own_below HO.out (((Below.refl _ _).alloc (Nat.le_refl _) _).drew))
      have HSZ : Hid ((wr.alloc (.cells #[.int .u64 c, .pointer none] 51)).drew.heap.size = wr.heap.size + 1) := Lib.hid (show (wr.alloc (.cells #[.int .u64 c, .pointer none] 51)).heap.size = wr.heap.size + 1 by simp)
      have HSC := Lib.hid (smc_app l [c])
      clear HJ HL
      go_wp2
      go_region_law (first
        | (refine step_rd (by rfl) (.tmp 64) (.tmp 66) 46 (by rfl) B 51 (.agg #[.int .u64 0, .pointer none]) 2 16 Tryd.underlying46 info51 rfl (by omega) (by omega) _ _ _ (by rfl) HOA.out _ 1 [.int .u64 (c : Int), .pointer none] (by rfl) (Rd.drew (Rd.of_own (World.ownsRow_lit (base := wr.heap.size) wr #[.int .u64 (c : Int), .pointer none] 1 (Nat.le_refl _) (by simp [maxLen]) rfl))) (by simp [Value.oneCell']) (by omega) (by rw [HSZ.out]; omega) ?_; intro A2 c2 w2 hown2 hg2 hat2; have E2 := Lib.hid ((hg2.block e (by rw [HSZ.out]; omega) HNE.out.symm).trans E1.out); have ec2 := cell_of_one E2.out; have ef2 := free_of_one E2.out; have HO2 := Lib.hid hown2; have HB2 := Lib.hid (HBA.out.grown hg2 (by rw [HSZ.out]; omega) (fun j hj => by have := own_base HOA.out j hj; omega)); clear hown2 hg2 hat2))
      all_goals
        go_wp2
        first | go_end0 | refine bodyPost_ret (results_none rfl _ _ _) rfl ?_
        refine ⟨rfl, ?_, l, c, ⟨heB, _, one_setCell E2.out, ?_⟩, HLC.out, hll2, HJD.out⟩
        · exact HB2.out.setCell (p := ⟨e, 0, none⟩) (Nat.le_refl _) _
        · have h := ownsRow_setCell_below HO2.out (a := ⟨e, 0, none⟩) heB (.slice A2 (l.length + 1) c2)
          rw [HSC.out, List.length_append]
          exact h
end Go.Proofs.YtbhlhgfgkiclgaaDoor.Set

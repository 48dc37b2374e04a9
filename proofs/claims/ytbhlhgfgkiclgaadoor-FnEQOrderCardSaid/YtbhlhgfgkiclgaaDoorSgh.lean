/- The walk of EQSets. Conditions: the listed table of math/bits reads as listed; those written at each lemma. -/
import Derived.Test.YtbhlhgfgkiclgaaDoorSgf
set_option linter.unusedVariables false
set_option linter.unusedSimpArgs false
set_option maxRecDepth 100000
set_option maxHeartbeats 8000000
namespace Go.Proofs.YtbhlhgfgkiclgaaDoor.Set
open Go.RowKit Go.Proofs.YtbhlhgfgkiclgaaDoor.B

theorem con_cons {L M : List (List Int)} (c : List Int) (h : ∀ u v, Con L u v ↔ Con M u v) (u v : Int) : Con (c :: L) u v ↔ Con (c :: M) u v := by
  constructor
  · refine Con.into fun s hs p q hp hq => ?_
    rcases List.mem_cons.1 hs with rfl | hs
    · exact .base List.mem_cons_self hp hq
    · exact Con.sub (fun s hs => List.mem_cons_of_mem _ hs) ((h p q).1 (.base hs hp hq))
  · refine Con.into fun s hs p q hp hq => ?_
    rcases List.mem_cons.1 hs with rfl | hs
    · exact .base List.mem_cons_self hp hq
    · exact Con.sub (fun s hs => List.mem_cons_of_mem _ hs) ((h p q).2 (.base hs hp hq))
theorem ptr_eq65 (b o : Nat) (W : World) : (binOp .eql 65 (.pointer (some ⟨b, o, none⟩)) (.pointer none)).run Tryd.prog W = .ok (.bool false) W := by kernel_rfl

theorem sets_any (e : Nat) (v : Value) (w : World) (h : w.heap[e]? = some (.cells #[v] 48 (0, 0))) : Calls Tryd.prog 26 #[.pointer (some ⟨e, 0, none⟩)] w fun e1 w' => e1 = .returned v ∧ w = w' := by
  have c0 := cell_of_one h
  have p := ptr_eq65 e 0
  clear h
  go_enter Tryd.func26, Tryd.ntmps26
  go_wp2
  go_ret
  exact ⟨rfl, rfl⟩

/-- What EQSets hands back. -/
def Eqd (xss : List (List Int)) (w : World) (e : Ending) (w' : World) : Prop := ∃ (v : Value) (ns : List Nat), e = .returned v ∧ OL w' w.heap.size v (ns.map upB) ∧ Part (ns.map bitsL) ∧ (∀ u v, Con (ns.map bitsL) u v ↔ Con xss u v) ∧ ns.length ≤ xss.length ∧ Below w.heap.size w w'
theorem eqSets_any (v : Value) (xss : List (List Int)) (w : World) (hT : Tab w) (h0 : 0 < w.heap.size) (hr : RL w v (xss.map up)) (hx : ∀ xs ∈ xss, Srt xs ∧ xs ≠ [] ∧ ∀ u ∈ xs, 0 ≤ u ∧ u < 64) (hl : xss.length ≤ 100000) :
    Calls Tryd.prog 13 #[v] w fun e w' => Eqd xss w e w' := by
  obtain ⟨vs, A, c, rfl, hrd, hall⟩ := hr
  obtain ⟨N, hN⟩ : ∃ N, N = (xss.map up).length := ⟨_, rfl⟩
  have HNN := Lib.hid (hN.trans (List.length_map up))
  have HG := Lib.hid (fun k hk => RL.get hrd hall k hk)
  rw [← hN]
  have HT := Lib.hid hT
  have HX := Lib.hid hx
  have hNl : N ≤ 100000 := by rw [HNN.out]; exact hl
  clear hrd hall hT hx hN hl
  go_enter Tryd.func13, Tryd.ntmps13
  go_wp2
  go_loopw [8] (fun v8 wr => ∃ (k : Nat) (ns : List Nat), v8 = .int .i64 k ∧ k ≤ N ∧ ns.length ≤ k ∧ Hid (∀ n ∈ ns, n < 18446744073709551616) ∧ Hid (Eq wr (w.heap.size + 1) w.heap.size ns) ∧ Hid (Part (ns.map bitsL)) ∧ Hid (∀ u v, Con (ns.map bitsL) u v ↔ Con (xss.take k) u v) ∧ Hid (Below w.heap.size w wr) ∧ w.heap.size + 1 ≤ wr.heap.size) (fun v8 _ => (N - (intOf v8)).toNat)
  case atStart => exact ⟨0, [], rfl, Nat.zero_le _, Nat.le_refl _, Lib.hid (by simp), Lib.hid ⟨by omega, _, heap_alloc_new _ _, World.ownsRow_nil _ _ _ _⟩, Lib.hid ⟨List.Pairwise.nil, by simp⟩, Lib.hid (fun _ _ => Iff.rfl), Lib.hid ((Below.refl _ _).alloc (Nat.le_refl _) _), by simp⟩
  case round =>
    obtain ⟨k, ns, rfl, hk, hnk, HNS, HE, HP, HC, HB, hsz⟩ := hrel
    by_cases hlt : k < N
    · have hk1 : k < (xss.map up).length := by rw [List.length_map, ← HNN.out]; exact hlt
      have hk2 : k < xss.length := by rw [← HNN.out]; exact hlt
      obtain ⟨b, o, A2, c2, rfl, hb, hc, hR⟩ := HG.out k hk1
      have hcw : wr.cell? ⟨b, o + k, none⟩ = some (.slice A2 (xss.map up)[k].length c2) := (HB.out.cell (p := ⟨b, o + k, none⟩) hb).trans hc
      have he : (xss.map up)[k] = up xss[k] := List.getElem_map _
      rw [he] at hcw hR
      obtain ⟨hx1, hx2, hx3⟩ := HX.out _ (List.getElem_mem hk2)
      have CL := Lib.hid (colsS_any _ xss[k] wr (hR.below HB.out) hx1 hx3)
      have HTK := Lib.hid (show xss.take (k + 1) = xss.take k ++ [xss[k]] from List.take_succ_eq_append_getElem hk2)
      have HX1 := Lib.hid (And.intro hx1 hx2)
      clear he hR hc hx1 hx2 hx3
      generalize xss[k] = xs at *
      have AD := Lib.hid (fun W n (hW : Below wr.heap.size wr W) (hn : n < 18446744073709551616) (hbx : bitsL n = xs) => eadd_any (w.heap.size + 1) w.heap.size ns n W (tab_below (tab_below HT.out HB.out) hW) (Nat.le_trans hsz hW.size) h0 hn HNS.out (by omega) (by
          obtain ⟨h1, v1, h2, h3⟩ := HE.out
          exact ⟨h1, v1, by rw [hW.block _ (lt_of_block h2)]; exact h2, own_below h3 hW⟩) (Joins.start HP.out.1 HP.out.2 (by rw [hbx]; exact HX1.out)))
      go_wp2_with (first
        | (go_at_call 24; go_loud (with_reducible refine CL.out.mono ?_); rintro e w2 ⟨n, rfl, hn, hbx, hb2⟩; have HBX := Lib.hid hbx; have HB2 := Lib.hid hb2; clear hbx hb2)
        | (go_at_call 23; go_loud (with_reducible refine (AD.out _ _ HB2.out hn HBX.out).mono ?_); rintro e w3 ⟨rfl, hb3, l, c3, hE3, hns3, hl3, hJ3⟩; have HB3 := Lib.hid ((HB.out.trans (HB2.out.mono (show w.heap.size ≤ wr.heap.size by omega))).trans hb3); have HE3 := Lib.hid hE3; have HN3 := Lib.hid hns3; have HJ3 := Lib.hid hJ3.done; have hz3 : w.heap.size + 1 ≤ w3.heap.size := (Nat.le_trans hsz (Nat.le_trans HB2.out.size hb3.size)); clear hE3 hns3 hJ3 hb3))
      go_roundw
      case rel =>
        refine ⟨k + 1, l ++ [c3], by go_num, by omega, by simp; omega, HN3, HE3, Lib.hid (by rw [List.map_append]; exact HJ3.out.1), Lib.hid (fun u v => ?_), HB3, hz3⟩
        rw [List.map_append, HTK.out]
        refine (HJ3.out.2 u v).trans ?_
        rw [HBX.out]
        refine (con_cons xs HC.out u v).trans ?_
        exact ⟨Con.sub fun s hs => by simp at hs ⊢; exact hs.symm, Con.sub fun s hs => by simp at hs ⊢; exact hs.symm⟩
      case measure => simp [intOf]; omega
    · have hkN : k = N := by omega
      subst hkN
      obtain ⟨_, v1, hblk, hown⟩ := HE.out
      have SE := Lib.hid (sets_any _ v1 wr hblk)
      have TU := Lib.hid (turned_any v1 ns wr (tab_below HT.out HB.out) (Rd.of_own hown) HNS.out (by omega))
      have HCF : Hid (∀ u v, Con (ns.map bitsL) u v ↔ Con xss u v) := Lib.hid (by have h := HC.out; rwa [HNN.out, List.take_length] at h)
      have HLE : Hid (ns.length ≤ xss.length) := Lib.hid (by rw [← HNN.out]; exact hnk)
      clear hblk hown
      go_wp2_with (first
        | (go_at_call 26; go_loud (with_reducible refine SE.out.mono ?_); rintro e w2 ⟨rfl, rfl⟩)
        | (go_at_call 25; go_loud (with_reducible refine TU.out.mono ?_); rintro e w3 ⟨v3, rfl, hr3, hb3⟩; have HR3 := Lib.hid (hr3.mono HB.out.size); have HB3 := Lib.hid (HB.out.trans (hb3.mono HB.out.size)); clear hr3 hb3))
      go_ret
      exact ⟨_, ns, rfl, HR3.out, HP.out, HCF.out, HLE.out, HB3.out⟩
end Go.Proofs.YtbhlhgfgkiclgaaDoor.Set

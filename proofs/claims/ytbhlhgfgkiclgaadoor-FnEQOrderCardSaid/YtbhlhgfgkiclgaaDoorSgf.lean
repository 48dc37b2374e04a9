/- Lists of lists in memory; the walks of the sets' lists. Conditions: the listed table of math/bits reads as listed; those written at each lemma. -/
import Derived.Test.YtbhlhgfgkiclgaaDoorSge
set_option linter.unusedVariables false
set_option linter.unusedSimpArgs false
set_option maxRecDepth 100000
set_option maxHeartbeats 8000000
namespace Go.Proofs.YtbhlhgfgkiclgaaDoor.Set
open Go.RowKit Go.Proofs.YtbhlhgfgkiclgaaDoor.B

theorem info22 : (Tryd.prog.info? 22).map (fun i => (i.zero, i.size, i.bytes)) = some (some (.slice none 0 0), 1, 24) := by kernel_rfl
/-- One list, read by the value v. -/
def R1 (W : World) (v : Value) (l : List Int) : Prop := ∃ A c, v = .slice A l.length c ∧ Rd W 1 v l.length (nums l)
theorem R1.below {W W1 : World} {v : Value} {l : List Int} (h : R1 W v l) (hb : Below W.heap.size W W1) : R1 W1 v l := by
  obtain ⟨A, c, h1, h2⟩ := h
  exact ⟨A, c, h1, h2.below hb⟩
theorem R1.of {W : World} {v : Value} {l : List Int} (h : Rd W 1 v l.length (nums l)) : R1 W v l := by
  obtain ⟨A, c, rfl, _⟩ := h.shape
  exact ⟨A, c, rfl, h⟩
/-- Values and lists, one by one. -/
def All1 (P : Value → List Int → Prop) (vs : List Value) (ls : List (List Int)) : Prop := vs.length = ls.length ∧ ∀ i (h : i < vs.length) (h2 : i < ls.length), P vs[i] ls[i]
theorem All1.imp {P Q : Value → List Int → Prop} {vs : List Value} {ls : List (List Int)} (h : All1 P vs ls) (hi : ∀ v l, P v l → Q v l) : All1 Q vs ls := ⟨h.1, fun i h1 h2 => hi _ _ (h.2 i h1 h2)⟩
theorem All1.nil (P : Value → List Int → Prop) : All1 P [] [] := ⟨rfl, fun i h => by simp at h⟩
theorem All1.push {P : Value → List Int → Prop} {vs : List Value} {ls : List (List Int)} {v : Value} {l : List Int} (h : All1 P vs ls) (hv : P v l) : All1 P (vs ++ [v]) (ls ++ [l]) := by
  refine ⟨by simp [h.1], fun i h1 h2 => ?_⟩
  by_cases hi : i < vs.length
  · rw [List.getElem_append_left hi, List.getElem_append_left (by rw [← h.1]; exact hi)]
    exact h.2 i hi _
  · have e : i = vs.length := by simp at h1; omega
    subst e
    rw [List.getElem_append_right (Nat.le_refl _), List.getElem_append_right (by rw [h.1]; exact Nat.le_refl _)]
    simp only [Nat.sub_self, List.getElem_cons_zero, h.1]
    exact hv
/-- One list, in a row of the call's own. -/
def O1 (W : World) (B : Nat) (v : Value) (l : List Int) : Prop := ∃ A c, v = .slice A l.length c ∧ W.ownsRow B 3 1 v l.length (nums l)
theorem O1.r1 {W : World} {B : Nat} {v : Value} {l : List Int} (h : O1 W B v l) : R1 W v l := by
  obtain ⟨A, c, h1, h2⟩ := h
  exact ⟨A, c, h1, Rd.of_own h2⟩
theorem O1.of {W : World} {B : Nat} {v : Value} {l : List Int} (h : W.ownsRow B 3 1 v l.length (nums l)) : O1 W B v l := by
  obtain ⟨A, c, rfl, _⟩ := (Rd.of_own h).shape
  exact ⟨A, c, rfl, h⟩
theorem O1.below {W W1 : World} {B : Nat} {v : Value} {l : List Int} (h : O1 W B v l) (hb : Below W.heap.size W W1) : O1 W1 B v l := by
  obtain ⟨A, c, h1, h2⟩ := h
  exact ⟨A, c, h1, own_below h2 hb⟩
theorem own_grown {W W1 : World} {B B2 : Nat} {e e2 : TypeId} {s s2 n n2 : Nat} {v u : Value} {xs ys : List Value} (h : W.ownsRow B e s v n xs) (hu : W.ownsRow B2 e2 s2 u n2 ys) (he : e ≠ e2) (hg : W.grownBy W1 u.ownBlock) : W1.ownsRow B e s v n xs := by
  refine ⟨h.1, ?_⟩
  rcases h.2 with h2 | ⟨g, cap, cur, h1, h2, h3, h4⟩
  · exact .inl h2
  · refine .inr ⟨g, cap, cur, h1, h2, ?_, h4⟩
    rw [hg.block g (lt_of_block h3) (fun e1 => ?_)]
    · exact h3
    · rcases hu.2 with ⟨rfl, _⟩ | ⟨g2, cap2, cur2, rfl, _, h5, _⟩
      · cases e1
      · simp only [Value.ownBlock] at e1
        injection e1 with e1
        subst e1
        rw [h3] at h5
        injection h5 with h5
        injection h5 with _ h5 _
        exact he h5
theorem O1.grown {W W1 : World} {B B2 : Nat} {v u : Value} {l : List Int} {n : Nat} {vs : List Value} (h : O1 W B v l) (hu : W.ownsRow B2 22 1 u n vs) (hg : W.grownBy W1 u.ownBlock) : O1 W1 B v l := by
  obtain ⟨A, c, h1, h2⟩ := h
  exact ⟨A, c, h1, own_grown h2 hu (by decide) hg⟩
/-- A list of lists. -/
def RL (W : World) (v : Value) (ls : List (List Int)) : Prop := ∃ vs A c, v = .slice A ls.length c ∧ Rd W 1 v ls.length vs ∧ All1 (R1 W) vs ls
theorem RL.below {W W1 : World} {v : Value} {ls : List (List Int)} (h : RL W v ls) (hb : Below W.heap.size W W1) : RL W1 v ls := by
  obtain ⟨vs, A, c, h1, h2, h3⟩ := h
  exact ⟨vs, A, c, h1, h2.below hb, h3.imp fun _ _ h => h.below hb⟩
/-- The list number k. -/
theorem RL.get {W : World} {A : Option Addr} {n c : Nat} {ls : List (List Int)} {vs : List Value} (hr : Rd W 1 (.slice A n c) n vs) (ha : All1 (R1 W) vs ls) (k : Nat) (hk : k < ls.length) : ∃ b o A2 c2, A = some ⟨b, o, none⟩ ∧ b < W.heap.size ∧ W.cell? ⟨b, o + k, none⟩ = some (.slice A2 ls[k].length c2) ∧ Rd W 1 (.slice A2 ls[k].length c2) ls[k].length (nums ls[k]) := by
  have hl := hr.len
  have hkv : k < vs.length := by rw [ha.1]; exact hk
  obtain ⟨b, o, c', e, _, _, hb, hc⟩ := hr.open (by omega)
  injection e with e1 e2 e3
  obtain ⟨A2, c2, e, hR⟩ := ha.2 k hkv hk
  have h1 := hc k _ (List.getElem?_eq_getElem hkv)
  rw [e] at h1 hR
  exact ⟨b, o, A2, c2, e1, hb, h1, hR⟩

/-- A list of lists in memory of the call's own. -/
def OL (W : World) (B : Nat) (v : Value) (ls : List (List Int)) : Prop := ∃ vs, W.ownsRow B 22 1 v ls.length vs ∧ All1 (O1 W B) vs ls
theorem OL.rl {W : World} {B : Nat} {v : Value} {ls : List (List Int)} (h : OL W B v ls) : RL W v ls := by
  obtain ⟨vs, h1, h2⟩ := h
  obtain ⟨A, c, rfl, _⟩ := (Rd.of_own h1).shape
  exact ⟨vs, A, c, rfl, Rd.of_own h1, h2.imp fun _ _ h => h.r1⟩
theorem OL.below {W W1 : World} {B : Nat} {v : Value} {ls : List (List Int)} (h : OL W B v ls) (hb : Below W.heap.size W W1) : OL W1 B v ls := by
  obtain ⟨vs, h1, h2⟩ := h
  exact ⟨vs, own_below h1 hb, h2.imp fun _ _ h => h.below hb⟩
theorem OL.mono {W : World} {B B1 : Nat} {v : Value} {ls : List (List Int)} (h : OL W B v ls) (hb : B1 ≤ B) : OL W B1 v ls := by
  obtain ⟨vs, h1, h2⟩ := h
  exact ⟨vs, h1.mono hb, h2.imp fun _ _ h => by
    obtain ⟨A, c, e, h3⟩ := h
    exact ⟨A, c, e, h3.mono hb⟩⟩
theorem own_grown_lt {W W1 : World} {B : Nat} {e : TypeId} {s n : Nat} {v : Value} {xs : List Value} {r : Option Nat} (h : W.ownsRow B e s v n xs) (hr : ∀ k, r = some k → k < B) (hg : W.grownBy W1 r) : W1.ownsRow B e s v n xs := by
  refine ⟨h.1, ?_⟩
  rcases h.2 with h2 | ⟨g, cap, cur, h1, h2, h3, h4⟩
  · exact .inl h2
  · refine .inr ⟨g, cap, cur, h1, h2, ?_, h4⟩
    rw [hg.block g (lt_of_block h3) (fun e1 => ?_)]
    · exact h3
    · have := hr g e1.symm
      omega
theorem OL.grown {W W1 : World} {B : Nat} {v : Value} {ls : List (List Int)} {r : Option Nat} (h : OL W B v ls) (hr : ∀ k, r = some k → k < B) (hg : W.grownBy W1 r) : OL W1 B v ls := by
  obtain ⟨vs, h1, h2⟩ := h
  exact ⟨vs, own_grown_lt h1 hr hg, h2.imp fun _ _ h => by
    obtain ⟨A, c, e, h3⟩ := h
    exact ⟨A, c, e, own_grown_lt h3 hr hg⟩⟩

theorem idsS_any (n : Nat) (w : World) (hn : n < 18446744073709551616) (hT : Tab w) :
    Calls Tryd.prog 27 #[Sm n] w fun e w' => ∃ A c, e = .returned (.slice A (up (bitsL n)).length c) ∧ O1 w' w.heap.size (.slice A (up (bitsL n)).length c) (up (bitsL n)) ∧ Below w.heap.size w w' := by
  have hlen : (bitsL n).length ≤ 64 := srt_len (srt_bitsL n) 63 (fun u hu => by have := nn_bitsL n u hu; omega)
  refine (ids_any 0 _ _ (bitsL n) w hT (fv_small n hn) (by omega) (fun u hu => by have := nn_bitsL n u hu; omega)).mono ?_
  rintro e w' ⟨v, rfl, ho, hb⟩
  rw [← up_len] at ho
  obtain ⟨A, c, rfl, h⟩ := O1.of ho
  exact ⟨A, c, rfl, ⟨A, c, rfl, h⟩, hb⟩

def upB (n : Nat) : List Int := up (bitsL n)
theorem turned_any (v : Value) (ns : List Nat) (w : World) (hT : Tab w) (hr : Rd w 2 v ns.length (smc ns)) (hns : ∀ n ∈ ns, n < 18446744073709551616) (hl : ns.length ≤ 100000) :
    Calls Tryd.prog 25 #[v, .func (.func 27) #[] #[]] w fun e w' => ∃ v', e = .returned v' ∧ OL w' w.heap.size v' (ns.map upB) ∧ Below w.heap.size w w' := by
  obtain ⟨A, c, rfl, hlc, hcm⟩ := hr.shape
  have HR := Lib.hid hr
  have HT := Lib.hid hT
  have HN := Lib.hid hns
  clear hr hT hns
  go_enter Tryd.func25, Tryd.ntmps25
  go_wp2
  go_loopw [5, 10] (fun v5 v10 wr => ∃ (k : Nat) (vs : List Value), v10 = .int .i64 k ∧ k ≤ ns.length ∧ Hid (wr.ownsRow w.heap.size 22 1 v5 k vs) ∧ Hid (All1 (O1 wr w.heap.size) vs ((ns.take k).map upB)) ∧ Hid (Below w.heap.size w wr)) (fun _ v10 _ => (ns.length - (intOf v10)).toNat)
  case atStart => exact ⟨0, [], rfl, Nat.zero_le _, Lib.hid (World.ownsRow_nil _ _ _ _), Lib.hid (All1.nil _), Lib.hid (Below.refl _ _)⟩
  case round =>
    obtain ⟨k, vs, rfl, hk, HO, HA, HB⟩ := hrel
    by_cases hlt : k < ns.length
    · obtain ⟨b, o, c', e, _, _, hb, hc⟩ := HR.out.open (by omega)
      injection e with e1 e2 e3
      subst e1
      clear e2 e3
      obtain ⟨g0, g1⟩ := smc_get ns k hlt
      have c0 : wr.cell? ⟨b, o + k * 2, none⟩ = some (.int .u64 ns[k]) := (HB.out.cell (p := ⟨b, o + k * 2, none⟩) hb).trans (hc _ _ g0)
      have c1 : wr.cell? ⟨b, o + k * 2 + 1, none⟩ = some (.pointer none) := (HB.out.cell (p := ⟨b, o + k * 2 + 1, none⟩) hb).trans (by have h := hc _ _ g1; rwa [show o + (k * 2 + 1) = o + k * 2 + 1 by omega] at h)
      have hn := HN.out _ (List.getElem_mem hlt)
      have HM := Lib.hid (show (ns.take (k + 1)).map upB = (ns.take k).map upB ++ [upB ns[k]] from by rw [List.take_succ_eq_append_getElem hlt, List.map_append]; rfl)
      have ID := Lib.hid (fun W (hW : Below w.heap.size w W) => idsS_any ns[k] W hn (tab_below HT.out hW))
      have hbs := HB.out.size
      have hbs1 : w.heap.size ≤ (wr.alloc (.cells #[.int .u64 ns[k], .pointer none] 51)).heap.size := by simp; omega
      clear hc g0 g1
      generalize ns[k] = n at *
      have HBA := Lib.hid (HB.out.alloc hbs (.cells #[.int .u64 n, .pointer none] 51))
      have HOA := Lib.hid (own_below HO.out ((Below.refl _ _).alloc (Nat.le_refl _) (.cells #[.int .u64 n, .pointer none] 51)))
      have HAA := Lib.hid (HA.out.imp fun _ _ h => h.below ((Below.refl _ _).alloc (Nat.le_refl _) (.cells #[.int .u64 n, .pointer none] 51)))
      obtain ⟨y0, y1, _, _⟩ := cells_two (heap_alloc_new wr (.cells #[.int .u64 n, .pointer none] 51))
      go_wp2_with (first
        | (go_at_call 27; go_loud (with_reducible refine (ID.out _ HBA.out).mono ?_); rintro e w2 ⟨A2, c2, rfl, hr2, hb2⟩; go_loud (have R2 := Lib.hid (show O1 w2 w.heap.size _ _ from by (obtain ⟨A', c', e', ho'⟩ := hr2; exact ⟨A', c', e', ho'.mono hbs1⟩)); have HO2 := Lib.hid (own_below HOA.out hb2); have HA2 := Lib.hid (HAA.out.imp fun _ _ h => h.below hb2); have HB2 := Lib.hid (HBA.out.trans (hb2.mono HBA.out.size)); clear hr2 hb2))
        | (at_builtin; go_loud (refine app1 (w0 := w) w.heap.size rfl (.tmp 14) (.tmp 18) 29 22 (.slice none 0 0) 1 24 rfl Tryd.underlying29 info22 rfl (by omega) (by omega) u5 _ _ _ rfl rfl rfl (one1 rfl) HO2.out HB2.out HB2.out.size (by omega) ?_); intro v3 w3 hown3 hb3 hg3 _; have HO3 := Lib.hid hown3; have HB3 := Lib.hid hb3; have HG3 := Lib.hid hg3; clear hown3 hb3 hg3))
      go_roundw
      case rel => exact ⟨k + 1, vs ++ [.slice A2 (up (bitsL n)).length c2], by go_num, by omega, Lib.hid HO3.out, Lib.hid (by rw [HM.out]; exact (HA2.out.push (l := upB n) R2.out).imp fun _ _ h => h.grown HO2.out HG3.out), HB3⟩
      case measure => simp [intOf]; omega
    · obtain rfl : k = ns.length := by omega
      rw [List.take_length] at HA
      obtain ⟨A3, c3, rfl, _⟩ := (Rd.of_own HO.out).shape
      go_wp2
      go_ret
      exact ⟨_, rfl, ⟨vs, by rw [List.length_map]; exact HO.out, HA.out⟩, HB.out⟩
end Go.Proofs.YtbhlhgfgkiclgaaDoor.Set

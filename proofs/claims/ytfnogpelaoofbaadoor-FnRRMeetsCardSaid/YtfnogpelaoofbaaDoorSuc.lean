/- Lists of lists of ranges in memory; ranges as lists of one; whether one of some ranges has the values at places. Conditions: those written at each lemma. -/
import Derived.Test.YtfnogpelaoofbaaDoorSub
set_option linter.unusedVariables false
set_option linter.unusedSimpArgs false
set_option maxRecDepth 100000
set_option maxHeartbeats 4000000
namespace Go.Proofs.YtfnogpelaoofbaaDoor.Rg
open Go.RowKit Go.Proofs.YtfnogpelaoofbaaDoor.B Go.Proofs.YtfnogpelaoofbaaDoor.Sp

/-- One list of ranges, read by the value v. -/
def R1 (W : World) (v : Value) (l : List Cl) : Prop := ∃ A c, v = .slice A l.length c ∧ Rd W 4 v l.length (clc l)
theorem R1.below {W W1 : World} {v : Value} {l : List Cl} (h : R1 W v l) (hb : Below W.heap.size W W1) : R1 W1 v l := by
  obtain ⟨A, c, h1, h2⟩ := h
  exact ⟨A, c, h1, h2.below hb⟩
theorem R1.of {W : World} {v : Value} {l : List Cl} (h : Rd W 4 v l.length (clc l)) : R1 W v l := by
  obtain ⟨A, c, rfl, _⟩ := h.shape
  exact ⟨A, c, rfl, h⟩
/-- Values and what they read as, one by one. -/
def All1 {α : Type} (P : Value → α → Prop) (vs : List Value) (ls : List α) : Prop := vs.length = ls.length ∧ ∀ i (h : i < vs.length) (h2 : i < ls.length), P vs[i] ls[i]
section
variable {α : Type} {P Q : Value → α → Prop} {vs : List Value} {ls : List α}
theorem All1.imp (h : All1 P vs ls) (hi : ∀ v l, P v l → Q v l) : All1 Q vs ls := ⟨h.1, fun i h1 h2 => hi _ _ (h.2 i h1 h2)⟩
theorem All1.nil (P : Value → α → Prop) : All1 P [] [] := ⟨rfl, fun i h => by simp at h⟩
theorem All1.push {v : Value} {l : α} (h : All1 P vs ls) (hv : P v l) : All1 P (vs ++ [v]) (ls ++ [l]) := by
  refine ⟨by simp [h.1], fun i h1 h2 => ?_⟩
  by_cases hi : i < vs.length
  · rw [List.getElem_append_left hi, List.getElem_append_left (by rw [← h.1]; exact hi)]
    exact h.2 i hi _
  · have e : i = vs.length := by simp at h1; omega
    subst e
    rw [List.getElem_append_right (Nat.le_refl _), List.getElem_append_right (by rw [h.1]; exact Nat.le_refl _)]
    simp only [Nat.sub_self, List.getElem_cons_zero, h.1]
    exact hv
end
/-- One list, in a row of the call's own. -/
def O1 (W : World) (B : Nat) (v : Value) (l : List Cl) : Prop := ∃ A c, v = .slice A l.length c ∧ W.ownsRow B 27 4 v l.length (clc l)
theorem O1.r1 {W : World} {B : Nat} {v : Value} {l : List Cl} (h : O1 W B v l) : R1 W v l := by
  obtain ⟨A, c, h1, h2⟩ := h
  exact ⟨A, c, h1, Rd.of_own h2⟩
theorem O1.of {W : World} {B : Nat} {v : Value} {l : List Cl} (h : W.ownsRow B 27 4 v l.length (clc l)) : O1 W B v l := by
  obtain ⟨A, c, rfl, _⟩ := (Rd.of_own h).shape
  exact ⟨A, c, rfl, h⟩
theorem O1.below {W W1 : World} {B : Nat} {v : Value} {l : List Cl} (h : O1 W B v l) (hb : Below W.heap.size W W1) : O1 W1 B v l := by
  obtain ⟨A, c, h1, h2⟩ := h
  exact ⟨A, c, h1, own_below h2 hb⟩
theorem lt_of_block {W : World} {k : Nat} {x : Obj} (h : W.heap[k]? = some x) : k < W.heap.size := Rv.lt_of_blk h
theorem own_grown {W W1 : World} {B B2 : Nat} {e e2 : TypeId} {s s2 n n2 : Nat} {v u : Value} {xs ys : List Value} (h : W.ownsRow B e s v n xs) (hu : W.ownsRow B2 e2 s2 u n2 ys) (he : e ≠ e2) (hg : W.grownBy W1 u.ownBlock) : W1.ownsRow B e s v n xs := by
  refine ⟨h.1, ?_⟩
  rcases h.2 with h2 | ⟨g, cap, cur, h1, h2, h3, h4⟩
  · exact .inl h2
  · refine .inr ⟨g, cap, cur, h1, h2, ?_, h4⟩
    rw [hg.block g (lt_of_block h3) (fun e1 => ?_)]
    · exact h3
    · rcases hu.2 with ⟨rfl, _⟩ | ⟨g2, cap2, cur2, rfl, _, h5, _⟩
      · cases e1
      · simp only [Value.ownBlock] at e1
        injection e1 with e1
        subst e1
        rw [h3] at h5
        injection h5 with h5
        injection h5 with _ h5 _
        exact he h5
theorem O1.grown {W W1 : World} {B B2 : Nat} {v u : Value} {l : List Cl} {n : Nat} {vs : List Value} (h : O1 W B v l) (hu : W.ownsRow B2 28 1 u n vs) (hg : W.grownBy W1 u.ownBlock) : O1 W1 B v l := by
  obtain ⟨A, c, h1, h2⟩ := h
  exact ⟨A, c, h1, own_grown h2 hu (by decide) hg⟩
/-- A list of lists. -/
def RL (W : World) (v : Value) (ls : List (List Cl)) : Prop := ∃ vs A c, v = .slice A ls.length c ∧ Rd W 1 v ls.length vs ∧ All1 (R1 W) vs ls
theorem RL.below {W W1 : World} {v : Value} {ls : List (List Cl)} (h : RL W v ls) (hb : Below W.heap.size W W1) : RL W1 v ls := by
  obtain ⟨vs, A, c, h1, h2, h3⟩ := h
  exact ⟨vs, A, c, h1, h2.below hb, h3.imp fun _ _ h => h.below hb⟩
/-- The list number k. -/
theorem RL.get {W : World} {A : Option Addr} {n c : Nat} {ls : List (List Cl)} (h : RL W (.slice A n c) ls) (k : Nat) (hk : k < ls.length) : ∃ b o A2 c2, A = some ⟨b, o, none⟩ ∧ b < W.heap.size ∧ W.cell? ⟨b, o + k, none⟩ = some (.slice A2 ls[k].length c2) ∧ Rd W 4 (.slice A2 ls[k].length c2) ls[k].length (clc ls[k]) := by
  obtain ⟨vs, A', c', e, hr, ha⟩ := h
  injection e with e1 e2 e3
  subst e1 e2 e3
  have hl := hr.len
  have hkv : k < vs.length := by rw [ha.1]; exact hk
  obtain ⟨b, o, c', e, _, _, hb, hc⟩ := hr.open (by omega)
  injection e with e1 e2 e3
  obtain ⟨A2, c2, e, hR⟩ := ha.2 k hkv hk
  have h1 := hc k _ (List.getElem?_eq_getElem hkv)
  rw [e] at h1 hR
  exact ⟨b, o, A2, c2, e1, hb, h1, hR⟩
/-- A list of lists in memory of the call's own. -/
def OL (W : World) (B : Nat) (v : Value) (ls : List (List Cl)) : Prop := ∃ vs, W.ownsRow B 28 1 v ls.length vs ∧ All1 (O1 W B) vs ls
theorem OL.rl {W : World} {B : Nat} {v : Value} {ls : List (List Cl)} (h : OL W B v ls) : RL W v ls := by
  obtain ⟨vs, h1, h2⟩ := h
  obtain ⟨A, c, rfl, _⟩ := (Rd.of_own h1).shape
  exact ⟨vs, A, c, rfl, Rd.of_own h1, h2.imp fun _ _ h => h.r1⟩
theorem OL.below {W W1 : World} {B : Nat} {v : Value} {ls : List (List Cl)} (h : OL W B v ls) (hb : Below W.heap.size W W1) : OL W1 B v ls := by
  obtain ⟨vs, h1, h2⟩ := h
  exact ⟨vs, own_below h1 hb, h2.imp fun _ _ h => h.below hb⟩
theorem OL.mono {W : World} {B B1 : Nat} {v : Value} {ls : List (List Cl)} (h : OL W B v ls) (hb : B1 ≤ B) : OL W B1 v ls := by
  obtain ⟨vs, h1, h2⟩ := h
  exact ⟨vs, h1.mono hb, h2.imp fun _ _ h => by
    obtain ⟨A, c, e, h3⟩ := h
    exact ⟨A, c, e, h3.mono hb⟩⟩

theorem lists_any (v : Value) (cs : List Cl) (w : World) (hr : Rd w 4 v cs.length (clc cs)) (hl : cs.length ≤ 100000) :
    Calls Tryd.prog 25 #[v] w fun e w' => ∃ A c, e = .returned (.slice A cs.length c) ∧ RL w' (.slice A cs.length c) (cs.map fun x => [x]) ∧ Below w.heap.size w w' := by
  obtain ⟨A, c, rfl, hlc, hcm⟩ := hr.shape
  have HR := Lib.hid hr
  clear hr
  go_enter Tryd.func25, Tryd.ntmps25
  go_wp2
  go_loopw [3, 4] (fun v3 v4 wr => ∃ (k : Nat) (vs : List Value), v4 = .int .i64 k ∧ k ≤ cs.length ∧ Hid (wr.ownsRow w.heap.size 28 1 v3 k vs) ∧ Hid (All1 (O1 wr w.heap.size) vs ((cs.take k).map fun x => [x])) ∧ Hid (Below w.heap.size w wr)) (fun _ v4 _ => (cs.length - (intOf v4)).toNat)
  case atStart => exact ⟨0, [], rfl, Nat.zero_le _, Lib.hid (World.ownsRow_nil _ _ _ _), Lib.hid (All1.nil _), Lib.hid (Below.refl _ _)⟩
  case round =>
    obtain ⟨k, vs, rfl, hk, HO, HA, HB⟩ := hrel
    have hbs := HB.out.size
    by_cases hlt : k < cs.length
    · obtain ⟨b, o, rfl, hb, c0, c1, c2, c3⟩ := rd_cl HR.out k hlt
      have d0 := (HB.out.cell (p := ⟨b, o + k * 4, none⟩) hb).trans c0
      have d1 := (HB.out.cell (p := ⟨b, o + k * 4 + 1, none⟩) hb).trans c1
      have d2 := (HB.out.cell (p := ⟨b, o + k * 4 + 2, none⟩) hb).trans c2
      have d3 := (HB.out.cell (p := ⟨b, o + k * 4 + 3, none⟩) hb).trans c3
      have HM := Lib.hid (show (cs.take (k + 1)).map (fun x => [x]) = (cs.take k).map (fun x => [x]) ++ [[cs[k]]] from by rw [take_snocA cs k hlt, List.map_append]; rfl)
      clear c0 c1 c2 c3
      generalize cs[k] = C at *
      have HBA := Lib.hid (HB.out.alloc hbs (cl4 C))
      have HOA := Lib.hid (own_below HO.out ((Below.refl _ _).alloc (Nat.le_refl _) (cl4 C)))
      have HAA := Lib.hid (HA.out.imp fun _ _ h => h.below ((Below.refl _ _).alloc (Nat.le_refl _) (cl4 C)))
      have hnew : wr.heap.size < (wr.alloc (cl4 C)).heap.size := by simp
      have HN : Hid ((wr.alloc (cl4 C)).ownsRow w.heap.size 27 4 (.slice (some ⟨wr.heap.size, 0, none⟩) 1 1) 1 (clc [C])) := Lib.hid ⟨by rw [clc_one]; rfl, .inr ⟨wr.heap.size, 1, #[.int .i64 C.a, .int .i64 C.x, .int .i64 C.b, .int .i64 C.y], rfl, hbs, heap_alloc_new wr (cl4 C), Nat.le_refl _, by unfold maxLen; omega, rfl, rfl⟩⟩
      go_wp2_with (first
        | (at_builtin; go_loud (refine app1 (w0 := w) w.heap.size rfl (.tmp 11) (.tmp 17) 46 28 (.slice none 0 0) 1 24 rfl Tryd.underlying46 info28 rfl (by omega) (by omega) u3 _ _ #[.slice (some ⟨wr.heap.size, 0, none⟩) 1 1] rfl (by show Value.slice (some ⟨wr.heap.size + 1, 0, none⟩) 1 1 = _; simp) rfl (one1 rfl) HOA.out HBA.out HBA.out.size (by omega) ?_); intro v3 w3 hown3 hb3 hg3 _; have HO3 := Lib.hid hown3; have HB3 := Lib.hid hb3; have HG3 := Lib.hid hg3; clear hown3 hb3 hg3))
      go_roundw
      case rel => exact ⟨k + 1, vs ++ [.slice (some ⟨wr.heap.size, 0, none⟩) 1 1], by go_num, by omega, HO3, Lib.hid (by
        rw [HM.out]
        exact (HAA.out.push (l := [C]) ⟨_, _, rfl, HN.out⟩).imp fun _ _ h => h.grown HOA.out HG3.out), HB3⟩
      case measure => simp [intOf]; omega
    · obtain rfl : k = cs.length := by omega
      rw [List.take_length] at HA
      obtain ⟨A3, c3, rfl, _⟩ := (Rd.of_own HO.out).shape
      go_wp2
      go_ret
      exact ⟨A3, c3, rfl, ⟨vs, A3, c3, by rw [List.length_map], by rw [List.length_map]; exact Rd.of_own HO.out, HA.out.imp fun _ _ h => h.r1⟩, HB.out⟩
end Go.Proofs.YtfnogpelaoofbaaDoor.Rg

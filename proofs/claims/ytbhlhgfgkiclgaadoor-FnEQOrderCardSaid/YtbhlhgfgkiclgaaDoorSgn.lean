/- The law FnEQOrder, walked. Conditions: the listed table of math/bits reads as listed; those written at each lemma. -/
import Derived.Test.YtbhlhgfgkiclgaaDoorSgm
set_option linter.unusedVariables false
set_option linter.unusedSimpArgs false
set_option maxRecDepth 100000
set_option maxHeartbeats 8000000
namespace Go.Proofs.YtbhlhgfgkiclgaaDoor.Set
open Go.RowKit Go.Proofs.YtbhlhgfgkiclgaaDoor.B

/-- L are the joined sets of xss. -/
def IsPart (xss L : List (List Int)) : Prop := ∃ ns : List Nat, L = ns.map upB ∧ Part (ns.map bitsL) ∧ (∀ u v, Con (ns.map bitsL) u v ↔ Con xss u v) ∧ ns.length ≤ xss.length
theorem IsPart.pos {xss L : List (List Int)} (h : IsPart xss L) (hx : ∀ xs ∈ xss, Good30 xs) (hne : xss ≠ []) : 0 < L.length := by
  obtain ⟨ns, rfl, _, hc, _⟩ := h
  rw [List.length_map]
  exact eqd_pos hc hx hne
theorem IsPart.len {xss L : List (List Int)} (h : IsPart xss L) : L.length ≤ xss.length := by
  obtain ⟨ns, rfl, _, _, hl⟩ := h
  rwa [List.length_map]
theorem joined_any (v : Value) (xss : List (List Int)) (w : World) (hT : Tab w) (h0 : 0 < w.heap.size) (hr : RL w v (xss.map up)) (hx : ∀ xs ∈ xss, Good30 xs) (hl : xss.length ≤ 100000) :
    Calls Tryd.prog 13 #[v] w fun e w' => ∃ A c L, e = .returned (.slice A L.length c) ∧ IsPart xss L ∧ OL w' w.heap.size (.slice A L.length c) L ∧ Below w.heap.size w w' := by
  refine (eqSets_any v xss w hT h0 hr (fun xs h => ⟨(hx xs h).1, (hx xs h).2.1, fun u hu => by have := (hx xs h).2.2 u hu; omega⟩) hl).mono ?_
  rintro e w' ⟨v, ns, rfl, ho, hp, hc, hl, hb⟩
  obtain ⟨A, c, rfl, _⟩ := (Rd.of_own ho.choose_spec.1).shape
  exact ⟨A, c, ns.map upB, rfl, ⟨ns, rfl, hp, hc, hl⟩, ho, hb⟩
theorem same_r (v1 v2 : Value) (xss yss L M : List (List Int)) (w : World) (hr : RL w v1 L) (hr2 : RL w v2 M) (hL : IsPart xss L) (hM : IsPart yss M) (hm : ∀ s, s ∈ xss ↔ s ∈ yss) (hl : xss.length ≤ 100000) :
    Calls Tryd.prog 14 #[v1, v2] w fun e w' => e = .returned (.bool true) ∧ Below w.heap.size w w' := by
  obtain ⟨ns, rfl, hp, hc, hn⟩ := hL
  obtain ⟨ms, rfl, hq, hd, _⟩ := hM
  obtain ⟨h1, h2⟩ := eqd_same hp hq hc hd hm
  exact eqSame_any v1 v2 _ _ w hr hr2 h1 h2 (upB_good ns) (upB_good ms) (by rw [List.length_map]; omega)
theorem rev_take {α : Type} (vs : List α) (k : Nat) (hk : k < vs.length) : vs.reverse.take (vs.length - k) = vs.reverse.take (vs.length - (k + 1)) ++ [vs[k]] := by
  have e : vs.length - k = (vs.length - (k + 1)) + 1 := by omega
  rw [e, List.take_succ_eq_append_getElem (by simp; omega), List.getElem_reverse]
  congr 3
  omega
theorem one_slices {P : Value → List Int → Prop} {vs : List Value} {ls : List (List Int)} (h : All1 P vs ls) (hP : ∀ v l, P v l → v.oneCell' = true) : ∀ u ∈ vs, u.oneCell' = true := fun u hu => by
  obtain ⟨i, hi, rfl⟩ := List.getElem_of_mem hu
  exact hP _ _ (h.2 i hi (by rw [← h.1]; exact hi))
theorem O1.one {W : World} {B : Nat} {v : Value} {l : List Int} (h : O1 W B v l) : v.oneCell' = true := by
  obtain ⟨A, c, rfl, _⟩ := h
  rfl

theorem appRw {P : Program} {ops : Array Oper} {rest : List Oper} {o : Oper} {a : Act} {Q : Exit → Act → World → Prop} {w0 w : World} (hw : Region.wanted o (yielded ops a.tmps) = true) (s x : Operand) (t : TypeId)
    (ho : o.op = .call { callee := .builtin .append, args := #[s, x], argTypes := #[t, t] })
    (base : Nat) (e : TypeId) (z : Value) (size bytes : Nat) (ht : P.underlying t = some (.slice e)) (hinfo : (P.info? e).map (fun i => (i.zero, i.size, i.bytes)) = some (some z, size, bytes))
    (hzs : z.cells.size = size) (hsz : 0 < size) (hb0 : 0 < bytes)
    (v : Value) (n : Nat) (xs : List Value) (hs : a.eval s = v) (hown : w.ownsRow base e size v n xs) (HB : Below base w0 w)
    (u : Value) (m : Nat) (news : List Value) (hx : a.eval x = u) (hr : Rd w size u m news) (h1 : ∀ u ∈ news, u.oneCell' = true)
    (hbytes : (n + m) * bytes ≤ 140737488355328) (hbase : base ≤ w.heap.size)
    (h : ∀ A c w', w'.ownsRow base e size (.slice A (n + m) c) (n + m) (xs ++ news) → Below base w0 w' → w.grownBy w' v.ownBlock → wpList P ops Q rest (a.put o.dst (.slice A (n + m) c)) w') : wpList P ops Q (o :: rest) a w :=
  wpList_step fun K hK => by
    rw [if_pos hw]
    obtain ⟨v', w', hrun, h2, h3, h4⟩ := run_append_rd (P := P) w base t o.type e z size bytes ht hinfo hzs hsz hb0 v n xs hown u m news hr h1 hbytes hbase
    obtain ⟨A, c, rfl, _⟩ := (Rd.of_own h2).shape
    unfold Oper.wp execOp
    simp only [ho, resolve, invoke, builtin, Sem.run_bind, Sem.run_pure, Result.andThen_ok, List.map_toArray, List.map_cons, List.map_nil, hs, hx, hrun]
    exact hK _ _ (h A c w' h2 (HB.grown h3 hbase (own_base hown)) h3)

theorem rl_of {W : World} {B : Nat} {vs : List Value} {ls : List (List Int)} {A : Option Addr} {m c : Nat} (h : All1 (O1 W B) vs ls) (hr : Rd W 1 (.slice A m c) m vs) (hm : m = ls.length) : RL W (.slice A m c) ls := by
  subst hm
  exact h.rl hr

theorem law4_any (v : Value) (ls : List (List Int)) (w : World) (hT : Tab w) (hr : RL w v ls) :
    Calls Tryd.prog 4 #[v] w fun e w' => e = .returned (.bool true) ∧ Below w.heap.size w w' := by
  have h0 : 0 < w.heap.size := World.block_lt_of_cell? w ⟨0, 0, none⟩ (hT 0 (by decide))
  have FT := Lib.hid (fits_any v ls w hr)
  have EQ := Lib.hid (fun h1 h2 => eqs_any v ls w hr h1 h2)
  have HT := Lib.hid hT
  obtain ⟨vs0, A0, c0, rfl, _⟩ := hr
  clear hT
  go_enter Tryd.func4, Tryd.ntmps4
  go_wp2_with fail
  refine FT.out.mono ?_
  rintro e w' ⟨rfl, b, rfl, hb⟩
  rcases b with _ | _
  · clear hb
    go_wp2
    go_ret
    exact ⟨rfl, Below.refl _ _⟩
  · obtain ⟨hb1, hb2⟩ := hb rfl
    have EQ := Lib.hid (EQ.out hb1 hb2)
    clear hb hb1 hb2
    go_wp2_with (go_at_call 12; (with_reducible refine EQ.out.mono ?_); rintro e wS ⟨A, c, xss, vs, rfl, ho, ha, hg, hne, hl13, hb⟩; have HO := Lib.hid ho; have HA := Lib.hid ha; have HG := Lib.hid hg; have HNE := Lib.hid hne; have HB := Lib.hid hb; clear ho ha hg hne hb)
    have HVL := Lib.hid (show vs.length = xss.length by rw [HA.out.1, List.length_map])
    have hbS := HB.out.size
    go_loopw [4, 5] (fun v4 v5 wr => ∃ k : Nat, v5 = .int .i64 ((k : Int) - 1) ∧ k ≤ xss.length ∧ Hid (wr.ownsRow wS.heap.size 22 1 v4 (xss.length - k) (vs.reverse.take (xss.length - k))) ∧ Hid (Below wS.heap.size wS wr)) (fun _ v5 _ => (intOf v5 + 1).toNat)
    case atStart => exact ⟨xss.length, rfl, Nat.le_refl _, Lib.hid (by rw [Nat.sub_self]; exact World.ownsRow_nil _ _ _ _), Lib.hid (Below.refl _ _)⟩
    case round =>
      obtain ⟨k, rfl, hk, HR, HBr⟩ := hrel
      have hbr := HBr.out.size
      rcases k with _ | k
      · have HR2 : Hid (wr.ownsRow wS.heap.size 22 1 u4 xss.length vs.reverse) := Lib.hid (by have h := HR.out; rwa [Nat.sub_zero, List.take_of_length_le (by rw [List.length_reverse, HVL.out]; exact Nat.le_refl _)] at h)
        have HWB := Lib.hid (HB.out.trans (HBr.out.mono hbS))
        have HTr := Lib.hid (tab_below HT.out HWB.out)
        have h0r : 0 < wr.heap.size := by omega
        have HOr := Lib.hid (own_below HO.out HBr.out)
        have HAr := Lib.hid (HA.out.imp fun _ _ h => h.below HBr.out)
        have HBA := Lib.hid (All1.reverse HAr.out)
        have J1 := Lib.hid (joined_any (.slice A xss.length c) xss wr HTr.out h0r (by
          have h := HAr.out.rl (v := .slice A xss.length c) (by rw [List.length_map]; exact Rd.of_own HOr.out)
          exact h) HG.out (by omega))
        have HBK : Hid (RL wr u4 (xss.reverse.map up)) := Lib.hid (by
          rw [List.map_reverse]
          exact HBA.out.rl (by simpa using Rd.of_own HR2.out))
        have HGR : Hid (∀ xs ∈ xss.reverse, Good30 xs) := Lib.hid (fun xs hx => HG.out xs (List.mem_reverse.1 hx))
        have J2 := Lib.hid (fun W (hW : Below wr.heap.size wr W) => joined_any u4 xss.reverse W (tab_below HTr.out hW) (Nat.lt_of_lt_of_le h0r hW.size) (HBK.out.below hW) HGR.out (by simp; omega))
        have HGA : Hid (∀ xs ∈ xss ++ xss.reverse, Good30 xs) := Lib.hid (fun xs hx => (List.mem_append.1 hx).elim (HG.out xs) (HGR.out xs))
        have J3 := Lib.hid (fun W v (h0 : 0 < W.heap.size) (hT : Tab W) (hr : RL W v (xss.map up ++ (xss.map up).reverse)) => joined_any v (xss ++ xss.reverse) W hT h0 (by rw [List.map_append, List.map_reverse]; exact hr) HGA.out (by simp; omega))
        have M1 : Hid (∀ s, s ∈ xss ↔ s ∈ xss.reverse) := Lib.hid (fun s => List.mem_reverse.symm)
        have M2 : Hid (∀ s, s ∈ xss ↔ s ∈ xss ++ xss.reverse) := Lib.hid (fun s => by simp)
        have HLL : Hid (xss.length + xss.length = (xss.map up ++ (xss.map up).reverse).length) := Lib.hid (by simp)
        have HONE : Hid (∀ u ∈ vs.reverse, u.oneCell' = true) := Lib.hid (one_slices HBA.out fun _ _ h => h.one)
        have S1 := Lib.hid (fun W v1 v2 L M (h1 : RL W v1 L) (h2 : RL W v2 M) (hL : IsPart xss L) (hM : IsPart xss.reverse M) => same_r v1 v2 xss xss.reverse L M W h1 h2 hL hM M1.out (by omega))
        have S2 := Lib.hid (fun W v1 v2 L M (h1 : RL W v1 L) (h2 : RL W v2 M) (hL : IsPart xss L) (hM : IsPart (xss ++ xss.reverse) M) => same_r v1 v2 xss (xss ++ xss.reverse) L M W h1 h2 hL hM M2.out (by omega))
        clear hk HR
        go_wp2_with (first
          | (go_at_call 13; (with_reducible refine J1.out.mono ?_); rintro e w1 ⟨A1, c1, L1, rfl, hp1, ho1, hb1⟩; have HP1 := Lib.hid hp1; have HO1 := Lib.hid ho1; have HB1 := Lib.hid hb1; have hpos := hp1.pos HG.out HNE.out; clear hp1 ho1 hb1)
          | (go_at_call 13; (with_reducible refine (J2.out _ HB1.out).mono ?_); rintro e w2 ⟨A2, c2, L2, rfl, hp2, ho2, hb2⟩; have HP2 := Lib.hid hp2; have HO2 := Lib.hid ho2; have HO12 := Lib.hid (HO1.out.below hb2); have HB2 := Lib.hid (HB1.out.trans (hb2.mono HB1.out.size)); clear hp2 ho2 hb2)
          | (go_at_call 14; (with_reducible refine (S1.out _ _ _ _ _ HO12.out.rl HO2.out.rl HP1.out HP2.out).mono ?_); rintro e w3 ⟨rfl, hb3⟩; have HO13 := Lib.hid (HO12.out.below hb3); have HB3 := Lib.hid (HB2.out.trans (hb3.mono HB2.out.size)); have HOX := Lib.hid (own_below HOr.out HB3.out); have HAX := Lib.hid (HAr.out.imp fun _ _ h => h.below HB3.out); have HRX := Lib.hid (own_below HR2.out HB3.out); have HWX := Lib.hid (HWB.out.trans (HB3.out.mono HWB.out.size)); have hsx := HB3.out.size; clear hb3)
          | (at_builtin; go_loud (refine appRw (w0 := w) rfl (.tmp 39) (.tmp 40) 29 rfl w.heap.size 22 (.slice none 0 0) 1 24 Tryd.underlying29 info22 rfl (by omega) (by omega) (.slice A xss.length c) xss.length vs rfl HOX.out HWX.out u4 xss.length vs.reverse rfl (Rd.of_own HRX.out) HONE.out (by omega) (by omega) ?_); intro A4 c4 w4 hown4 hb4 hg4; have HO4 := Lib.hid hown4; have HB4 := Lib.hid hb4; have HG4 := Lib.hid hg4; have HAB := Lib.hid ((All1.append HAX.out (HBA.out.imp fun _ _ h => h.below HB3.out)).imp fun _ _ h => h.grown HOX.out hg4); have HRL := Lib.hid (rl_of HAB.out (Rd.of_own hown4) HLL.out); have HO14 := Lib.hid (HO13.out.grown (fun k hk => (HOr.out.lt k hk).2) hg4); clear hown4 hb4 hg4)
          | (go_at_call 13; (with_reducible refine (J3.out _ _ (Nat.lt_of_lt_of_le h0 HB4.out.size) (tab_below HT.out HB4.out) HRL.out).mono ?_); rintro e w5 ⟨A5, c5, L5, rfl, hp5, ho5, hb5⟩; have HP5 := Lib.hid hp5; have HO5 := Lib.hid ho5; have HO15 := Lib.hid (HO14.out.below hb5); have HB5 := Lib.hid (HB4.out.trans (hb5.mono HB4.out.size)); clear hp5 ho5 hb5)
          | (go_at_call 14; (with_reducible refine (S2.out _ _ _ _ _ HO15.out.rl HO5.out.rl HP1.out HP5.out).mono ?_); rintro e w6 ⟨rfl, hb6⟩; have HB6 := Lib.hid (HB5.out.trans (hb6.mono HB5.out.size)); clear hb6))
        go_ret
        exact ⟨rfl, HB6.out⟩
      · have hkv : k < vs.length := by rw [HVL.out]; omega
        have e1 : (((k + 1 : Nat) : Int) - 1) = (k : Int) := by omega
        rw [e1]
        have HOr := Lib.hid (own_below HO.out HBr.out)
        obtain ⟨b, o, c', e, _, _, hb, hc⟩ := (Rd.of_own HOr.out).open (by omega)
        injection e with ea eb ec
        subst ea
        have hc1 := hc k _ (List.getElem?_eq_getElem hkv)
        obtain ⟨A3, c3, e3, _⟩ := HA.out.2 k hkv (by rw [List.length_map]; omega)
        have HTK : Hid (vs.reverse.take (xss.length - k) = vs.reverse.take (xss.length - (k + 1)) ++ [vs[k]]) := Lib.hid (by rw [← HVL.out]; exact rev_take vs k hkv)
        have e4 : xss.length - k = xss.length - (k + 1) + 1 := by omega
        have HTK : Hid (vs.reverse.take (xss.length - (k + 1) + 1) = vs.reverse.take (xss.length - (k + 1)) ++ [vs[k]]) := Lib.hid (by rw [← e4]; exact HTK.out)
        have E4 := Lib.hid e4
        rw [e3] at hc1 HTK
        generalize ((xss.map up)[k]'(by rw [List.length_map]; omega)).length = n3 at *
        clear hc e1 ec eb e4 e3
        go_wp2_with (first
          | (at_builtin; go_loud (refine app1s (w0 := wS) (W := wr) wS.heap.size rfl (.tmp 19) (.tmp 24) 29 22 (.slice none 0 0) 1 24 rfl Tryd.underlying29 info22 rfl (by omega) (by omega) u4 _ _ _ rfl rfl rfl (one1 rfl) HR.out HBr.out hbr (by omega) ?_); intro A9 c9 w3 hown3 hb3 hg3; have HO3 := Lib.hid hown3; have HB3 := Lib.hid hb3; clear hown3 hb3 hg3))
        go_roundw
        case rel => exact ⟨k, rfl, by omega, Lib.hid (by rw [E4.out, HTK.out]; exact HO3.out), HB3⟩
        case measure => simp [intOf]
end Go.Proofs.YtbhlhgfgkiclgaaDoor.Set

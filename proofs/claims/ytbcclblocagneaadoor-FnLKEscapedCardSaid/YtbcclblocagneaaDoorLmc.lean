/- The law FnLKEscaped: a text all of whose marks are escaped matches itself, and with % at both ends each text in which it stands. Conditions: the listed tables of unicode/utf8 read as listed; the arguments are rows of bytes. -/
import Derived.Test.YtbcclblocagneaaDoorLmb
import Derived.Laws.Cover4
set_option linter.unusedVariables false
set_option linter.unusedSimpArgs false
set_option maxRecDepth 100000
set_option maxHeartbeats 8000000
namespace Go.Proofs.YtbcclblocagneaaDoor.Lk
open Go.RowKit Go.Proofs.YtbcclblocagneaaDoor.B

theorem conv_any (T : List Int) (A : Option Addr) (c : Nat) (W : World) (h : Rd W 1 (.slice A T.length c) T.length (rs T)) :
    (convert 33 9 (.slice A T.length c)).run Tryd.prog W = .ok (.string (str T)) W := by
  cases A with
  | none =>
    have h0 : T.length = 0 := by
      rcases Nat.eq_zero_or_pos T.length with h0 | h0
      · exact h0
      · obtain ⟨b, o, c', e, _⟩ := h.open h0
        cases e
    obtain rfl := List.eq_nil_of_length_eq_zero h0
    exact run_convert_runes_nil W 33 9 21 _ c Tryd.underlying33 Tryd.underlying21 Tryd.underlying9
  | some x =>
    have h1 := run_convert_runes (P := Tryd.prog) W 33 9 21 x T.length c T (Nat.le_refl _) Tryd.underlying33 Tryd.underlying21 Tryd.underlying9 (fun j hj => by
      obtain ⟨b, o, e, _, hc⟩ := rd_one h (j := j) (u := .int .i32 T[j]) (by unfold rs; rw [List.getElem?_map, List.getElem?_eq_getElem hj]; rfl)
      injection e with e
      subst e
      rw [List.getD_eq_getElem?_getD, List.getElem?_eq_getElem hj, Option.getD_some, show (⟨b, o, none⟩ : Addr).add j = ⟨b, o + j, none⟩ from by simp [Addr.add]]
      exact hc)
    rw [h1, List.take_length, runes_str]

theorem escT_nd (s : List Int) : (escT s).map Tok.nd = s.map .one := by
  unfold escT
  rw [List.map_map]
  refine List.map_congr_left fun r _ => ?_
  show Tok.nd (if _ then _ else _) = _
  split <;> rfl
theorem escT_len (s : List Int) : (escT s).length = s.length := by unfold escT; rw [List.length_map]
theorem esc_snoc (s : List Int) (k : Nat) (h : k < s.length) : toksR (escT (s.take (k + 1))) = toksR (escT (s.take k)) ++ (if s[k] = 37 ∨ s[k] = 95 ∨ s[k] = 92 then [92, s[k]] else [s[k]]) := by
  rw [take_snocA s k h]
  unfold escT
  rw [List.map_append, toksR_append]
  congr 1
  show toksR [if s[k] = 37 ∨ s[k] = 95 ∨ s[k] = 92 then Tok.es s[k] else .pl s[k]] = _
  split <;> rfl
theorem toks_le (s : List Int) : (toksR (escT s)).length ≤ 2 * s.length := by
  induction s with
  | nil => simp [escT, toksR]
  | cons r s ih =>
    have h : escT (r :: s) = (if r = 37 ∨ r = 95 ∨ r = 92 then Tok.es r else .pl r) :: escT s := rfl
    rw [h, toksR_cons, List.length_append]
    have h2 : (Tok.runes (if r = 37 ∨ r = 95 ∨ r = 92 then Tok.es r else .pl r)).length ≤ 2 := by split <;> simp [Tok.runes]
    simp only [List.length_cons]
    omega
theorem pct_str : (⟨#[37]⟩ : ByteArray) = str [37] := ba_ext (by rw [str_list]; show _ = enc 37 ++ []; rw [enc_ab.2.2.2.1]; rfl)
def wT (s : List Int) : List Tok := .pc :: (escT s ++ [.pc])
theorem wT_nd (s : List Int) : (wT s).map Tok.nd = wild s := by
  unfold wT wild
  rw [List.map_cons, List.map_append, escT_nd]
  rfl
theorem wT_str (s : List Int) : (⟨#[37]⟩ : ByteArray) ++ str (toksR (escT s)) ++ ⟨#[37]⟩ = str (toksR (wT s)) := by
  rw [pct_str, str_append, str_append]
  unfold wT
  rw [toksR_cons, toksR_append]
  rfl

theorem text_any2 (l : List Int) (A : Option Addr) (cap m : Nat) (mi : Int) (w : World) (hmi : mi = (m : Int)) (hr : Rd w 1 (.slice A l.length cap) l.length (l.map (Value.int .u8))) (hb : ∀ x ∈ l, 0 ≤ x ∧ x ≤ 255) (hl : l.length ≤ 2147483647) (hm : m ≤ 100) :
    Calls Tryd.prog 14 #[.slice A l.length cap, .int .i64 mi] w fun e w' => ∃ A' c, e = .returned (.slice A' (tx l m).length c) ∧ Rd w' 1 (.slice A' (tx l m).length c) (tx l m).length (rs (tx l m)) ∧ Below w.heap.size w w' := by
  subst hmi
  exact text_any l A cap m w hr hb hl hm
/-- What is asked of the three rows in a world. -/
theorem law_small (l1 l2 l3 : List Int) (A1 A2 A3 : Option Addr) (c1 c2 c3 : Nat) (w : World) (hT : Tab w)
    (hr1 : Rd w 1 (.slice A1 l1.length c1) l1.length (l1.map (Value.int .u8))) (hr2 : Rd w 1 (.slice A2 l2.length c2) l2.length (l2.map (Value.int .u8))) (hr3 : Rd w 1 (.slice A3 l3.length c3) l3.length (l3.map (Value.int .u8)))
    (hb1 : ∀ x ∈ l1, 0 ≤ x ∧ x ≤ 255) (hb2 : ∀ x ∈ l2, 0 ≤ x ∧ x ≤ 255) (hb3 : ∀ x ∈ l3, 0 ≤ x ∧ x ≤ 255) (hl1 : l1.length ≤ 2147483647) (hl2 : l2.length ≤ 2147483647) (hl3 : l3.length ≤ 2147483647) :
    Calls Tryd.prog 5 #[.slice A1 l1.length c1, .slice A2 l2.length c2, .slice A3 l3.length c3] w fun e w' => e = .returned (.bool true) ∧ Below w.heap.size w w' := by
  have X1 := Lib.hid (fun W (hW : Below w.heap.size w W) => text_any2 l1 A1 c1 20 20 W rfl (hr1.below hW) hb1 hl1 (by omega))
  have X2 := Lib.hid (fun W (hW : Below w.heap.size w W) => text_any2 l2 A2 c2 6 6 W rfl (hr2.below hW) hb2 hl2 (by omega))
  have X3 := Lib.hid (fun W (hW : Below w.heap.size w W) => text_any2 l3 A3 c3 6 6 W rfl (hr3.below hW) hb3 hl3 (by omega))
  have hs1 := tx_len l1 20
  have hs2 := tx_len l2 6
  have hs3 := tx_len l3 6
  have AB1 := Lib.hid (tx_ab l1 20)
  have AB2 := Lib.hid (tx_ab l2 6)
  have AB3 := Lib.hid (tx_ab l3 6)
  have HT := Lib.hid hT
  generalize tx l1 20 = S at *
  generalize tx l2 6 = Pa at *
  generalize tx l3 6 = Pb at *
  clear hr1 hr2 hr3 hb1 hb2 hb3 hT
  go_enter Tryd.func5, Tryd.ntmps5
  go_wp2_with (first
    | (go_at_call 14; (with_reducible refine (X1.out _ (Below.refl _ _)).mono ?_); rintro e w1 ⟨As, cs, rfl, hr1, hb1⟩; have R1 := Lib.hid hr1; have B1 := Lib.hid hb1; clear hr1 hb1)
    | (go_at_call 14; (with_reducible refine (X2.out _ B1.out).mono ?_); rintro e w2 ⟨Aa, ca, rfl, hr2, hb2⟩; have R2 := Lib.hid hr2; have R1b := Lib.hid (R1.out.below hb2); have B2 := Lib.hid (B1.out.trans (hb2.mono B1.out.size)); clear hr2 hb2)
    | (go_at_call 14; (with_reducible refine (X3.out _ B2.out).mono ?_); rintro e w3 ⟨Ab, cb, rfl, hr3, hb3⟩; have R3 := Lib.hid hr3; have R2c := Lib.hid (R2.out.below hb3); have R1c := Lib.hid (R1b.out.below hb3); have B3 := Lib.hid (B2.out.trans (hb3.mono B2.out.size)); clear hr3 hb3))
  have T3 := Lib.hid (tab_below HT.out B3.out)
  clear R1 R1b R2 X1 X2 X3 B1 B2 HT
  go_loopw [10, 11] (fun v10 v11 wr => ∃ (k : Nat), v11 = .int .i64 k ∧ k ≤ S.length ∧ Hid (wr.ownsRow w3.heap.size 21 1 v10 (toksR (escT (S.take k))).length (rs (toksR (escT (S.take k))))) ∧ Hid (Below w3.heap.size w3 wr)) (fun _ v11 _ => (S.length - (intOf v11)).toNat)
  case atStart => exact ⟨0, rfl, Nat.zero_le _, Lib.hid (World.ownsRow_nil _ _ _ _), Lib.hid (Below.refl _ _)⟩
  case round =>
    obtain ⟨k, rfl, hk, HO, HB⟩ := hrel
    have hbs := HB.out.size
    rcases Nat.lt_or_ge k S.length with hlt | hge
    · obtain ⟨b, o, rfl, hbl, hc⟩ := rd_one R1c.out (j := k) (u := .int .i32 S[k]) (by unfold rs; rw [List.getElem?_map, List.getElem?_eq_getElem hlt]; rfl)
      have hcw := (HB.out.cell (p := ⟨b, o + k, none⟩) hbl).trans hc
      have hsn := esc_snoc S k hlt
      have htl := toks_le (S.take k)
      rw [List.length_take] at htl
      generalize S[k] = r at *
      have HSN := Lib.hid hsn
      clear hsn
      generalize hP1 : toksR (escT (S.take (k + 1))) = P1 at *
      generalize toksR (escT (S.take k)) = P0 at *
      have HP1 := Lib.hid hP1
      clear hP1
      by_cases hesc : r = 37 ∨ r = 95 ∨ r = 92
      · have hq := HSN.out
        rw [if_pos hesc] at hq
        have HQ := Lib.hid (show rs P1 = (rs P0 ++ [.int .i32 92]) ++ [.int .i32 r] from by rw [hq]; unfold rs; rw [List.map_append]; simp)
        have HQL := Lib.hid (show P1.length = P0.length + 1 + 1 from by rw [hq]; simp)
        clear hq
        rcases hesc with rfl | rfl | rfl
        all_goals
          go_wp2_with (first
            | (at_builtin; (refine app1 (w0 := w3) w3.heap.size rfl (.tmp 63) (.tmp 64) 33 21 (.int .i32 0) 1 4 rfl Tryd.underlying33 info21 rfl (by omega) (by omega) u10 _ _ _ rfl rfl rfl (one1 rfl) HO.out HB.out HB.out.size (by omega) ?_); intro v5 w5 hown5 hb5 _ _; have HO5 := Lib.hid hown5; have HB5 := Lib.hid hb5; have hcw5 := (HB5.out.cell (p := ⟨b, o + k, none⟩) hbl).trans hc; clear hown5 hb5)
            | (at_builtin; (refine app1 (w0 := w3) w3.heap.size rfl (.tmp 66) (.tmp 71) 33 21 (.int .i32 0) 1 4 rfl Tryd.underlying33 info21 rfl (by omega) (by omega) v5 _ _ _ rfl rfl rfl (one1 rfl) HO5.out HB5.out HB5.out.size (by omega) ?_); intro v6 w6 hown6 hb6 _ _; have HO6 := Lib.hid hown6; have HB6 := Lib.hid hb6; clear hown6 hb6))
          go_roundw
          case rel => exact ⟨k + 1, by go_num, by omega, Lib.hid (by rw [HP1.out, HQL.out, HQ.out]; exact HO6.out), HB6⟩
          case measure => simp [intOf]; omega
      · have hq := HSN.out
        rw [if_neg hesc] at hq
        have HQ := Lib.hid (show rs P1 = rs P0 ++ [.int .i32 r] from by rw [hq]; unfold rs; rw [List.map_append]; rfl)
        have HQL := Lib.hid (show P1.length = P0.length + 1 from by rw [hq]; simp)
        have e1 : (r == 37) = false := by rw [beq_eq_false_iff_ne]; exact fun h => hesc (.inl h)
        have e2 : (r == 95) = false := by rw [beq_eq_false_iff_ne]; exact fun h => hesc (.inr (.inl h))
        have e3 : (r == 92) = false := by rw [beq_eq_false_iff_ne]; exact fun h => hesc (.inr (.inr h))
        clear hq hesc
        go_wp2_with (at_builtin; (refine app1 (w0 := w3) w3.heap.size rfl (.tmp 66) (.tmp 71) 33 21 (.int .i32 0) 1 4 rfl Tryd.underlying33 info21 rfl (by omega) (by omega) u10 _ _ _ rfl rfl rfl (one1 rfl) HO.out HB.out HB.out.size (by omega) ?_); intro v6 w6 hown6 hb6 _ _; have HO6 := Lib.hid hown6; have HB6 := Lib.hid hb6; clear hown6 hb6)
        go_roundw
        case rel => exact ⟨k + 1, by go_num, by omega, Lib.hid (by rw [HP1.out, HQL.out, HQ.out]; exact HO6.out), HB6⟩
        case measure => simp [intOf]; omega
    · have hk2 : k = S.length := by omega
      subst hk2
      have HO2 := HO.out
      rw [List.take_length] at HO2
      obtain ⟨Ap, cp, ep, _⟩ := (Rd.of_own HO2).shape
      subst ep
      have RP := Rd.of_own HO2
      have hpl := toks_le S
      have cS := conv_any S As cs wr (R1c.out.below HB.out)
      have cA := conv_any Pa Aa ca wr (R2c.out.below HB.out)
      have cB := conv_any Pb Ab cb wr (R3.out.below HB.out)
      have cP := conv_any (toksR (escT S)) Ap cp wr RP
      have CP := Lib.hid (fun W (hW : Below wr.heap.size wr W) => conv_any (toksR (escT S)) Ap cp W (RP.below hW))
      have hwh : str Pa ++ str S ++ str Pb = str (Pa ++ S ++ Pb) := by rw [str_append, str_append]
      have hwt := wT_str S
      have hab : ∀ r ∈ Pa ++ S ++ Pb, r ∈ AB := fun r hr => by
        rcases List.mem_append.1 hr with hr | hr
        · rcases List.mem_append.1 hr with hr | hr
          · exact AB2.out r hr
          · exact AB1.out r hr
        · exact AB3.out r hr
      obtain ⟨n1, hR1⟩ := ones_all S S (Nat.le_refl _)
      obtain ⟨n2, hR2⟩ := wild_in S Pa Pb
      obtain ⟨n3, hR3⟩ := ones_all S (Pa ++ S ++ Pb) (by simp; omega)
      have hwl : (Pa ++ S ++ Pb).length ≤ 100000 := by simp; omega
      have htt : (toksR (wT S)).length ≤ 100000 := by
        have h1 : (toksR (wT S)).length = 1 + ((toksR (escT S)).length + 1) := by unfold wT; rw [toksR_cons, toksR_append, List.length_append, List.length_append]; rfl
        omega
      have htl : (wT S).length ≤ 100000 := by
        unfold wT; simp [escT_len]; omega
      have hok2 : ∀ t ∈ wT S, t.ok := fun t ht => by
        rcases List.mem_cons.1 ht with rfl | ht
        · trivial
        · rcases List.mem_append.1 ht with ht | ht
          · exact escT_ok S AB1.out t ht
          · rw [List.mem_singleton.1 ht]; trivial
      rw [decide_eq_true rfl, ← escT_nd] at hR1
      rw [← wT_nd] at hR2
      rw [app_eq, ← escT_nd] at hR3
      have M1 := Lib.hid (fun W (hW : Below w3.heap.size w3 W) => lkm_any (escT S) S n1 true W (tab_below T3.out hW) (escT_ok S AB1.out) AB1.out hR1 (by omega) (by rw [escT_len]; omega) (by omega))
      have M2 := Lib.hid (fun W (hW : Below w3.heap.size w3 W) => by have h := lkm_any (wT S) (Pa ++ S ++ Pb) n2 true W (tab_below T3.out hW) hok2 hab hR2 htt htl hwl; rw [← hwt, ← hwh] at h; exact h)
      have M3 := Lib.hid (fun W (hW : Below w3.heap.size w3 W) => by have h := lkm_any (escT S) (Pa ++ S ++ Pb) n3 _ W (tab_below T3.out hW) (escT_ok S AB1.out) hab hR3 (by omega) (by rw [escT_len]; omega) hwl; rw [← hwh] at h; exact h)
      have z1 := str_len4 Pa
      have z2 := str_len4 S
      have z3 := str_len4 Pb
      have z4 := str_len4 (Pa ++ S)
      rw [← str_append, List.length_append] at z4
      have z5 := str_len4 (toksR (escT S))
      have z6 : (⟨#[37]⟩ : ByteArray).size = 1 := rfl
      have z7 := str_len4 ([37] ++ toksR (escT S))
      rw [← str_append, ← pct_str, List.length_append, show ([37] : List Int).length = 1 from rfl] at z7
      clear hR1 hR2 hR3 htt htl hok2 hab hwl AB1 AB2 AB3 RP HO2 hwh hwt
      obtain ⟨bb, hbb⟩ : ∃ bb, decide (Pa.length + Pb.length = 0) = bb := ⟨_, rfl⟩
      have hb2 : (((Pa.length : Nat) : Int) + ((Pb.length : Nat) : Int) == 0) = bb := by
        rw [← hbb]
        by_cases h : Pa.length + Pb.length = 0
        · rw [decide_eq_true h, beq_iff_eq]; omega
        · rw [decide_eq_false h, beq_eq_false_iff_ne]; omega
      rw [hbb] at M3
      clear hbb
      generalize toksR (escT S) = P at *
      generalize toksR (wT S) = PW at *
      go_wp2_with (first
        | (simp only [cS, cA, cB, cP])
        | (go_at_call 15; (with_reducible refine (M1.out _ HB.out).mono ?_); rintro e w5 ⟨rfl, hb5⟩; have B5 := Lib.hid (HB.out.trans (hb5.mono HB.out.size)); have cP5 := CP.out _ hb5; have D5 := Lib.hid hb5; clear hb5 cS cA cB cP)
        | (go_at_call 15; (with_reducible refine (M2.out _ B5.out).mono ?_); rintro e w6 ⟨rfl, hb6⟩; have B6 := Lib.hid (B5.out.trans (hb6.mono B5.out.size)); have cP6 := CP.out _ (D5.out.trans (hb6.mono D5.out.size)); clear hb6 cP5)
        | (go_at_call 15; (with_reducible refine (M3.out _ B6.out).mono ?_); rintro e w7 ⟨rfl, hb7⟩; have B7 := Lib.hid (B6.out.trans (hb7.mono B6.out.size)); clear hb7 cP6)
        | (simp only [cP5])
        | (simp only [cP6]))
      go_ret
      exact ⟨rfl, B3.out.trans (B7.out.mono B3.out.size)⟩

theorem law_any (A1 : Option Addr) (len1 c1 : Nat) (zs1 : List Int) (A2 : Option Addr) (len2 c2 : Nat) (zs2 : List Int) (A3 : Option Addr) (len3 c3 : Nat) (zs3 : List Int) (w : World)
    (hr1 : IsRow .u8 w A1 len1 c1 zs1) (hr2 : IsRow .u8 w A2 len2 c2 zs2) (hr3 : IsRow .u8 w A3 len3 c3 zs3) (hT : Tab w) :
    Calls Tryd.prog 5 #[.slice A1 len1 c1, .slice A2 len2 c2, .slice A3 len3 c3] w fun e w' => e = .returned (.bool true) ∧ Below w.heap.size w w' := by
  obtain ⟨rd1, wf1⟩ := hr1.rd
  obtain ⟨rd2, wf2⟩ := hr2.rd
  obtain ⟨rd3, wf3⟩ := hr3.rd
  have hm1 := rd1.le
  have hm2 := rd2.le
  have hm3 := rd3.le
  by_cases h1 : len1 ≤ 2147483647
  · by_cases h2 : len2 ≤ 2147483647
    · by_cases h3 : len3 ≤ 2147483647
      · have e1 : (zs1.take len1).length = len1 := by have := rd1.len; simpa using this
        have e2 : (zs2.take len2).length = len2 := by have := rd2.len; simpa using this
        have e3 : (zs3.take len3).length = len3 := by have := rd3.len; simpa using this
        have g1 : ∀ x ∈ zs1.take len1, 0 ≤ x ∧ x ≤ 255 := fun x hx => by have := bounds_u8 (wf1 x (List.mem_of_mem_take hx)); omega
        have g2 : ∀ x ∈ zs2.take len2, 0 ≤ x ∧ x ≤ 255 := fun x hx => by have := bounds_u8 (wf2 x (List.mem_of_mem_take hx)); omega
        have g3 : ∀ x ∈ zs3.take len3, 0 ≤ x ∧ x ≤ 255 := fun x hx => by have := bounds_u8 (wf3 x (List.mem_of_mem_take hx)); omega
        generalize zs1.take len1 = l1 at *
        generalize zs2.take len2 = l2 at *
        generalize zs3.take len3 = l3 at *
        subst e1
        subst e2
        subst e3
        exact law_small l1 l2 l3 A1 A2 A3 c1 c2 c3 w hT rd1 rd2 rd3 g1 g2 g3 h1 h2 h3
      · clear rd1 rd2 rd3 wf1 wf2 wf3 hr1 hr2 hr3 hT
        go_enter Tryd.func5, Tryd.ntmps5
        go_wp2
        go_ret
        exact ⟨rfl, Below.refl _ _⟩
    · clear rd1 rd2 rd3 wf1 wf2 wf3 hr1 hr2 hr3 hT
      go_enter Tryd.func5, Tryd.ntmps5
      go_wp2
      go_ret
      exact ⟨rfl, Below.refl _ _⟩
  · clear rd1 rd2 rd3 wf1 wf2 wf3 hr1 hr2 hr3 hT
    go_enter Tryd.func5, Tryd.ntmps5
    go_wp2
    go_ret
    exact ⟨rfl, Below.refl _ _⟩
end Go.Proofs.YtbcclblocagneaaDoor.Lk

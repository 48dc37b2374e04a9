/- A matcher is made of a pattern. Conditions: the listed tables of unicode/utf8 read as listed; those written at each lemma. -/
import Derived.Test.YtbcclblocagneaaDoorLky
import Derived.Laws.EntriesVeiled
set_option linter.unusedVariables false
set_option linter.unusedSimpArgs false
set_option maxRecDepth 100000
set_option maxHeartbeats 8000000
namespace Go.Proofs.YtbcclblocagneaaDoor.Rv
open Go Go.RowKit
theorem allrun {ops : Array Oper} {G : Array (Option Bool)} (h0 : (ops.all fun o => o.guard.isNone) = true) (i : Nat) (h : i < ops.size) : ¬ runs G ops[i] = false := by
  have h1 := Array.all_eq_true.1 h0 i h
  unfold runs
  rw [Option.isNone_iff_eq_none.1 h1]
  exact fun e => Bool.noConfusion e
theorem q_swap {Q : Exit → Act → World → Prop} {e : Exit} {a : Act} {L L' : List (Nat × Value)} {w : World} (h : L = L') (hc : Q e (fin a L') w) : Q e (fin a L) w := by rw [h]; exact hc
end Go.Proofs.YtbcclblocagneaaDoor.Rv
namespace Go.Proofs.YtbcclblocagneaaDoor.Lk
open Go.RowKit Go.Proofs.YtbcclblocagneaaDoor.B

theorem info110 : (Tryd.prog.info? 110).map (fun i => (i.zero, i.size, i.bytes)) = some (some .nilIface, 1, 16) := by kernel_rfl
theorem lt_blk {W : World} {b : Nat} {o : Obj} (h : W.heap[b]? = some o) : b < W.heap.size := by
  rcases Nat.lt_or_ge b W.heap.size with h1 | h1
  · exact h1
  · rw [Array.getElem?_eq_none h1] at h; cases h
theorem mt_cells {W : World} {h : Nat} {nv : Value} (hb : W.heap[h]? = some (mt nv)) : W.cell? ⟨h, 0, none⟩ = some nv ∧ W.cell? ⟨h, 1, none⟩ = some wf ∧ W.cell? ⟨h, 2, none⟩ = some (.int .i32 92) ∧ W.frozen? ⟨h, 0, none⟩ = false := by
  refine ⟨?_, ?_, ?_, ?_⟩
  · simp [World.cell?, hb]
  · simp [World.cell?, hb]
  · simp [World.cell?, hb]
  · simp [World.frozen?, hb]
theorem mt_store {W : World} {h : Nat} {nv : Value} (hb : W.heap[h]? = some (mt nv)) (v : Value) : (W.setCell ⟨h, 0, none⟩ v).heap[h]? = some (mt v) := by
  have := heap_setCell_same W h 0 _ 85 v hb
  simpa using this
theorem grown_set {w w1 : World} (hb : Below w.heap.size w w1) (p j : Nat) (v : Value) : w.grownBy (w1.setCell ⟨p, j, none⟩ v) (some p) :=
  ⟨hb.os, hb.tape, hb.output, by simpa using hb.size, fun k hk hne => by
    rw [Below.heap_setCell _ _ _ _ (fun e => hne (congrArg some e))]
    exact hb.block k hk⟩
theorem own_grown_lt {W W1 : World} {B : Nat} {e : TypeId} {s n : Nat} {v : Value} {xs : List Value} {r : Option Nat} (h : W.ownsRow B e s v n xs) (hr : ∀ k, r = some k → k < B) (hg : W.grownBy W1 r) : W1.ownsRow B e s v n xs := by
  refine ⟨h.1, ?_⟩
  rcases h.2 with h2 | ⟨g, cap, cur, h1, h2, h3, h4⟩
  · exact .inl h2
  · refine .inr ⟨g, cap, cur, h1, h2, ?_, h4⟩
    rw [hg.block g (lt_blk h3) (fun e1 => ?_)]
    · exact h3
    · have := hr g e1.symm
      omega
def Tok.nd : Tok → Nd
  | .pl r => .one r
  | .es r => .one r
  | .pc => .any
theorem tok_first (pre suf : List Tok) (r : Int) (rest : List Int) (t : Tok) (h : t.runes = r :: rest) : (toksR (pre ++ t :: suf))[(toksR pre).length]? = some r := by
  rw [toksR_append, toksR_cons, h, List.getElem?_append_right (Nat.le_refl _), Nat.sub_self]
  rfl
theorem tok_second (pre suf : List Tok) (r : Int) : (toksR (pre ++ .es r :: suf))[(toksR pre).length + 1]? = some r := by
  rw [toksR_append, toksR_cons, List.getElem?_append_right (by omega), Nat.add_sub_cancel_left]
  rfl
theorem toksR_snoc (pre : List Tok) (t : Tok) : toksR (pre ++ [t]) = toksR pre ++ t.runes := by rw [toksR_append]; simp [toksR]
theorem toksR_ab {ts : List Tok} (h : ∀ t ∈ ts, t.ok) : ∀ r ∈ toksR ts, r ∈ AB := by
  intro r hr
  obtain ⟨t, ht, hr⟩ := List.mem_flatMap.1 hr
  have := h t ht
  cases t with
  | pl x => rw [List.mem_singleton.1 hr]; exact this.1
  | es x =>
    rcases List.mem_cons.1 hr with rfl | hr
    · decide
    · rw [List.mem_singleton.1 hr]; exact this
  | pc => rw [List.mem_singleton.1 hr]; decide
abbrev z85 : Obj := .cells #[.slice none 0 0, .nilFunc, .int .i32 0] 85
theorem make_any (ts : List Tok) (w : World) (hT : Tab w) (hok : ∀ t ∈ ts, t.ok) (hl : (toksR ts).length ≤ 100000) (hl2 : ts.length ≤ 100000) :
    Calls Tryd.prog 55 #[wf, .string (str (toksR ts)), .int .i32 92] w fun e w' => ∃ A c, e = .returned (.tuple #[mtV (.slice A ts.length c), .nilIface]) ∧ Rd w' 1 (.slice A ts.length c) ts.length ((ts.map Tok.nd).map Nd.v) ∧ Below w.heap.size w w' := by
  obtain ⟨T, hTd⟩ : ∃ T, toksR ts = T := ⟨_, rfl⟩
  have hab := toksR_ab hok
  rw [hTd] at hab hl ⊢
  have HTD := Lib.hid hTd
  have HAB := Lib.hid hab
  have HOK := Lib.hid hok
  have hsz := str_len4 T
  have hA1 : Below w.heap.size w (w.alloc z85) := (Below.refl _ _).alloc (Nat.le_refl _) _
  obtain ⟨w1, hw1⟩ : ∃ w1, w1 = w.alloc z85 := ⟨_, rfl⟩
  have hw1s : w1.heap.size = w.heap.size + 1 := by rw [hw1]; simp
  have HZ : Hid (w1.heap[w.heap.size]? = some z85) := Lib.hid (by rw [hw1]; exact heap_alloc_new _ _)
  have HA1 : Hid (Below w.heap.size w w1) := Lib.hid (by rw [hw1]; exact hA1)
  have HT := Lib.hid (tab_below hT HA1.out)
  obtain ⟨B0, hB0d⟩ : ∃ B0, B0 = w.heap.size + 1 + 1 := ⟨_, rfl⟩
  have HBD := Lib.hid hB0d
  have hBlt : w.heap.size + 1 < B0 := by omega
  have hwB : w1.heap.size ≤ B0 := by omega
  have HM0 : Hid ((w1.alloc (mt (.slice none 0 0))).heap[w.heap.size + 1]? = some (mt (.slice none 0 0))) := Lib.hid (by rw [← hw1s]; exact heap_alloc_new _ _)
  have HX0 : Hid ((w.alloc z85).alloc (mt (.slice none 0 0)) = w1.alloc (mt (.slice none 0 0))) := Lib.hid (by rw [hw1])
  have hs0 : B0 ≤ (w1.alloc (mt (.slice none 0 0))).heap.size := by simp; omega
  clear hT hok hA1 hw1 hab hTd hB0d
  go_enter Tryd.func55, Tryd.ntmps55
  go_wp2
  rw [HX0.out]
  go_loopg [10, 11, 12] ts.length (fun m v10 v11 v12 wr => ∃ (pre suf : List Tok) (u9 : Value), v10 = .int .i64 (off T (toksR pre).length : Nat) ∧ Hid (ts = pre ++ suf) ∧ Hid (m = suf.length) ∧ pre.length ≤ 100000 ∧ Hid (wr.heap[w.heap.size + 1]? = some (mt u9)) ∧ Hid (wr.ownsRow B0 110 1 u9 pre.length ((pre.map Tok.nd).map Nd.v)) ∧ Hid (Below w1.heap.size w1 wr) ∧ B0 ≤ wr.heap.size)
  case atStart => exact ⟨[], ts, .slice none 0 0, rfl, Lib.hid rfl, Lib.hid rfl, by simp, HM0, Lib.hid (World.ownsRow_nil _ _ _ _), Lib.hid ((Below.refl _ _).alloc (Nat.le_refl _) _), hs0⟩
  case round =>
    obtain ⟨pre, suf, u9, rfl, HTS, HGK, hpl, HM, HO, HB, hB0⟩ := hrel
    have hbs := HB.out.size
    obtain ⟨s0, s1, s2, t0⟩ := mt_cells HM.out
    clear HM0
    cases suf with
    | nil =>
      have hts := HTS.out
      rw [List.append_nil] at hts
      have hend : off T (toksR pre).length = (str T).size := by rw [← HTD.out, hts]; exact off_all _
      have HTE := Lib.hid hts
      have hz := (HB.out.block w.heap.size (by omega)).trans HZ.out
      have zc : wr.cell? ⟨w.heap.size, 0, none⟩ = some (.slice none 0 0) ∧ wr.cell? ⟨w.heap.size, 1, none⟩ = some .nilFunc ∧ wr.cell? ⟨w.heap.size, 2, none⟩ = some (.int .i32 0) := by
        refine ⟨?_, ?_, ?_⟩ <;> simp [World.cell?, hz]
      have zf : wr.frozen? ⟨w.heap.size, 0, none⟩ = false ∧ wr.frozen? ⟨w.heap.size, 1, none⟩ = false ∧ wr.frozen? ⟨w.heap.size, 2, none⟩ = false := by
        refine ⟨?_, ?_, ?_⟩ <;> simp [World.frozen?, hz]
      obtain ⟨zc0, zc1, zc2⟩ := zc
      obtain ⟨zf0, zf1, zf2⟩ := zf
      obtain ⟨A9, c9, rfl, _⟩ := (Rd.of_own HO.out).shape
      rw [hend]
      clear hts hend hz
      go_wp2
      refine bodyPost_ret (v := .tuple #[mtV (.slice A9 pre.length c9), .nilIface]) ?_ rfl ⟨A9, c9, by rw [HTE.out], ?_, ?_⟩
      · simp only [results, show Tryd.f55.results = #[.cell 6 85, .tmp 7] by kernel_rfl]; go_simp
      · rw [HTE.out]
        have h1 := own_grown_lt HO.out (r := some w.heap.size) (fun k hk => by injection hk with hk; omega) (grown_set (Below.refl _ wr) w.heap.size 0 (.slice A9 pre.length c9))
        have h2 := own_grown_lt h1 (r := some w.heap.size) (fun k hk => by injection hk with hk; omega) (grown_set (Below.refl _ _) w.heap.size 1 wf)
        have h3 := own_grown_lt h2 (r := some w.heap.size) (fun k hk => by injection hk with hk; omega) (grown_set (Below.refl _ _) w.heap.size 2 (.int .i32 92))
        exact Rd.of_own h3
      · exact ((((HA1.out.trans (HB.out.mono HA1.out.size)).setCell (p := ⟨w.heap.size, 0, none⟩) (Nat.le_refl _) _).setCell (p := ⟨w.heap.size, 1, none⟩) (Nat.le_refl _) _).setCell (p := ⟨w.heap.size, 2, none⟩) (Nat.le_refl _) _)
    | cons t suf' =>
      have hgk : gk = suf'.length + 1 := HGK.out
      have hTS : T = toksR (pre ++ t :: suf') := by rw [← HTD.out, HTS.out]
      have hOKt : t.ok := HOK.out t (by rw [HTS.out]; simp)
      have HOT := Lib.hid hOKt
      have HTS2 : Hid (ts = (pre ++ [t]) ++ suf') := Lib.hid (by rw [HTS.out]; simp)
      have HMAP : Hid (((pre ++ [t]).map Tok.nd).map Nd.v = (pre.map Tok.nd).map Nd.v ++ [t.nd.v]) := Lib.hid (by simp)
      have hpl2 : pre.length + 1 ≤ 100000 := by
        have h1 := congrArg List.length HTS.out
        simp at h1
        omega
      cases t
      case pl r0 =>
        have hpa : T[(toksR pre).length]? = some (r0) := by rw [hTS]; exact tok_first pre suf' _ _ _ rfl
        have hlta : (toksR pre).length < T.length := by
          rcases Nat.lt_or_ge ((toksR pre).length) T.length with h | h
          · exact h
          · rw [List.getElem?_eq_none h] at hpa; cases hpa
        have hga : T[(toksR pre).length] = (r0) := by rw [List.getElem?_eq_getElem hlta] at hpa; exact Option.some.inj hpa
        have DEa := Lib.hid (fun W (hW : Below w1.heap.size w1 W) => dec_at T ((toksR pre).length) W (tab_below HT.out hW) HAB.out hlta)
        rw [hga] at DEa
        have hsla := str_drop T ((toksR pre).length) (Nat.le_of_lt hlta)
        have hola := off_lt T ((toksR pre).length) hlta
        have hosa := off_succ T ((toksR pre).length) hlta
        rw [hga] at hosa
        have hba := off_le T ((toksR pre).length + 1) hlta
        have HOSa := Lib.hid hosa
        have hova : ((off T ((toksR pre).length) : Nat) : Int) + (((enc (r0)).length : Nat) : Int) = ((off T ((toksR pre).length + 1) : Nat) : Int) := by rw [hosa]; omega
        have hbba : ((off T ((toksR pre).length + 1) : Nat) : Int) ≤ 400000 := by omega
        clear hpa hga hosa
        obtain ⟨hr1, hr2, hr3, hr4⟩ := HOT.out
        have hpos := ab_pos hr1
        have f1 : (r0 == 65533) = false := by rw [beq_eq_false_iff_ne]; omega
        have f2 : (r0 == 95) = false := by rw [beq_eq_false_iff_ne]; exact hr3
        have f3 : (r0 == 37) = false := by rw [beq_eq_false_iff_ne]; exact hr2
        have f4 : (r0 == 92) = false := by rw [beq_eq_false_iff_ne]; exact hr4
        clear hr1 hr2 hr3 hr4 hOKt hTS
        have HK2 : Hid ((toksR pre).length + 1 = (toksR (pre ++ [.pl r0])).length) := Lib.hid (by rw [toksR_snoc, List.length_append]; rfl)
        generalize (enc r0).length = wd at *
        go_upto_region 10 with (go_at_call 65; (with_reducible refine (DEa.out _ HB.out).mono ?_); rintro e w2 ⟨rfl, hb2⟩; have HB2 := Lib.hid (HB.out.trans (hb2.mono hbs)); have HOX := Lib.hid (own_belowL HO.out hb2); have HMX := Lib.hid ((hb2.block _ (lt_blk HM.out)).trans HM.out); have hB2 := Nat.le_trans hB0 hb2.size; clear hb2 s0 s1 s2 t0)
        clear hB0
        have hB0 := hB2
        obtain ⟨X, rfl⟩ : ∃ X : World, X = w2 := ⟨_, rfl⟩
        refine Rv.region_fin (n := 94) (by kernel_rfl) #[36, 37, 38, 39, 40, 41, 42, 43, 44, 45, 46, 1011] #[] (fun i f W => if i = 11 then (fun f W => ∃ A9 c9, f 9 = .slice A9 (pre.length + 1) c9 ∧ W.ownsRow B0 110 1 (.slice A9 (pre.length + 1) c9) (pre.length + 1) ((pre.map Tok.nd).map Nd.v ++ ([.iface 104 (.agg #[.int .i32 r0, .int .i32 r0])] : List Value)) ∧ W.heap[w.heap.size + 1]? = some (mt (.slice A9 (pre.length + 1) c9))) f W else if i = 9 then (fun f W => ∃ A9 c9, f 9 = .slice A9 (pre.length + 1) c9 ∧ W.ownsRow B0 110 1 (.slice A9 (pre.length + 1) c9) (pre.length + 1) ((pre.map Tok.nd).map Nd.v ++ ([.iface 104 (.agg #[.int .i32 r0, .int .i32 r0])] : List Value)) ∧ W.heap[w.heap.size + 1]? = some (mt (u9))) f W else if i = 8 then (fun f W => ∃ g, f 8 = .slice (some ⟨g, 0, none⟩) 1 1 ∧ Rd W 1 (.slice (some ⟨g, 0, none⟩) 1 1) 1 ([.iface 104 (.agg #[.int .i32 r0, .int .i32 r0])] : List Value)) f W else f i = (#[.pointer (some ⟨w.heap.size + 1, 0, none⟩), u9, .int .i32 r0, wf, .int .i32 r0, .int .i32 r0, .agg #[.int .i32 r0, .int .i32 r0], .iface 104 (.agg #[.int .i32 r0, .int .i32 r0]), undef, undef, .pointer (some ⟨w.heap.size + 1, 0, none⟩), undef] : Array Value).getD i undef) (fun i j => (i == 9 && (j == 8)) || (i == 11 && (j == 9 || j == 8))) (fun i => i == 9 || i == 11) (fun i f W W' => True) (fun W => Below w1.heap.size w1 W ∧ B0 ≤ W.heap.size) (fun W => W.ownsRow B0 110 1 (u9) (pre.length) ((pre.map Tok.nd).map Nd.v) ∧ W.heap[w.heap.size + 1]? = some (mt (u9))) (fun _ _ _ => True) (fun _ _ _ _ _ _ _ _ => trivial) (fun i f f' w hi h hd hg => ?_) (fun i j f w w' hi hj hij hK hdp h hr => ?_) (fun i h g b hg => ?_) rfl (by kernel_rfl) (fun i h g b hg => ?_) (⟨(HB2.out).drew, hB0⟩) (⟨HOX.out, HMX.out⟩) (fun _ => trivial) (fun i h hr f w hf => ?_) (fun i h hr => absurd hr (Rv.allrun (by kernel_rfl) i h)) ?_ ?_
        · by_cases hi1011 : i = 11
          · subst hi1011
            rw [if_pos rfl] at hg ⊢
            obtain ⟨A, c, e, q⟩ := hg
            exact ⟨A, c, (hd 9 rfl).symm.trans e, q⟩
          rw [if_neg hi1011] at hg ⊢
          by_cases hi45 : i = 9
          · subst hi45
            rw [if_pos rfl] at hg ⊢
            obtain ⟨A, c, e, q⟩ := hg
            exact ⟨A, c, h.symm.trans e, q⟩
          rw [if_neg hi45] at hg ⊢
          by_cases hi44 : i = 8
          · subst hi44
            rw [if_pos rfl] at hg ⊢
            obtain ⟨g, e, q⟩ := hg
            exact ⟨g, h.symm.trans e, q⟩
          rw [if_neg hi44] at hg ⊢
          rw [← h]; exact hg
        · by_cases hj1011 : j = 11
          · subst hj1011
            rw [if_pos rfl] at h ⊢
            rcases hr with ⟨hK1, hr⟩ | hr
            · exfalso
              have hi2 : i = 9 ∨ i = 11 := by simpa using hK1
              rcases hi2 with e | e
              · subst e; revert hdp; decide
              · exact hij e
            · obtain ⟨A, c, e, h, h2⟩ := h
              exact ⟨A, c, e, own_belowL h hr, (hr.block _ (lt_blk h2)).trans h2⟩
          rw [if_neg hj1011] at h ⊢
          by_cases hj45 : j = 9
          · subst hj45
            rw [if_pos rfl] at h ⊢
            rcases hr with ⟨hK1, hr⟩ | hr
            · exfalso
              have hi2 : i = 9 ∨ i = 11 := by simpa using hK1
              rcases hi2 with e | e
              · exact hij e
              · subst e; revert hK; decide
            · obtain ⟨A, c, e, h, h2⟩ := h
              exact ⟨A, c, e, own_belowL h hr, (hr.block _ (lt_blk h2)).trans h2⟩
          rw [if_neg hj45] at h ⊢
          by_cases hj44 : j = 8
          · subst hj44
            rw [if_pos rfl] at h ⊢
            rcases hr with ⟨hK1, hr⟩ | hr
            · exfalso
              have hi2 : i = 9 ∨ i = 11 := by simpa using hK1
              rcases hi2 with e | e <;> (subst e; revert hK; decide)
            · obtain ⟨g, e, h⟩ := h
              exact ⟨g, e, h.below hr⟩
          rw [if_neg hj44] at h ⊢
          exact h
        · match i, h, hg with
          | 0, _, hg => cases hg
          | 1, _, hg => cases hg
          | 2, _, hg => cases hg
          | 3, _, hg => cases hg
          | 4, _, hg => cases hg
          | 5, _, hg => cases hg
          | 6, _, hg => cases hg
          | 7, _, hg => cases hg
          | 8, _, hg => cases hg
          | 9, _, hg => cases hg
          | 10, _, hg => cases hg
          | 11, _, hg => cases hg
          | m + 12, h, _ => exact absurd h (by show ¬ m + 12 < 12; omega)
        · match i, h, hg with
          | 0, _, hg => cases hg
          | 1, _, hg => cases hg
          | 2, _, hg => cases hg
          | 3, _, hg => cases hg
          | 4, _, hg => cases hg
          | 5, _, hg => cases hg
          | 6, _, hg => cases hg
          | 7, _, hg => cases hg
          | 8, _, hg => cases hg
          | 9, _, hg => cases hg
          | 10, _, hg => cases hg
          | 11, _, hg => cases hg
          | m + 12, h, _ => exact absurd h (by show ¬ m + 12 < 12; omega)
        · match i, h, hr, hf with
          | 0, _, hr, _ => exact Bool.noConfusion (show true = false from hr)
          | 1, _, hr, _ => exact Bool.noConfusion (show true = false from hr)
          | 2, _, hr, _ => exact Bool.noConfusion (show true = false from hr)
          | 3, _, hr, _ => exact Bool.noConfusion (show true = false from hr)
          | 4, _, hr, _ => exact Bool.noConfusion (show true = false from hr)
          | 5, _, hr, _ => exact Bool.noConfusion (show true = false from hr)
          | 6, _, hr, _ => exact Bool.noConfusion (show true = false from hr)
          | 7, _, hr, _ => exact Bool.noConfusion (show true = false from hr)
          | 8, _, hr, _ => exact Bool.noConfusion (show true = false from hr)
          | 9, _, hr, _ => exact Bool.noConfusion (show true = false from hr)
          | 10, _, hr, _ => exact Bool.noConfusion (show true = false from hr)
          | 11, _, hr, _ => exact Bool.noConfusion (show true = false from hr)
          | m + 12, h, _, _ => exact absurd h (by show ¬ m + 12 < 12; omega)
        · intro i h a W hrun hbase hpre hdep htr hta hJ
          match i, h with
          | 0, _ =>
            obtain ⟨e9, x9⟩ := Rv.ev (show a.tmps.getD 9 undef = .pointer (some ⟨w.heap.size + 1, 0, none⟩) from hbase 9 rfl)
            exact Rv.step_op (op := Go.Op.fieldAddr 85 (Go.Operand.tmp 9) 0) (v := .pointer (some ⟨w.heap.size + 1, 0, none⟩)) (w1 := W) rfl rfl (fun d pos aft g => by unfold execOp; go_simp) ⟨_, rfl, rfl, .inr (Below.refl _ _), htr, fun _ ht => ht, fun _ _ _ => trivial⟩
          | 1, _ =>
            obtain ⟨e36, x36⟩ := Rv.ev (show a.tmps.getD 36 undef = .pointer (some ⟨w.heap.size + 1, 0, none⟩) from hdep 0 rfl rfl)
            obtain ⟨s0, _, _, _⟩ := mt_cells (hta (by decide)).2
            exact Rv.step_op (op := Go.Op.load 83 (Go.Operand.tmp 36)) (v := u9) (w1 := W) rfl rfl (fun d pos aft g => by unfold execOp; go_simp) ⟨_, rfl, rfl, .inr (Below.refl _ _), htr, fun _ ht => ht, fun _ _ _ => trivial⟩
          | 2, _ =>
            obtain ⟨e11, x11⟩ := Rv.ev (show a.tmps.getD 11 undef = .int .i32 r0 from hbase 11 rfl)
            exact Rv.step_op (op := Go.Op.move (Go.Operand.tmp 11)) (v := .int .i32 r0) (w1 := W) rfl rfl (fun d pos aft g => by unfold execOp; go_simp) ⟨_, rfl, rfl, .inr (Below.refl _ _), htr, fun _ ht => ht, fun _ _ _ => trivial⟩
          | 3, _ =>
            obtain ⟨e8, x8⟩ := Rv.ev (show a.tmps.getD 8 undef = wf from hbase 8 rfl)
            exact Rv.step_op (op := Go.Op.move (Go.Operand.tmp 8)) (v := wf) (w1 := W) rfl rfl (fun d pos aft g => by unfold execOp; go_simp) ⟨_, rfl, rfl, .inr (Below.refl _ _), htr, fun _ ht => ht, fun _ _ _ => trivial⟩
          | 4, _ =>
            obtain ⟨e11, x11⟩ := Rv.ev (show a.tmps.getD 11 undef = .int .i32 r0 from hbase 11 rfl)
            exact Rv.step_op (op := Go.Op.move (Go.Operand.tmp 11)) (v := .int .i32 r0) (w1 := W) rfl rfl (fun d pos aft g => by unfold execOp; go_simp) ⟨_, rfl, rfl, .inr (Below.refl _ _), htr, fun _ ht => ht, fun _ _ _ => trivial⟩
          | 5, _ =>
            obtain ⟨e39, x39⟩ := Rv.ev (show a.tmps.getD 39 undef = wf from hdep 3 rfl rfl)
            obtain ⟨e40, x40⟩ := Rv.ev (show a.tmps.getD 40 undef = .int .i32 r0 from hdep 4 rfl rfl)
            have cf : ∀ x0 W, (callFunc 53 #[x0]).run Tryd.prog W = .ok (.enter 53 #[x0]) W := fun _ _ => by kernel_rfl
            refine Rv.step_fn (op := Go.Op.call { callee := Go.Callee.value (Go.Operand.tmp 39), args := #[Go.Operand.tmp 40], argTypes := #[21] }) (ty := 21) (f := 53) (args := #[.int .i32 r0]) (R := fun v W' => v = .int .i32 r0 ∧ W = W') rfl rfl (fun d pos aft g => by unfold execOp; go_simp) ((weight_any r0 W).mono ?_) ?_
            · (rintro e W' ⟨rfl, rfl⟩; exact ⟨_, rfl, rfl, rfl⟩)
            · (rintro v W' ⟨rfl, rfl⟩; exact ⟨_, rfl, rfl, .inr (Below.refl _ _), htr, (fun _ ht => ht), fun _ _ _ => trivial⟩)
          | 6, _ =>
            obtain ⟨e38, x38⟩ := Rv.ev (show a.tmps.getD 38 undef = .int .i32 r0 from hdep 2 rfl rfl)
            obtain ⟨e41, x41⟩ := Rv.ev (show a.tmps.getD 41 undef = .int .i32 r0 from hdep 5 rfl rfl)
            exact Rv.step_op (op := Go.Op.build 104 #[(0, Go.Operand.tmp 38), (1, Go.Operand.tmp 41)]) (v := .agg #[.int .i32 r0, .int .i32 r0]) (w1 := W) rfl rfl (fun d pos aft g => by unfold execOp; go_simp) ⟨_, rfl, rfl, .inr (Below.refl _ _), htr, fun _ ht => ht, fun _ _ _ => trivial⟩
          | 7, _ =>
            obtain ⟨e42, x42⟩ := Rv.ev (show a.tmps.getD 42 undef = .agg #[.int .i32 r0, .int .i32 r0] from hdep 6 rfl rfl)
            exact Rv.step_op (op := Go.Op.makeInterface 104 (Go.Operand.tmp 42)) (v := .iface 104 (.agg #[.int .i32 r0, .int .i32 r0])) (w1 := W) rfl rfl (fun d pos aft g => by unfold execOp; go_simp) ⟨_, rfl, rfl, .inr (Below.refl _ _), htr, fun _ ht => ht, fun _ _ _ => trivial⟩
          | 8, _ =>
            obtain ⟨e43, x43⟩ := Rv.ev (show a.tmps.getD 43 undef = .iface 104 (.agg #[.int .i32 r0, .int .i32 r0]) from hdep 7 rfl rfl)
            have hal : Below W.heap.size W (W.alloc (.cells #[.iface 104 (.agg #[.int .i32 r0, .int .i32 r0])] 110)) := (Below.refl _ _).alloc (Nat.le_refl _) _
            exact Rv.step_op (op := Go.Op.buildSlice 83 1 #[(0, Go.Operand.tmp 43)]) (ty := 83) (v := .slice (some ⟨W.heap.size, 0, none⟩) 1 1) (w1 := W.alloc (.cells #[.iface 104 (.agg #[.int .i32 r0, .int .i32 r0])] 110)) rfl rfl (fun d pos aft g => by unfold execOp; go_simp) ⟨_, rfl, ⟨W.heap.size, rfl, Rd.of_own (World.ownsRow_lit (base := W.heap.size) (e := 110) (size := 1) W #[.iface 104 (.agg #[.int .i32 r0, .int .i32 r0])] 1 (Nat.le_refl _) (by simp [maxLen]) rfl)⟩, .inr hal, ⟨htr.1.trans (hal.mono htr.1.size), Nat.le_trans htr.2 hal.size⟩, fun _ ht => ⟨own_belowL ht.1 hal, (hal.block _ (lt_blk ht.2)).trans ht.2⟩, fun _ _ _ => trivial⟩
          | 9, _ =>
            obtain ⟨e37, x37⟩ := Rv.ev (show a.tmps.getD 37 undef = u9 from hdep 1 rfl rfl)
            obtain ⟨gl, el', rl⟩ : ∃ g, a.tmps.getD 44 undef = .slice (some ⟨g, 0, none⟩) 1 1 ∧ Rd W 1 (.slice (some ⟨g, 0, none⟩) 1 1) 1 ([.iface 104 (.agg #[.int .i32 r0, .int .i32 r0])] : List Value) := hdep 8 rfl rfl
            obtain ⟨e44, x44⟩ := Rv.ev el'
            obtain ⟨hown, hblk⟩ := hta (by decide)
            obtain ⟨v', w', hrun, h2, h3, _⟩ := run_append_rd (P := Tryd.prog) W B0 83 83 110 (.nilIface) 1 16 Tryd.underlying83 info110 rfl (by omega) (by omega) _ _ _ hown _ _ _ rl (by simp [Value.oneCell']) (by omega) htr.2
            obtain ⟨A9, c9, rfl, _⟩ := (Rd.of_own h2).shape
            have hblk2 : w'.heap[w.heap.size + 1]? = some (mt (u9)) := by rw [h3.block _ (lt_blk hblk) (fun e => by have := own_base hown _ e.symm; omega)]; exact hblk
            exact Rv.step_op (op := Go.Op.call { callee := Go.Callee.builtin Go.Builtin.append, args := #[Go.Operand.tmp 37, Go.Operand.tmp 44], argTypes := #[83, 83] }) (ty := 83) (v := .slice A9 (pre.length + 1) c9) (w1 := w') rfl rfl (fun d pos aft g => by unfold execOp; simp only [resolve, invoke, builtin, Sem.run_bind, Sem.run_pure, Result.andThen_ok, List.map_toArray, List.map_cons, List.map_nil, e37, e44, hrun]) ⟨_, rfl, ⟨A9, c9, rfl, h2, hblk2⟩, .inl ⟨rfl, trivial⟩, ⟨htr.1.grown h3 htr.1.size (fun k hk => Nat.le_trans hwB (own_base hown k hk)), Nat.le_trans htr.2 h3.size⟩, (fun h _ => by cases h), fun _ _ _ => trivial⟩
          | 10, _ =>
            obtain ⟨e9, x9⟩ := Rv.ev (show a.tmps.getD 9 undef = .pointer (some ⟨w.heap.size + 1, 0, none⟩) from hbase 9 rfl)
            exact Rv.step_op (op := Go.Op.fieldAddr 85 (Go.Operand.tmp 9) 0) (v := .pointer (some ⟨w.heap.size + 1, 0, none⟩)) (w1 := W) rfl rfl (fun d pos aft g => by unfold execOp; go_simp) ⟨_, rfl, rfl, .inr (Below.refl _ _), htr, fun _ ht => ht, fun _ _ _ => trivial⟩
          | 11, _ =>
            obtain ⟨e46, x46⟩ := Rv.ev (show a.tmps.getD 46 undef = .pointer (some ⟨w.heap.size + 1, 0, none⟩) from hdep 10 rfl rfl)
            obtain ⟨A9, c9, e9', h9, hh9⟩ : ∃ A9 c9, a.tmps.getD 45 undef = .slice A9 (pre.length + 1) c9 ∧ W.ownsRow B0 110 1 (.slice A9 (pre.length + 1) c9) (pre.length + 1) ((pre.map Tok.nd).map Nd.v ++ ([.iface 104 (.agg #[.int .i32 r0, .int .i32 r0])] : List Value)) ∧ W.heap[w.heap.size + 1]? = some (mt (u9)) := hdep 9 rfl rfl
            obtain ⟨e45, x45⟩ := Rv.ev e9'
            obtain ⟨s0, s1, s2, t0⟩ := mt_cells hh9
            have hst := mt_store hh9 (.slice A9 (pre.length + 1) c9)
            have hbw : Below w1.heap.size w1 (W.setCell ⟨w.heap.size + 1, 0, none⟩ (.slice A9 (pre.length + 1) c9)) := htr.1.setCell (show w1.heap.size ≤ w.heap.size + 1 by omega) _
            have hsz9 : (W.setCell ⟨w.heap.size + 1, 0, none⟩ (.slice A9 (pre.length + 1) c9)).heap.size = W.heap.size := by simp
            have hown9 := own_grown_lt h9 (r := some (w.heap.size + 1)) (fun k hk => by injection hk with hk; omega) (grown_set (Below.refl _ W) (w.heap.size + 1) 0 (.slice A9 (pre.length + 1) c9))
            exact Rv.step_skip (op := Go.Op.store 83 (Go.Operand.tmp 46) (Go.Operand.tmp 45)) (ty := 0) (w1 := W.setCell ⟨w.heap.size + 1, 0, none⟩ (.slice A9 (pre.length + 1) c9)) rfl rfl (fun d pos aft g => by unfold execOp; go_simp) ⟨undef, rfl, ⟨A9, c9, e9', hown9, hst⟩, .inl ⟨rfl, trivial⟩, ⟨hbw, by rw [hsz9]; exact htr.2⟩, (fun h _ => by cases h), fun _ _ _ => trivial⟩
          | m + 12, h => exact absurd h (by show ¬ m + 12 < 12; omega)
        intro W f hf htr hJ
        have f0 : f 0 = .pointer (some ⟨w.heap.size + 1, 0, none⟩) := hf 0 (by show 0 < 12; omega) rfl
        have f1 : f 1 = u9 := hf 1 (by show 1 < 12; omega) rfl
        have f2 : f 2 = .int .i32 r0 := hf 2 (by show 2 < 12; omega) rfl
        have f3 : f 3 = wf := hf 3 (by show 3 < 12; omega) rfl
        have f4 : f 4 = .int .i32 r0 := hf 4 (by show 4 < 12; omega) rfl
        have f5 : f 5 = .int .i32 r0 := hf 5 (by show 5 < 12; omega) rfl
        have f6 : f 6 = .agg #[.int .i32 r0, .int .i32 r0] := hf 6 (by show 6 < 12; omega) rfl
        have f7 : f 7 = .iface 104 (.agg #[.int .i32 r0, .int .i32 r0]) := hf 7 (by show 7 < 12; omega) rfl
        have f10 : f 10 = .pointer (some ⟨w.heap.size + 1, 0, none⟩) := hf 10 (by show 10 < 12; omega) rfl
        have HS11 := Lib.hid (show (fun f W => ∃ A9 c9, f 9 = .slice A9 (pre.length + 1) c9 ∧ W.ownsRow B0 110 1 (.slice A9 (pre.length + 1) c9) (pre.length + 1) ((pre.map Tok.nd).map Nd.v ++ ([.iface 104 (.agg #[.int .i32 r0, .int .i32 r0])] : List Value)) ∧ W.heap[w.heap.size + 1]? = some (mt (.slice A9 (pre.length + 1) c9))) f W from hf 11 (by show 11 < 12; omega) rfl)
        clear hf
        refine Rv.q_swap (L' := [(36, f 0), (37, f 1), (38, f 2), (39, f 3), (40, f 4), (41, f 5), (42, f 6), (43, f 7), (44, f 8), (45, f 9), (46, f 10), (1011, f 11)]) rfl ?_
        rw [f0, f1, f2, f3, f4, f5, f6, f7, f10]
        clear f0 f1 f2 f3 f4 f5 f6 f7 f10
        simp only [Rv.fin, List.foldl_cons, List.foldl_nil, Act.put, List.setIfInBounds_toArray, List.set_cons_succ, List.set_cons_zero, List.set_nil]
        obtain ⟨A9, c9, _, h9, hm9⟩ := HS11.out
        have HO9 := Lib.hid h9
        have HM9 := Lib.hid hm9
        have HB9 := Lib.hid htr.1
        have hB9 := htr.2
        clear HS11 htr hJ h9 hm9
        go_wp2
        go_roundg suf'.length
        case measure => omega
        case rel => exact ⟨pre ++ [.pl r0], suf', .slice A9 (pre.length + 1) c9, by rw [HK2.out], HTS2, Lib.hid rfl, by rw [List.length_append]; exact hpl2, HM9, Lib.hid (by rw [HMAP.out, List.length_append]; exact HO9.out), HB9, hB9⟩
      case es r0 =>
        have hpa : T[(toksR pre).length]? = some (92) := by rw [hTS]; exact tok_first pre suf' _ _ _ rfl
        have hlta : (toksR pre).length < T.length := by
          rcases Nat.lt_or_ge ((toksR pre).length) T.length with h | h
          · exact h
          · rw [List.getElem?_eq_none h] at hpa; cases hpa
        have hga : T[(toksR pre).length] = (92) := by rw [List.getElem?_eq_getElem hlta] at hpa; exact Option.some.inj hpa
        have DEa := Lib.hid (fun W (hW : Below w1.heap.size w1 W) => dec_at T ((toksR pre).length) W (tab_below HT.out hW) HAB.out hlta)
        rw [hga] at DEa
        have hsla := str_drop T ((toksR pre).length) (Nat.le_of_lt hlta)
        have hola := off_lt T ((toksR pre).length) hlta
        have hosa := off_succ T ((toksR pre).length) hlta
        rw [hga] at hosa
        have hba := off_le T ((toksR pre).length + 1) hlta
        have HOSa := Lib.hid hosa
        have hova : ((off T ((toksR pre).length) : Nat) : Int) + (((enc (92)).length : Nat) : Int) = ((off T ((toksR pre).length + 1) : Nat) : Int) := by rw [hosa]; omega
        have hbba : ((off T ((toksR pre).length + 1) : Nat) : Int) ≤ 400000 := by omega
        clear hpa hga hosa
        have hpb : T[(toksR pre).length + 1]? = some (r0) := by rw [hTS]; exact tok_second pre suf' r0
        have hltb : (toksR pre).length + 1 < T.length := by
          rcases Nat.lt_or_ge ((toksR pre).length + 1) T.length with h | h
          · exact h
          · rw [List.getElem?_eq_none h] at hpb; cases hpb
        have hgb : T[(toksR pre).length + 1] = (r0) := by rw [List.getElem?_eq_getElem hltb] at hpb; exact Option.some.inj hpb
        have DEb := Lib.hid (fun W (hW : Below w1.heap.size w1 W) => dec_at T ((toksR pre).length + 1) W (tab_below HT.out hW) HAB.out hltb)
        rw [hgb] at DEb
        have hslb := str_drop T ((toksR pre).length + 1) (Nat.le_of_lt hltb)
        have holb := off_lt T ((toksR pre).length + 1) hltb
        have hosb := off_succ T ((toksR pre).length + 1) hltb
        rw [hgb] at hosb
        have hbb := off_le T ((toksR pre).length + 1 + 1) hltb
        have HOSb := Lib.hid hosb
        have hovb : ((off T ((toksR pre).length + 1) : Nat) : Int) + (((enc (r0)).length : Nat) : Int) = ((off T ((toksR pre).length + 1 + 1) : Nat) : Int) := by rw [hosb]; omega
        have hbbb : ((off T ((toksR pre).length + 1 + 1) : Nat) : Int) ≤ 400000 := by omega
        clear hpb hgb hosb
        have hpos := ab_pos HOT.out
        have f1 : (r0 == 65533) = false := by rw [beq_eq_false_iff_ne]; omega
        clear hOKt hTS
        have he92 : (enc 92).length = 1 := by rw [enc_ab.2.2.2.2.2.1]; rfl
        rw [he92] at DEa hova
        have hova : ((off T (toksR pre).length : Nat) : Int) + 1 = ((off T ((toksR pre).length + 1) : Nat) : Int) := hova
        have HK2 : Hid ((toksR pre).length + 1 + 1 = (toksR (pre ++ [.es r0])).length) := Lib.hid (by rw [toksR_snoc, List.length_append]; rfl)
        clear he92
        generalize (enc r0).length = wd at *
        go_upto_region 20 with (first
          | (go_at_call 65; (with_reducible refine (DEa.out _ HB.out).mono ?_); rintro e w2 ⟨rfl, hb2⟩; have HB2 := Lib.hid (HB.out.trans (hb2.mono hbs)); have HO2 := Lib.hid (own_belowL HO.out hb2); have HM2 := Lib.hid ((hb2.block _ (lt_blk HM.out)).trans HM.out); have hB2 := Nat.le_trans hB0 hb2.size; clear hb2 s0 s1 s2 t0)
          | (go_at_call 65; (with_reducible refine (DEb.out _ HB2.out).mono ?_); rintro e w3 ⟨rfl, hb3⟩; have HB3 := Lib.hid (HB2.out.trans (hb3.mono HB2.out.size)); have HOX := Lib.hid (own_belowL HO2.out hb3); have HMX := Lib.hid ((hb3.block _ (lt_blk HM2.out)).trans HM2.out); have hB3 := Nat.le_trans hB2 hb3.size; clear hb3))
        clear hB0
        have hB0 := hB3
        obtain ⟨X, rfl⟩ : ∃ X : World, X = w3 := ⟨_, rfl⟩
        refine Rv.region_fin (n := 94) (by kernel_rfl) #[82, 83, 84, 85, 86, 87, 88, 89, 90, 91, 92, 1011] #[] (fun i f W => if i = 11 then (fun f W => ∃ A9 c9, f 9 = .slice A9 (pre.length + 1) c9 ∧ W.ownsRow B0 110 1 (.slice A9 (pre.length + 1) c9) (pre.length + 1) ((pre.map Tok.nd).map Nd.v ++ ([.iface 104 (.agg #[.int .i32 r0, .int .i32 r0])] : List Value)) ∧ W.heap[w.heap.size + 1]? = some (mt (.slice A9 (pre.length + 1) c9))) f W else if i = 9 then (fun f W => ∃ A9 c9, f 9 = .slice A9 (pre.length + 1) c9 ∧ W.ownsRow B0 110 1 (.slice A9 (pre.length + 1) c9) (pre.length + 1) ((pre.map Tok.nd).map Nd.v ++ ([.iface 104 (.agg #[.int .i32 r0, .int .i32 r0])] : List Value)) ∧ W.heap[w.heap.size + 1]? = some (mt (u9))) f W else if i = 8 then (fun f W => ∃ g, f 8 = .slice (some ⟨g, 0, none⟩) 1 1 ∧ Rd W 1 (.slice (some ⟨g, 0, none⟩) 1 1) 1 ([.iface 104 (.agg #[.int .i32 r0, .int .i32 r0])] : List Value)) f W else f i = (#[.pointer (some ⟨w.heap.size + 1, 0, none⟩), u9, .int .i32 r0, wf, .int .i32 r0, .int .i32 r0, .agg #[.int .i32 r0, .int .i32 r0], .iface 104 (.agg #[.int .i32 r0, .int .i32 r0]), undef, undef, .pointer (some ⟨w.heap.size + 1, 0, none⟩), undef] : Array Value).getD i undef) (fun i j => (i == 9 && (j == 8)) || (i == 11 && (j == 9 || j == 8))) (fun i => i == 9 || i == 11) (fun i f W W' => True) (fun W => Below w1.heap.size w1 W ∧ B0 ≤ W.heap.size) (fun W => W.ownsRow B0 110 1 (u9) (pre.length) ((pre.map Tok.nd).map Nd.v) ∧ W.heap[w.heap.size + 1]? = some (mt (u9))) (fun _ _ _ => True) (fun _ _ _ _ _ _ _ _ => trivial) (fun i f f' w hi h hd hg => ?_) (fun i j f w w' hi hj hij hK hdp h hr => ?_) (fun i h g b hg => ?_) rfl (by kernel_rfl) (fun i h g b hg => ?_) (⟨(HB3.out).drew, hB0⟩) (⟨HOX.out, HMX.out⟩) (fun _ => trivial) (fun i h hr f w hf => ?_) (fun i h hr => absurd hr (Rv.allrun (by kernel_rfl) i h)) ?_ ?_
        · by_cases hi1011 : i = 11
          · subst hi1011
            rw [if_pos rfl] at hg ⊢
            obtain ⟨A, c, e, q⟩ := hg
            exact ⟨A, c, (hd 9 rfl).symm.trans e, q⟩
          rw [if_neg hi1011] at hg ⊢
          by_cases hi91 : i = 9
          · subst hi91
            rw [if_pos rfl] at hg ⊢
            obtain ⟨A, c, e, q⟩ := hg
            exact ⟨A, c, h.symm.trans e, q⟩
          rw [if_neg hi91] at hg ⊢
          by_cases hi90 : i = 8
          · subst hi90
            rw [if_pos rfl] at hg ⊢
            obtain ⟨g, e, q⟩ := hg
            exact ⟨g, h.symm.trans e, q⟩
          rw [if_neg hi90] at hg ⊢
          rw [← h]; exact hg
        · by_cases hj1011 : j = 11
          · subst hj1011
            rw [if_pos rfl] at h ⊢
            rcases hr with ⟨hK1, hr⟩ | hr
            · exfalso
              have hi2 : i = 9 ∨ i = 11 := by simpa using hK1
              rcases hi2 with e | e
              · subst e; revert hdp; decide
              · exact hij e
            · obtain ⟨A, c, e, h, h2⟩ := h
              exact ⟨A, c, e, own_belowL h hr, (hr.block _ (lt_blk h2)).trans h2⟩
          rw [if_neg hj1011] at h ⊢
          by_cases hj91 : j = 9
          · subst hj91
            rw [if_pos rfl] at h ⊢
            rcases hr with ⟨hK1, hr⟩ | hr
            · exfalso
              have hi2 : i = 9 ∨ i = 11 := by simpa using hK1
              rcases hi2 with e | e
              · exact hij e
              · subst e; revert hK; decide
            · obtain ⟨A, c, e, h, h2⟩ := h
              exact ⟨A, c, e, own_belowL h hr, (hr.block _ (lt_blk h2)).trans h2⟩
          rw [if_neg hj91] at h ⊢
          by_cases hj90 : j = 8
          · subst hj90
            rw [if_pos rfl] at h ⊢
            rcases hr with ⟨hK1, hr⟩ | hr
            · exfalso
              have hi2 : i = 9 ∨ i = 11 := by simpa using hK1
              rcases hi2 with e | e <;> (subst e; revert hK; decide)
            · obtain ⟨g, e, h⟩ := h
              exact ⟨g, e, h.below hr⟩
          rw [if_neg hj90] at h ⊢
          exact h
        · match i, h, hg with
          | 0, _, hg => cases hg
          | 1, _, hg => cases hg
          | 2, _, hg => cases hg
          | 3, _, hg => cases hg
          | 4, _, hg => cases hg
          | 5, _, hg => cases hg
          | 6, _, hg => cases hg
          | 7, _, hg => cases hg
          | 8, _, hg => cases hg
          | 9, _, hg => cases hg
          | 10, _, hg => cases hg
          | 11, _, hg => cases hg
          | m + 12, h, _ => exact absurd h (by show ¬ m + 12 < 12; omega)
        · match i, h, hg with
          | 0, _, hg => cases hg
          | 1, _, hg => cases hg
          | 2, _, hg => cases hg
          | 3, _, hg => cases hg
          | 4, _, hg => cases hg
          | 5, _, hg => cases hg
          | 6, _, hg => cases hg
          | 7, _, hg => cases hg
          | 8, _, hg => cases hg
          | 9, _, hg => cases hg
          | 10, _, hg => cases hg
          | 11, _, hg => cases hg
          | m + 12, h, _ => exact absurd h (by show ¬ m + 12 < 12; omega)
        · match i, h, hr, hf with
          | 0, _, hr, _ => exact Bool.noConfusion (show true = false from hr)
          | 1, _, hr, _ => exact Bool.noConfusion (show true = false from hr)
          | 2, _, hr, _ => exact Bool.noConfusion (show true = false from hr)
          | 3, _, hr, _ => exact Bool.noConfusion (show true = false from hr)
          | 4, _, hr, _ => exact Bool.noConfusion (show true = false from hr)
          | 5, _, hr, _ => exact Bool.noConfusion (show true = false from hr)
          | 6, _, hr, _ => exact Bool.noConfusion (show true = false from hr)
          | 7, _, hr, _ => exact Bool.noConfusion (show true = false from hr)
          | 8, _, hr, _ => exact Bool.noConfusion (show true = false from hr)
          | 9, _, hr, _ => exact Bool.noConfusion (show true = false from hr)
          | 10, _, hr, _ => exact Bool.noConfusion (show true = false from hr)
          | 11, _, hr, _ => exact Bool.noConfusion (show true = false from hr)
          | m + 12, h, _, _ => exact absurd h (by show ¬ m + 12 < 12; omega)
        · intro i h a W hrun hbase hpre hdep htr hta hJ
          match i, h with
          | 0, _ =>
            obtain ⟨e9, x9⟩ := Rv.ev (show a.tmps.getD 9 undef = .pointer (some ⟨w.heap.size + 1, 0, none⟩) from hbase 9 rfl)
            exact Rv.step_op (op := Go.Op.fieldAddr 85 (Go.Operand.tmp 9) 0) (v := .pointer (some ⟨w.heap.size + 1, 0, none⟩)) (w1 := W) rfl rfl (fun d pos aft g => by unfold execOp; go_simp) ⟨_, rfl, rfl, .inr (Below.refl _ _), htr, fun _ ht => ht, fun _ _ _ => trivial⟩
          | 1, _ =>
            obtain ⟨e82, x82⟩ := Rv.ev (show a.tmps.getD 82 undef = .pointer (some ⟨w.heap.size + 1, 0, none⟩) from hdep 0 rfl rfl)
            obtain ⟨s0, _, _, _⟩ := mt_cells (hta (by decide)).2
            exact Rv.step_op (op := Go.Op.load 83 (Go.Operand.tmp 82)) (v := u9) (w1 := W) rfl rfl (fun d pos aft g => by unfold execOp; go_simp) ⟨_, rfl, rfl, .inr (Below.refl _ _), htr, fun _ ht => ht, fun _ _ _ => trivial⟩
          | 2, _ =>
            obtain ⟨e11, x11⟩ := Rv.ev (show a.tmps.getD 11 undef = .int .i32 r0 from hbase 11 rfl)
            exact Rv.step_op (op := Go.Op.move (Go.Operand.tmp 11)) (v := .int .i32 r0) (w1 := W) rfl rfl (fun d pos aft g => by unfold execOp; go_simp) ⟨_, rfl, rfl, .inr (Below.refl _ _), htr, fun _ ht => ht, fun _ _ _ => trivial⟩
          | 3, _ =>
            obtain ⟨e8, x8⟩ := Rv.ev (show a.tmps.getD 8 undef = wf from hbase 8 rfl)
            exact Rv.step_op (op := Go.Op.move (Go.Operand.tmp 8)) (v := wf) (w1 := W) rfl rfl (fun d pos aft g => by unfold execOp; go_simp) ⟨_, rfl, rfl, .inr (Below.refl _ _), htr, fun _ ht => ht, fun _ _ _ => trivial⟩
          | 4, _ =>
            obtain ⟨e11, x11⟩ := Rv.ev (show a.tmps.getD 11 undef = .int .i32 r0 from hbase 11 rfl)
            exact Rv.step_op (op := Go.Op.move (Go.Operand.tmp 11)) (v := .int .i32 r0) (w1 := W) rfl rfl (fun d pos aft g => by unfold execOp; go_simp) ⟨_, rfl, rfl, .inr (Below.refl _ _), htr, fun _ ht => ht, fun _ _ _ => trivial⟩
          | 5, _ =>
            obtain ⟨e85, x85⟩ := Rv.ev (show a.tmps.getD 85 undef = wf from hdep 3 rfl rfl)
            obtain ⟨e86, x86⟩ := Rv.ev (show a.tmps.getD 86 undef = .int .i32 r0 from hdep 4 rfl rfl)
            have cf : ∀ x0 W, (callFunc 53 #[x0]).run Tryd.prog W = .ok (.enter 53 #[x0]) W := fun _ _ => by kernel_rfl
            refine Rv.step_fn (op := Go.Op.call { callee := Go.Callee.value (Go.Operand.tmp 85), args := #[Go.Operand.tmp 86], argTypes := #[21] }) (ty := 21) (f := 53) (args := #[.int .i32 r0]) (R := fun v W' => v = .int .i32 r0 ∧ W = W') rfl rfl (fun d pos aft g => by unfold execOp; go_simp) ((weight_any r0 W).mono ?_) ?_
            · (rintro e W' ⟨rfl, rfl⟩; exact ⟨_, rfl, rfl, rfl⟩)
            · (rintro v W' ⟨rfl, rfl⟩; exact ⟨_, rfl, rfl, .inr (Below.refl _ _), htr, (fun _ ht => ht), fun _ _ _ => trivial⟩)
          | 6, _ =>
            obtain ⟨e84, x84⟩ := Rv.ev (show a.tmps.getD 84 undef = .int .i32 r0 from hdep 2 rfl rfl)
            obtain ⟨e87, x87⟩ := Rv.ev (show a.tmps.getD 87 undef = .int .i32 r0 from hdep 5 rfl rfl)
            exact Rv.step_op (op := Go.Op.build 104 #[(0, Go.Operand.tmp 84), (1, Go.Operand.tmp 87)]) (v := .agg #[.int .i32 r0, .int .i32 r0]) (w1 := W) rfl rfl (fun d pos aft g => by unfold execOp; go_simp) ⟨_, rfl, rfl, .inr (Below.refl _ _), htr, fun _ ht => ht, fun _ _ _ => trivial⟩
          | 7, _ =>
            obtain ⟨e88, x88⟩ := Rv.ev (show a.tmps.getD 88 undef = .agg #[.int .i32 r0, .int .i32 r0] from hdep 6 rfl rfl)
            exact Rv.step_op (op := Go.Op.makeInterface 104 (Go.Operand.tmp 88)) (v := .iface 104 (.agg #[.int .i32 r0, .int .i32 r0])) (w1 := W) rfl rfl (fun d pos aft g => by unfold execOp; go_simp) ⟨_, rfl, rfl, .inr (Below.refl _ _), htr, fun _ ht => ht, fun _ _ _ => trivial⟩
          | 8, _ =>
            obtain ⟨e89, x89⟩ := Rv.ev (show a.tmps.getD 89 undef = .iface 104 (.agg #[.int .i32 r0, .int .i32 r0]) from hdep 7 rfl rfl)
            have hal : Below W.heap.size W (W.alloc (.cells #[.iface 104 (.agg #[.int .i32 r0, .int .i32 r0])] 110)) := (Below.refl _ _).alloc (Nat.le_refl _) _
            exact Rv.step_op (op := Go.Op.buildSlice 83 1 #[(0, Go.Operand.tmp 89)]) (ty := 83) (v := .slice (some ⟨W.heap.size, 0, none⟩) 1 1) (w1 := W.alloc (.cells #[.iface 104 (.agg #[.int .i32 r0, .int .i32 r0])] 110)) rfl rfl (fun d pos aft g => by unfold execOp; go_simp) ⟨_, rfl, ⟨W.heap.size, rfl, Rd.of_own (World.ownsRow_lit (base := W.heap.size) (e := 110) (size := 1) W #[.iface 104 (.agg #[.int .i32 r0, .int .i32 r0])] 1 (Nat.le_refl _) (by simp [maxLen]) rfl)⟩, .inr hal, ⟨htr.1.trans (hal.mono htr.1.size), Nat.le_trans htr.2 hal.size⟩, fun _ ht => ⟨own_belowL ht.1 hal, (hal.block _ (lt_blk ht.2)).trans ht.2⟩, fun _ _ _ => trivial⟩
          | 9, _ =>
            obtain ⟨e83, x83⟩ := Rv.ev (show a.tmps.getD 83 undef = u9 from hdep 1 rfl rfl)
            obtain ⟨gl, el', rl⟩ : ∃ g, a.tmps.getD 90 undef = .slice (some ⟨g, 0, none⟩) 1 1 ∧ Rd W 1 (.slice (some ⟨g, 0, none⟩) 1 1) 1 ([.iface 104 (.agg #[.int .i32 r0, .int .i32 r0])] : List Value) := hdep 8 rfl rfl
            obtain ⟨e90, x90⟩ := Rv.ev el'
            obtain ⟨hown, hblk⟩ := hta (by decide)
            obtain ⟨v', w', hrun, h2, h3, _⟩ := run_append_rd (P := Tryd.prog) W B0 83 83 110 (.nilIface) 1 16 Tryd.underlying83 info110 rfl (by omega) (by omega) _ _ _ hown _ _ _ rl (by simp [Value.oneCell']) (by omega) htr.2
            obtain ⟨A9, c9, rfl, _⟩ := (Rd.of_own h2).shape
            have hblk2 : w'.heap[w.heap.size + 1]? = some (mt (u9)) := by rw [h3.block _ (lt_blk hblk) (fun e => by have := own_base hown _ e.symm; omega)]; exact hblk
            exact Rv.step_op (op := Go.Op.call { callee := Go.Callee.builtin Go.Builtin.append, args := #[Go.Operand.tmp 83, Go.Operand.tmp 90], argTypes := #[83, 83] }) (ty := 83) (v := .slice A9 (pre.length + 1) c9) (w1 := w') rfl rfl (fun d pos aft g => by unfold execOp; simp only [resolve, invoke, builtin, Sem.run_bind, Sem.run_pure, Result.andThen_ok, List.map_toArray, List.map_cons, List.map_nil, e83, e90, hrun]) ⟨_, rfl, ⟨A9, c9, rfl, h2, hblk2⟩, .inl ⟨rfl, trivial⟩, ⟨htr.1.grown h3 htr.1.size (fun k hk => Nat.le_trans hwB (own_base hown k hk)), Nat.le_trans htr.2 h3.size⟩, (fun h _ => by cases h), fun _ _ _ => trivial⟩
          | 10, _ =>
            obtain ⟨e9, x9⟩ := Rv.ev (show a.tmps.getD 9 undef = .pointer (some ⟨w.heap.size + 1, 0, none⟩) from hbase 9 rfl)
            exact Rv.step_op (op := Go.Op.fieldAddr 85 (Go.Operand.tmp 9) 0) (v := .pointer (some ⟨w.heap.size + 1, 0, none⟩)) (w1 := W) rfl rfl (fun d pos aft g => by unfold execOp; go_simp) ⟨_, rfl, rfl, .inr (Below.refl _ _), htr, fun _ ht => ht, fun _ _ _ => trivial⟩
          | 11, _ =>
            obtain ⟨e92, x92⟩ := Rv.ev (show a.tmps.getD 92 undef = .pointer (some ⟨w.heap.size + 1, 0, none⟩) from hdep 10 rfl rfl)
            obtain ⟨A9, c9, e9', h9, hh9⟩ : ∃ A9 c9, a.tmps.getD 91 undef = .slice A9 (pre.length + 1) c9 ∧ W.ownsRow B0 110 1 (.slice A9 (pre.length + 1) c9) (pre.length + 1) ((pre.map Tok.nd).map Nd.v ++ ([.iface 104 (.agg #[.int .i32 r0, .int .i32 r0])] : List Value)) ∧ W.heap[w.heap.size + 1]? = some (mt (u9)) := hdep 9 rfl rfl
            obtain ⟨e91, x91⟩ := Rv.ev e9'
            obtain ⟨s0, s1, s2, t0⟩ := mt_cells hh9
            have hst := mt_store hh9 (.slice A9 (pre.length + 1) c9)
            have hbw : Below w1.heap.size w1 (W.setCell ⟨w.heap.size + 1, 0, none⟩ (.slice A9 (pre.length + 1) c9)) := htr.1.setCell (show w1.heap.size ≤ w.heap.size + 1 by omega) _
            have hsz9 : (W.setCell ⟨w.heap.size + 1, 0, none⟩ (.slice A9 (pre.length + 1) c9)).heap.size = W.heap.size := by simp
            have hown9 := own_grown_lt h9 (r := some (w.heap.size + 1)) (fun k hk => by injection hk with hk; omega) (grown_set (Below.refl _ W) (w.heap.size + 1) 0 (.slice A9 (pre.length + 1) c9))
            exact Rv.step_skip (op := Go.Op.store 83 (Go.Operand.tmp 92) (Go.Operand.tmp 91)) (ty := 0) (w1 := W.setCell ⟨w.heap.size + 1, 0, none⟩ (.slice A9 (pre.length + 1) c9)) rfl rfl (fun d pos aft g => by unfold execOp; go_simp) ⟨undef, rfl, ⟨A9, c9, e9', hown9, hst⟩, .inl ⟨rfl, trivial⟩, ⟨hbw, by rw [hsz9]; exact htr.2⟩, (fun h _ => by cases h), fun _ _ _ => trivial⟩
          | m + 12, h => exact absurd h (by show ¬ m + 12 < 12; omega)
        intro W f hf htr hJ
        have f0 : f 0 = .pointer (some ⟨w.heap.size + 1, 0, none⟩) := hf 0 (by show 0 < 12; omega) rfl
        have f1 : f 1 = u9 := hf 1 (by show 1 < 12; omega) rfl
        have f2 : f 2 = .int .i32 r0 := hf 2 (by show 2 < 12; omega) rfl
        have f3 : f 3 = wf := hf 3 (by show 3 < 12; omega) rfl
        have f4 : f 4 = .int .i32 r0 := hf 4 (by show 4 < 12; omega) rfl
        have f5 : f 5 = .int .i32 r0 := hf 5 (by show 5 < 12; omega) rfl
        have f6 : f 6 = .agg #[.int .i32 r0, .int .i32 r0] := hf 6 (by show 6 < 12; omega) rfl
        have f7 : f 7 = .iface 104 (.agg #[.int .i32 r0, .int .i32 r0]) := hf 7 (by show 7 < 12; omega) rfl
        have f10 : f 10 = .pointer (some ⟨w.heap.size + 1, 0, none⟩) := hf 10 (by show 10 < 12; omega) rfl
        have HS11 := Lib.hid (show (fun f W => ∃ A9 c9, f 9 = .slice A9 (pre.length + 1) c9 ∧ W.ownsRow B0 110 1 (.slice A9 (pre.length + 1) c9) (pre.length + 1) ((pre.map Tok.nd).map Nd.v ++ ([.iface 104 (.agg #[.int .i32 r0, .int .i32 r0])] : List Value)) ∧ W.heap[w.heap.size + 1]? = some (mt (.slice A9 (pre.length + 1) c9))) f W from hf 11 (by show 11 < 12; omega) rfl)
        clear hf
        refine Rv.q_swap (L' := [(82, f 0), (83, f 1), (84, f 2), (85, f 3), (86, f 4), (87, f 5), (88, f 6), (89, f 7), (90, f 8), (91, f 9), (92, f 10), (1011, f 11)]) rfl ?_
        rw [f0, f1, f2, f3, f4, f5, f6, f7, f10]
        clear f0 f1 f2 f3 f4 f5 f6 f7 f10
        simp only [Rv.fin, List.foldl_cons, List.foldl_nil, Act.put, List.setIfInBounds_toArray, List.set_cons_succ, List.set_cons_zero, List.set_nil]
        obtain ⟨A9, c9, _, h9, hm9⟩ := HS11.out
        have HO9 := Lib.hid h9
        have HM9 := Lib.hid hm9
        have HB9 := Lib.hid htr.1
        have hB9 := htr.2
        clear HS11 htr hJ h9 hm9
        go_wp2
        go_roundg suf'.length
        case measure => omega
        case rel => exact ⟨pre ++ [.es r0], suf', .slice A9 (pre.length + 1) c9, by rw [HK2.out], HTS2, Lib.hid rfl, by rw [List.length_append]; exact hpl2, HM9, Lib.hid (by rw [HMAP.out, List.length_append]; exact HO9.out), HB9, hB9⟩
      case pc =>
        have hpa : T[(toksR pre).length]? = some (37) := by rw [hTS]; exact tok_first pre suf' _ _ _ rfl
        have hlta : (toksR pre).length < T.length := by
          rcases Nat.lt_or_ge ((toksR pre).length) T.length with h | h
          · exact h
          · rw [List.getElem?_eq_none h] at hpa; cases hpa
        have hga : T[(toksR pre).length] = (37) := by rw [List.getElem?_eq_getElem hlta] at hpa; exact Option.some.inj hpa
        have DEa := Lib.hid (fun W (hW : Below w1.heap.size w1 W) => dec_at T ((toksR pre).length) W (tab_below HT.out hW) HAB.out hlta)
        rw [hga] at DEa
        have hsla := str_drop T ((toksR pre).length) (Nat.le_of_lt hlta)
        have hola := off_lt T ((toksR pre).length) hlta
        have hosa := off_succ T ((toksR pre).length) hlta
        rw [hga] at hosa
        have hba := off_le T ((toksR pre).length + 1) hlta
        have HOSa := Lib.hid hosa
        have hova : ((off T ((toksR pre).length) : Nat) : Int) + (((enc (37)).length : Nat) : Int) = ((off T ((toksR pre).length + 1) : Nat) : Int) := by rw [hosa]; omega
        have hbba : ((off T ((toksR pre).length + 1) : Nat) : Int) ≤ 400000 := by omega
        clear hpa hga hosa
        clear hOKt hTS
        have he37 : (enc 37).length = 1 := by rw [enc_ab.2.2.2.1]; rfl
        rw [he37] at DEa hova
        clear he37
        have hova : ((off T (toksR pre).length : Nat) : Int) + 1 = ((off T ((toksR pre).length + 1) : Nat) : Int) := hova
        have HK2 : Hid ((toksR pre).length + 1 = (toksR (pre ++ [.pc])).length) := Lib.hid (by rw [toksR_snoc, List.length_append]; rfl)
        go_wp2_with (first
          | (go_at_call 65; (with_reducible refine (DEa.out _ HB.out).mono ?_); rintro e w2 ⟨rfl, hb2⟩; have HB2 := Lib.hid (HB.out.trans (hb2.mono hbs)); have HO2 := Lib.hid (own_belowL HO.out hb2); have HM2 := Lib.hid ((hb2.block _ (lt_blk HM.out)).trans HM.out); have hB2 := Nat.le_trans hB0 hb2.size; clear hb2 s0 s1 s2 t0; obtain ⟨s0, s1, s2, t0⟩ := mt_cells HM2.out)
          | (at_builtin; refine app1 (w0 := w2) B0 rfl (.tmp 59) (.tmp 62) 83 110 .nilIface 1 16 rfl Tryd.underlying83 info110 rfl (by omega) (by omega) u9 pre.length _ _ rfl rfl rfl (one1 rfl) HO2.out (Below.refl _ _) hB2 (by omega) ?_; intro v9 w9 hown9 hb9 _ _; obtain ⟨A9, c9, hv9, _⟩ := (Rd.of_own hown9).shape; subst hv9; have HO9 := Lib.hid hown9; have HM9 := Lib.hid ((hb9.block _ hBlt).trans HM2.out); have HB9 := Lib.hid (HB2.out.trans (hb9.mono hwB)); have hB9 := Nat.le_trans hB2 hb9.size; clear s0 s1 s2 t0 hown9 hb9; obtain ⟨s0, s1, s2, t0⟩ := mt_cells HM9.out))
        go_roundg suf'.length
        case measure => omega
        case rel => exact ⟨pre ++ [.pc], suf', .slice A9 (pre.length + 1) c9, by rw [HK2.out], HTS2, Lib.hid rfl, by rw [List.length_append]; exact hpl2, Lib.hid (mt_store HM9.out _), Lib.hid (by rw [HMAP.out, List.length_append]; exact own_grown_lt HO9.out (r := some (w.heap.size + 1)) (fun k hk => by injection hk with hk; omega) (grown_set (Below.refl _ _) _ _ _)), Lib.hid (HB9.out.setCell (p := ⟨w.heap.size + 1, 0, none⟩) (show w1.heap.size ≤ w.heap.size + 1 by omega) _), by simp; exact hB9⟩
end Go.Proofs.YtbcclblocagneaaDoor.Lk

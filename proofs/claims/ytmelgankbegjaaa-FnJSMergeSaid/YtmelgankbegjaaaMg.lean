/- The nodes of the items of an array; the node of an array. Conditions: those written at each lemma. -/
import Derived.Test.YtmelgankbegjaaaMf
set_option linter.unusedVariables false
set_option linter.unusedSimpArgs false
set_option maxRecDepth 100000
set_option maxHeartbeats 8000000
namespace Go.Proofs.Ytmelgankbegjaaa.Js
open Go.RowKit Go.Proofs.Ytmelgankbegjaaa.B

attribute [local go_sem] as67_4 as67_65 as67_9 as67_67
theorem nn_push {B E : Nat} {W W' : World} {v v' u : Value} {ts : List J} {t : J} {hs : List Value} (h : NNs (fun x => B ≤ x ∧ some x ≠ v.ownBlock) W ts hs) (hu : NN (fun x => E ≤ x) W t u) (hE : ∀ k, v.ownBlock = some k → k < E) (hBE : B ≤ E)
    (hg : W.grownBy W' v.ownBlock) (hat : v'.ownBlock = v.ownBlock ∨ ∃ k, v'.ownBlock = some k ∧ W.heap.size ≤ k) : NNs (fun x => B ≤ x ∧ some x ≠ v'.ownBlock) W' (ts ++ [t]) (hs ++ [u]) := by
  have new : ∀ x, (B ≤ x ∧ some x ≠ v.ownBlock) → x < W.heap.size → (B ≤ x ∧ some x ≠ v'.ownBlock) := fun x hx hl => ⟨hx.1, fun e => by
    rcases hat with ha | ⟨k, hk, hk2⟩
    · exact hx.2 (e.trans ha)
    · rw [hk] at e; injection e with e; omega⟩
  have h1 := ((h.weak (q := fun x => (B ≤ x ∧ some x ≠ v.ownBlock) ∧ x < W.heap.size) (fun x hl hx => ⟨hx, hl⟩)).grown hg (fun x hx => hx.1.2)).weak (fun x _ hx => new x hx.1 hx.2)
  have h2 := ((hu.weak (q := fun x => (B ≤ x ∧ some x ≠ v.ownBlock) ∧ x < W.heap.size) (fun x hl hx => ⟨⟨Nat.le_trans hBE hx, fun e => by have := hE x e.symm; have hx : E ≤ x := hx; omega⟩, hl⟩)).grown hg (fun x hx => hx.1.2)).weak (fun x _ hx => new x hx.1 hx.2)
  exact h1.push h2
/-- Trees that are the same, one by one. -/
def Eqs (ds ts : List J) : Prop := ∀ j (h : j < ds.length) (h2 : j < ts.length), eqJ ds[j] ts[j] = true ∧ Wg ds[j]
theorem Eqs.push {ds ts : List J} {d : J} (h : Eqs ds ts) (hl : ds.length < ts.length) (he : eqJ d ts[ds.length] = true) (hg : Wg d) : Eqs (ds ++ [d]) ts := by
  intro j h1 h2
  by_cases hj : j < ds.length
  · rw [List.getElem_append_left hj]
    exact h j hj h2
  · have e : j = ds.length := by simp at h1; omega
    subst e
    rw [show (ds ++ [d])[ds.length]'h1 = d by simp]
    exact ⟨he, hg⟩
theorem turned_any (ts : List J) (A : Option Addr) (c : Nat) (vs : List Value) (w : World) (hr : Rd w 1 (.slice A ts.length c) ts.length vs) (hl : vs.length = ts.length) (h8 : ts.length ≤ 8)
    (IH0 : ∀ i (hi : i < ts.length) (hv : i < vs.length) (W : World), Below w.heap.size w W → Calls Try.prog 23 #[vs[i]] W fun e w' => ∃ v d, e = .returned v ∧ NN (fun x => W.heap.size ≤ x) w' d v ∧ eqJ d ts[i] = true ∧ Wg d ∧ Below W.heap.size W w') :
    Calls Try.prog 32 #[.slice A ts.length c, .func (.func 23) #[] #[]] w fun e w' => ∃ A2 c2 ds hs, e = .returned (.slice A2 ts.length c2) ∧ ds.length = ts.length ∧ w'.ownsRow w.heap.size 32 5 (.slice A2 ts.length c2) ts.length (flat hs) ∧
      NNs (fun x => w.heap.size ≤ x ∧ some x ≠ (Value.slice A2 ts.length c2).ownBlock) w' ds hs ∧ Eqs ds ts ∧ Below w.heap.size w w' := by
  have HR := Lib.hid hr
  have HL := Lib.hid hl
  have IH0 := Lib.hid IH0
  clear hr hl
  go_enter Try.func32, Try.ntmps32
  go_upto_region 3 with fail
  go_loopw [5, 7, 10] (fun v5 v7 v10 wr => ∃ (i : Nat) (A5 : Option Addr) (c5 : Nat) (ds : List J) (hs : List Value), v10 = .int .i64 (i : Int) ∧ i ≤ ts.length ∧ v5 = .slice A5 i c5 ∧ Hid (ds.length = i) ∧ Hid (wr.ownsRow w.heap.size 32 5 (.slice A5 i c5) i (flat hs)) ∧ Hid (NNs (fun x => w.heap.size ≤ x ∧ some x ≠ (Value.slice A5 i c5).ownBlock) wr ds hs) ∧ Hid (Eqs ds ts) ∧ Hid (Below w.heap.size w wr)) (fun _ _ v10 _ => (ts.length - (intOf v10)).toNat)
  case atStart => exact ⟨0, none, 0, [], [], rfl, Nat.zero_le _, rfl, Lib.hid rfl, Lib.hid (World.ownsRow_nil _ _ _ _), Lib.hid rfl, Lib.hid (fun j h => absurd h (by simp)), Lib.hid (Below.refl _ _)⟩
  case round =>
    obtain ⟨i, A5, c5, ds, hs, rfl, hi, rfl, HD, HO, HV, HE, HB⟩ := hrel
    by_cases hlt : i < ts.length
    · have hv : i < vs.length := by have := HL.out; omega
      obtain ⟨bi, oi, ci, e1, _, _, hbi, hci⟩ := HR.out.open (by omega)
      injection e1 with ea _ ec
      subst ea ec
      have xc := (HB.out.cell hbi).trans (hci i vs[i] (List.getElem?_eq_getElem hv))
      have IH := Lib.hid (IH0.out i hlt hv wr HB.out)
      have HOL := Lib.hid (fun k hk => (HO.out.lt k hk).2)
      clear hci hbi
      generalize vs[i] = x at *
      have hbs : w.heap.size ≤ wr.heap.size := HB.out.size
      go_wp2_with (first
        | (go_at_call 23; (with_reducible refine IH.out.mono ?_); rintro e w5 ⟨u, d, rfl, hu, he, hg, hb⟩; obtain ⟨z0, z1, z2, z3, z4, ez, hz⟩ := five_nodes hu; subst ez; have HU := Lib.hid hu; have HDE := Lib.hid (And.intro he hg); have HO5 := Lib.hid (own_below HO.out hb); have HV5 := Lib.hid (HV.out.below hb); have HB5 := Lib.hid (HB.out.trans (hb.mono HB.out.size)); have hs5 := hb.size; have HZZ := Lib.hid hz; clear hu hb he hg hz)
        | (at_builtin; (refine app1 (w0 := w5) (W := w5) w.heap.size rfl (.tmp 14) (.tmp 18) 30 32 (.agg #[.int .i64 0, .int .u64 0, .string ⟨#[]⟩, .slice none 0 0, .slice none 0 0]) 5 80 rfl Try.underlying30 info32 rfl (by omega) (by omega) _ _ _ #[z0, z1, z2, z3, z4] rfl rfl rfl (by intro x hx; exact HZZ.out x hx) HO5.out ((Below.refl w5.heap.size w5).mono (by omega)) (by omega) (by omega) ?_; intro v7 w7 hown7 _ hg7 hat7; obtain ⟨A7, c7, rfl, _⟩ := (Rd.of_own hown7).shape; have HV7 := Lib.hid (nn_push HV5.out HU.out HOL.out hbs hg7 hat7); have HB7 := Lib.hid (HB5.out.grown hg7 HB5.out.size (fun k hk => by have := (HO5.out.lt k hk).1; omega)); have HO7 := Lib.hid hown7; clear hown7 hg7 hat7; (try go_frame))))
      go_roundw
      case rel => exact ⟨i + 1, A7, c7, ds ++ [d], hs ++ [.agg #[z0, z1, z2, z3, z4]], by go_num, by omega, rfl, Lib.hid (by have := HD.out; simp [this]), Lib.hid (by
          have h := HO7.out
          rw [show flat (hs ++ [.agg #[z0, z1, z2, z3, z4]]) = flat hs ++ [z0, z1, z2, z3, z4] by simp [flat, Value.cells]]
          exact h), HV7, Lib.hid (by
          have hd := HD.out
          subst hd
          exact HE.out.push hlt HDE.out.1 HDE.out.2), HB7⟩
      case measure => simp [intOf]; omega
    · obtain rfl : i = ts.length := by omega
      go_wp2
      go_ret
      exact ⟨A5, c5, ds, hs, rfl, HD.out, HO.out, HV.out, HE.out, HB.out⟩
theorem arr_openV {p : Nat → Prop} {w : World} {t : J} {u : Value} (h : IV p w t u) (hk : t.k = 4) : ∃ A c vs, u = .iface 67 (.slice A t.is.length c) ∧ Rp p w 1 (.slice A t.is.length c) t.is.length vs ∧ IVs p w t.is vs := by
  obtain ⟨k2, n2, s2, ns2, is2⟩ := t
  have hk2 : k2 = 4 := hk
  subst hk2
  rcases h with ⟨h, _⟩ | ⟨h, _⟩ | ⟨h, _⟩ | ⟨h, _⟩ | ⟨_, h⟩ | ⟨h, _⟩
  · omega
  · omega
  · omega
  · omega
  · exact h
  · omega
theorem node_arr (t : J) (IH0 : ∀ s ∈ t.is, ∀ (p : Nat → Prop) (u : Value) (w : World), Wg s → IV p w s u → Calls Try.prog 23 #[u] w fun e w' => ∃ v d, e = .returned v ∧ NN (fun x => w.heap.size ≤ x) w' d v ∧ eqJ d s = true ∧ Wg d ∧ Below w.heap.size w w')
    (p : Nat → Prop) (u : Value) (w : World) (hg : Wg t) (h : IV p w t u) (hk : t.k = 4) : Calls Try.prog 23 #[u] w fun e w' => ∃ v d, e = .returned v ∧ NN (fun x => w.heap.size ≤ x) w' d v ∧ eqJ d t = true ∧ Wg d ∧ Below w.heap.size w w' := by
  obtain ⟨A, c, vs, rfl, r1, i1⟩ := arr_openV h hk
  obtain ⟨hk8, _, h8, _⟩ := hg.kids
  have HZ := Lib.hid (heap_alloc_new w nz)
  have hal := (Below.refl w.heap.size w).alloc (Nat.le_refl _) nz
  have hsz : (w.alloc nz).heap.size = w.heap.size + 1 := by simp
  have TU := Lib.hid (turned_any t.is A c vs (w.alloc nz) (r1.1.below hal) i1.len h8 (fun i hi hv W hb => IH0 _ (List.getElem_mem hi) p _ W (hk8.get _ (List.getElem_mem hi)) ((i1.get i hi hv).below (hal.trans (hb.mono hal.size)))))
  have HT := Lib.hid (show t.n = 0 ∧ t.s = .empty from by
    obtain ⟨k, n, s, ns, is⟩ := t
    have hk : k = 4 := hk
    rcases hg with ⟨e, a, b, _⟩ | ⟨e, _⟩ | ⟨e, _⟩ | ⟨e, _⟩ | ⟨e, a, b, _⟩ | ⟨e, a, b, _⟩ <;> first | omega | exact ⟨a, b⟩)
  have HK := Lib.hid hk
  have HAL := Lib.hid hal
  rw [hsz] at TU
  clear IH0 h hg r1 i1 hk8 hal hk
  go_enter Try.func23, Try.ntmps23
  go_upto_region 15 with fail
  generalize w.alloc nz = w1 at *
  go_wp2_with (go_at_call 32; (with_reducible refine TU.out.mono ?_); rintro e w2 ⟨A2, c2, ds, hs, rfl, hl, ho, hn, he, hb⟩; have HL := Lib.hid hl; have HO := Lib.hid ho; have HN := Lib.hid hn; have HE := Lib.hid he; have hq := (hb.block _ (by omega)).trans HZ.out; obtain ⟨s0, s1, s2, s3, s4⟩ := Rv.cells5 hq; obtain ⟨z0, z1, z2, z3, z4⟩ := Rv.frozen5 hq; have HQ := Lib.hid hq; have HB2 := Lib.hid (HAL.out.trans (hb.mono (by omega))); clear hl ho hn he hb hq)
  have sb : ∀ (V : World) (j : Nat) (u : Value), Below w.heap.size w V → Below w.heap.size w (V.setCell ⟨w.heap.size, j, none⟩ u) := fun V j u h => h.setCell (Nat.le_refl _) u
  have HB5 := Lib.hid (sb _ 4 (.slice A2 t.is.length c2) (sb _ 3 (.slice none 0 0) (sb _ 2 (.string ⟨#[]⟩) (sb _ 1 (.int .u64 0) (sb _ 0 (.int .i64 4) HB2.out)))))
  have gs := fun (W : World) j u => grown_set (Below.refl _ W) w.heap.size j u
  have HNN := Lib.hid (show NN (fun x => w.heap.size + 1 ≤ x) w2 (.mk 4 0 .empty [] ds) (.agg #[.int .i64 4, .int .u64 (nb 4 0), .string .empty, .slice none 0 0, .slice A2 ds.length c2]) from by
    rw [← HL.out] at HO HN
    exact ⟨none, 0, A2, c2, hs, rfl, Rp.nil _ _ _, (Rp.own HO.out).weak (fun x _ hx => hx.1), HN.out.weak (fun x _ hx => hx.1)⟩)
  have HN5 := Lib.hid ((HNN.out.grown (grown_then (grown_then (grown_then (grown_then (gs w2 0 (.int .i64 4)) (gs _ 1 (.int .u64 0))) (gs _ 2 (.string ⟨#[]⟩))) (gs _ 3 (.slice none 0 0))) (gs _ 4 (.slice A2 t.is.length c2))) (fun x hx e => by injection e with e; omega)).weak (q := fun x => w.heap.size ≤ x) (fun x _ hx => by omega))
  obtain ⟨q0, q1, q2, q3, q4⟩ := Rv.cells5 (Rv.sets5 HQ.out (.int .i64 4) (.int .u64 0) (.string ⟨#[]⟩) (.slice none 0 0) (.slice A2 t.is.length c2))
  clear s0 s1 s2 s3 s4 z0 z1 z2 z3 z4 gs sb
  rw [HL.out] at HN5
  refine bodyPost_ret (v := .agg #[.int .i64 4, .int .u64 0, .string ⟨#[]⟩, .slice none 0 0, .slice A2 t.is.length c2]) ?_ rfl ⟨_, .mk 4 0 .empty [] ds, rfl, HN5.out, ?_, ?_, HB5.out⟩
  · simp only [results, show Try.f23.results = #[.cell 2 32] by kernel_rfl]
    go_simp
  · refine (eqJ_iff (.mk 4 0 .empty [] ds) t).2 ⟨HK.out.symm, HT.out.1.symm, HT.out.2.symm, HL.out, fun i hi => ?_⟩
    have hi : i < ds.length := hi
    rw [it_arr (a := .mk 4 0 .empty [] ds) (show (4 : Int) ≠ 5 by decide) i hi (by have := HL.out; omega)]
    exact (HE.out i hi (by have := HL.out; omega)).1
  · refine .inr (.inr (.inr (.inr (.inl ⟨rfl, rfl, rfl, rfl, by have := HL.out; omega, Wgs.of fun d hd => ?_⟩))))
    obtain ⟨i, hi, rfl⟩ := List.getElem_of_mem hd
    exact (HE.out i hi (by have := HL.out; omega)).2
end Go.Proofs.Ytmelgankbegjaaa.Js

/- Part g of the chain. Conditions: those written at each lemma. -/
import Derived.Test.YtmelgankbegjaaaGreatDoorGf
import Derived.Maps.Own
import Derived.StringKeys
import Derived.Carry
import Derived.Test.YtmelgankbegjaaaGreatDoorGc
import Derived.Maps.Views
set_option linter.unusedVariables false
set_option linter.unusedSimpArgs false
set_option maxRecDepth 100000
set_option maxHeartbeats 8000000
namespace Go.Proofs.YtmelgankbegjaaaGreatDoor.Js
open Go.RowKit Go.Proofs.YtmelgankbegjaaaGreatDoor.B

/-- An element of a map, read as it stands. -/
def RH (v : Value) : Option (DataW Value × List MemPlace) := some (.held v, [])
/-- The map of names and values. -/
def dat (ns : List ByteArray) (vs : List Value) : DataW Value := (ns.zip vs).foldl (fun D p => D.put (.string p.1.data.toList) (.held p.2)) (.map [])
theorem dat_push {ns : List ByteArray} {vs : List Value} (h : ns.length = vs.length) (x : ByteArray) (v : Value) : dat (ns ++ [x]) (vs ++ [v]) = (dat ns vs).put (.string x.data.toList) (.held v) := by
  unfold dat
  rw [List.zip_append h, List.foldl_append]
  rfl
mutual
/-- The value v reads as a tree's Go value. -/
def IV (p : Nat → Prop) (W : World) : J → Value → Prop
  | .mk k n s ns is, v => (k = 0 ∧ v = .nilIface) ∨ (k = 1 ∧ v = .iface 4 (.bool (n == 1))) ∨ (k = 2 ∧ v = .iface 72 (.float .f64 (jw n))) ∨ (k = 3 ∧ v = .iface 9 (.string s)) ∨
      (k = 4 ∧ ∃ A c vs, v = .iface 74 (.slice A is.length c) ∧ Rp p W 1 (.slice A is.length c) is.length vs ∧ IVs p W is vs) ∨
      (k = 5 ∧ ∃ b vs, v = .iface 75 (.map (some b)) ∧ (p b ∧ W.ownsMap Tryz.prog 9 RH b ns.length (dat ns vs)) ∧ IVs p W is vs)
def IVs (p : Nat → Prop) (W : World) : List J → List Value → Prop
  | [], vs => vs = []
  | t :: r, vs => ∃ v vs', vs = v :: vs' ∧ IV p W t v ∧ IVs p W r vs'
end
mutual
theorem IV.imp {p q : Nat → Prop} {W W' : World} (H : ∀ size v n cs, Rp p W size v n cs → Rp q W' size v n cs) (H2 : ∀ b n D, p b ∧ W.ownsMap Tryz.prog 9 RH b n D → q b ∧ W'.ownsMap Tryz.prog 9 RH b n D) : ∀ (t : J) (v : Value), IV p W t v → IV q W' t v
  | .mk k n s ns is, v, h => by
    rcases h with h | h | h | h | ⟨e, A, c, vs, e2, h1, h2⟩ | ⟨e, b, vs, e2, h1, h2⟩
    · exact .inl h
    · exact .inr (.inl h)
    · exact .inr (.inr (.inl h))
    · exact .inr (.inr (.inr (.inl h)))
    · exact .inr (.inr (.inr (.inr (.inl ⟨e, A, c, vs, e2, H _ _ _ _ h1, IVs.imp H H2 is vs h2⟩))))
    · exact .inr (.inr (.inr (.inr (.inr ⟨e, b, vs, e2, H2 _ _ _ h1, IVs.imp H H2 is vs h2⟩))))
theorem IVs.imp {p q : Nat → Prop} {W W' : World} (H : ∀ size v n cs, Rp p W size v n cs → Rp q W' size v n cs) (H2 : ∀ b n D, p b ∧ W.ownsMap Tryz.prog 9 RH b n D → q b ∧ W'.ownsMap Tryz.prog 9 RH b n D) : ∀ (ts : List J) (vs : List Value), IVs p W ts vs → IVs q W' ts vs
  | [], vs, h => h
  | t :: r, vs, h => by
    obtain ⟨x, vs', e, h1, h2⟩ := h
    exact ⟨x, vs', e, IV.imp H H2 t x h1, IVs.imp H H2 r vs' h2⟩
end
section
variable {p q : Nat → Prop} {W W' : World} {t : J} {v : Value} {ts : List J} {vs : List Value}
theorem map_below {b n : Nat} {D : DataW Value} (h : W.ownsMap Tryz.prog 9 RH b n D) (hb : Below W.heap.size W W') : W'.ownsMap Tryz.prog 9 RH b n D := h.kept (grown_of_below hb none) (by simp)
theorem IV.below (h : IV p W t v) (hb : Below W.heap.size W W') : IV p W' t v := IV.imp (fun _ _ _ _ h => h.below hb) (fun b n D h => ⟨h.1, map_below h.2 hb⟩) t v h
theorem IVs.below (h : IVs p W ts vs) (hb : Below W.heap.size W W') : IVs p W' ts vs := IVs.imp (fun _ _ _ _ h => h.below hb) (fun b n D h => ⟨h.1, map_below h.2 hb⟩) ts vs h
theorem IV.weak (h : IV p W t v) (H : ∀ b, b < W.heap.size → p b → q b) : IV q W t v := IV.imp (fun _ _ _ _ h => h.weak H) (fun b n D h => ⟨H b h.2.lt h.1, h.2⟩) t v h
theorem IVs.weak (h : IVs p W ts vs) (H : ∀ b, b < W.heap.size → p b → q b) : IVs q W ts vs := IVs.imp (fun _ _ _ _ h => h.weak H) (fun b n D h => ⟨H b h.2.lt h.1, h.2⟩) ts vs h
theorem IV.grown {row : Option Nat} (h : IV p W t v) (hg : W.grownBy W' row) (H : ∀ b, p b → some b ≠ row) : IV p W' t v := IV.imp (fun _ _ _ _ h => h.grown hg H) (fun b n D h => ⟨h.1, h.2.kept hg (H b h.1)⟩) t v h
theorem IVs.grown {row : Option Nat} (h : IVs p W ts vs) (hg : W.grownBy W' row) (H : ∀ b, p b → some b ≠ row) : IVs p W' ts vs := IVs.imp (fun _ _ _ _ h => h.grown hg H) (fun b n D h => ⟨h.1, h.2.kept hg (H b h.1)⟩) ts vs h
theorem IVs.len : ∀ {ts : List J} {vs : List Value}, IVs p W ts vs → vs.length = ts.length
  | [], vs, h => by rw [show vs = [] from h]; rfl
  | t :: r, vs, h => by
    obtain ⟨x, vs', rfl, _, h2⟩ := h
    simp [IVs.len h2]
theorem IVs.push : ∀ {ts : List J} {vs : List Value}, IVs p W ts vs → IV p W t v → IVs p W (ts ++ [t]) (vs ++ [v])
  | [], vs, h, hx => by
    rw [show vs = [] from h]
    exact ⟨v, [], rfl, hx, rfl⟩
  | t' :: r, vs, h, hx => by
    obtain ⟨y, vs', rfl, h1, h2⟩ := h
    exact ⟨y, vs' ++ [v], rfl, h1, IVs.push h2 hx⟩
end
theorem info20 : (Tryz.prog.info? 20).map (fun i => (i.zero, i.size, i.bytes)) = some (some .nilIface, 1, 16) := by kernel_rfl
theorem f29 (x : Int) (w : World) : (callFunc 29 #[.int .u64 x]).run Tryz.prog w = .ok (.value (.float .f64 x.toNat)) w := by kernel_rfl
theorem law9 : Maps.Keyed Tryz.prog 9 := Maps.string_keyed Tryz.underlying9
theorem own_empty (w : World) : (w.alloc (.cells #[] 20)).ownsRow w.heap.size 20 1 (.slice (some ⟨w.heap.size, 0, none⟩) 0 0) 0 [] :=
  ⟨by simp, .inr ⟨w.heap.size, 0, #[], rfl, Nat.le_refl _, heap_alloc_new w _, Nat.le_refl _, by simp [maxLen], by simp, by simp⟩⟩

theorem iv_push {B E : Nat} {W W' : World} {v v' u : Value} {ts : List J} {t : J} {vs : List Value} (h : IVs (fun x => B ≤ x ∧ some x ≠ v.ownBlock) W ts vs) (hu : IV (fun x => E ≤ x) W t u) (hE : ∀ k, v.ownBlock = some k → k < E) (hBE : B ≤ E)
    (hg : W.grownBy W' v.ownBlock) (hat : v'.ownBlock = v.ownBlock ∨ ∃ k, v'.ownBlock = some k ∧ W.heap.size ≤ k) : IVs (fun x => B ≤ x ∧ some x ≠ v'.ownBlock) W' (ts ++ [t]) (vs ++ [u]) := by
  have new : ∀ x, (B ≤ x ∧ some x ≠ v.ownBlock) → x < W.heap.size → (B ≤ x ∧ some x ≠ v'.ownBlock) := fun x hx hl => ⟨hx.1, fun e => by
    rcases hat with ha | ⟨k, hk, hk2⟩
    · exact hx.2 (e.trans ha)
    · rw [hk] at e; injection e with e; omega⟩
  have h1 := ((h.weak (q := fun x => (B ≤ x ∧ some x ≠ v.ownBlock) ∧ x < W.heap.size) (fun x hl hx => ⟨hx, hl⟩)).grown hg (fun x hx => hx.1.2)).weak (fun x _ hx => new x hx.1 hx.2)
  have h2 := ((hu.weak (q := fun x => (B ≤ x ∧ some x ≠ v.ownBlock) ∧ x < W.heap.size) (fun x hl hx => ⟨⟨Nat.le_trans hBE hx, fun e => by have := hE x e.symm; have hx : E ≤ x := hx; omega⟩, hl⟩)).grown hg (fun x hx => hx.1.2)).weak (fun x _ hx => new x hx.1 hx.2)
  exact h1.push h2
theorem iv_map {B E : Nat} {W W' : World} {u : Value} {ts : List J} {t : J} {vs : List Value} {b : Nat} (h : IVs (fun x => B ≤ x ∧ x ≠ b) W ts vs) (hu : IV (fun x => E ≤ x) W t u) (hE : b < E) (hBE : B ≤ E)
    (hg : W.grownBy W' (some b)) : IVs (fun x => B ≤ x ∧ x ≠ b) W' (ts ++ [t]) (vs ++ [u]) := by
  have h1 := h.grown hg (fun x hx e => by injection e with e; exact hx.2 e)
  have h2 := (hu.weak (q := fun x => B ≤ x ∧ x ≠ b) (fun x hl hx => ⟨Nat.le_trans hBE hx, fun e => by have hx : E ≤ x := hx; omega⟩)).grown hg (fun x hx e => by injection e with e; exact hx.2 e)
  exact h1.push h2
theorem val_step (k0 n0 : Int) (s0 : ByteArray) (ns : List ByteArray) (ts : List J) (IH0 : ∀ t ∈ ts, ∀ (p : Nat → Prop) (v : Value) (w : World), Wf t → NN p w t v → Calls Tryz.prog 20 #[v] w fun e w' => ∃ u, e = .returned u ∧ IV (fun x => w.heap.size ≤ x) w' t u ∧ (u.cells = #[u] ∧ u.oneCell' = true) ∧ Below w.heap.size w w')
    (p : Nat → Prop) (v : Value) (w : World) (hwf : Wf (.mk k0 n0 s0 ns ts)) (hj : NN p w (.mk k0 n0 s0 ns ts) v) : Calls Tryz.prog 20 #[v] w fun e w' => ∃ u, e = .returned u ∧ IV (fun x => w.heap.size ≤ x) w' (.mk k0 n0 s0 ns ts) u ∧ (u.cells = #[u] ∧ u.oneCell' = true) ∧ Below w.heap.size w w' := by
  have IH0 := Lib.hid IH0
  obtain ⟨A, c, A2, c2, hs0, hv0, hN, hI, hH⟩ := hj
  subst hv0
  have HRN0 := Lib.hid hN.1
  have HRI0 := Lib.hid hI.1
  have HH0 := Lib.hid hH
  clear hN hI hH
  have HB0 := Lib.hid ((Below.refl w.heap.size w).alloc (Nat.le_refl _) (.cells #[.int .i64 k0, .int .u64 (nb k0 n0), .string s0, .slice A ns.length c, .slice A2 ts.length c2] 34))
  have hX0 := heap_alloc_new w (.cells #[.int .i64 k0, .int .u64 (nb k0 n0), .string s0, .slice A ns.length c, .slice A2 ts.length c2] 34)
  obtain ⟨y0, y1, y2, y3, y4⟩ := Rv.cells5 hX0
  have HX0 := Lib.hid hX0
  clear hX0
  have hsz : (w.alloc (.cells #[.int .i64 k0, .int .u64 (nb k0 n0), .string s0, .slice A ns.length c, .slice A2 ts.length c2] 34)).heap.size = w.heap.size + 1 := by simp
  rcases hwf with ⟨rfl, rfl, rfl, rfl, rfl⟩ | ⟨rfl, hn, rfl, rfl, rfl⟩ | ⟨rfl, hn1, hn2, rfl, rfl, rfl⟩ | ⟨rfl, rfl, hw, rfl, rfl⟩ | ⟨rfl, rfl, rfl, rfl, hl, hws⟩ | ⟨rfl, rfl, rfl, hl0, hl, hnd, hnm, hws⟩
  · go_enter Tryz.func20, Tryz.ntmps20
    go_wp2
    go_ret
    exact ⟨_, rfl, .inl ⟨rfl, rfl⟩, ⟨rfl, rfl⟩, HB0.out⟩
  · have hnb : nb 1 n0 = n0 := rfl
    rw [hnb] at *
    rcases hn with rfl | rfl
    all_goals
      go_enter Tryz.func20, Tryz.ntmps20
      go_wp2
      go_ret
      exact ⟨_, rfl, .inr (.inl ⟨rfl, rfl⟩), ⟨rfl, rfl⟩, HB0.out⟩
  · have hnb : nb 2 n0 = (jw n0 : Int) := rfl
    rw [hnb] at *
    have hf := f29 (jw n0)
    rw [Int.toNat_natCast] at hf
    go_enter Tryz.func20, Tryz.ntmps20
    go_wp2
    go_ret
    exact ⟨_, rfl, .inr (.inr (.inl ⟨rfl, rfl⟩)), ⟨rfl, rfl⟩, HB0.out⟩
  · go_enter Tryz.func20, Tryz.ntmps20
    go_wp2
    go_ret
    exact ⟨_, rfl, .inr (.inr (.inr (.inl ⟨rfl, rfl⟩))), ⟨rfl, rfl⟩, HB0.out⟩
  · clear HB0 HX0 y0 y1 y2 y3 y4 hsz
    have hsz1 : (w.alloc (.cells #[.int .i64 4, .int .u64 (nb 4 0), .string .empty, .slice A 0 c, .slice A2 ts.length c2] 34)).heap.size = w.heap.size + 1 := by simp
    have HB0 := Lib.hid (((Below.refl w.heap.size w).alloc (Nat.le_refl _) (.cells #[.int .i64 4, .int .u64 (nb 4 0), .string .empty, .slice A 0 c, .slice A2 ts.length c2] 34)).alloc (by simp) (.cells #[] 20))
    have HO0 := Lib.hid (own_empty (w.alloc (.cells #[.int .i64 4, .int .u64 (nb 4 0), .string .empty, .slice A 0 c, .slice A2 ts.length c2] 34)))
    rw [hsz1] at HO0
    obtain ⟨y0, y1, y2, y3, y4⟩ := Rv.cells5 (heap_alloc_new w (.cells #[.int .i64 4, .int .u64 (nb 4 0), .string .empty, .slice A 0 c, .slice A2 ts.length c2] 34))
    have HWS := Lib.hid hws
    go_enter Tryz.func20, Tryz.ntmps20
    go_upto_region 11 with fail
    clear y0 y1 y2 y3 y4
    generalize (w.alloc (.cells #[.int .i64 4, .int .u64 (nb 4 0), .string .empty, .slice A 0 c, .slice A2 ts.length c2] 34)).alloc (.cells #[] 20) = w1 at *
    go_loopw [3, 5, 34] (fun v3 v5 v34 wr => ∃ (i : Nat) (A3 : Option Addr) (c3 : Nat) (vs : List Value), v34 = .int .i64 (i : Int) ∧ i ≤ ts.length ∧ v3 = .slice A3 i c3 ∧ Hid (wr.ownsRow (w.heap.size + 1) 20 1 (.slice A3 i c3) i vs) ∧ Hid (IVs (fun x => w.heap.size + 1 ≤ x ∧ some x ≠ (Value.slice A3 i c3).ownBlock) wr (ts.take i) vs) ∧ Hid (Below w.heap.size w wr)) (fun _ _ v34 _ => (ts.length - (intOf v34)).toNat)
    case atStart => exact ⟨0, _, _, [], rfl, Nat.zero_le _, rfl, HO0, Lib.hid rfl, HB0⟩
    case round =>
      obtain ⟨i, A3, c3, vs, rfl, hi, rfl, HO, HV, HB⟩ := hrel
      clear HO0 HB0
      by_cases hlt : i < ts.length
      · obtain ⟨bi, oi, A1, c1, A3', c3', e2, hbi, x0, x1, x2, x3, x4, hjt⟩ := node_item HRI0.out HH0.out rfl i hlt
        subst e2
        have HTI := Lib.hid (List.take_append_getElem hlt)
        have IH := Lib.hid (fun (W : World) (hb : Below w.heap.size w W) => IH0.out ts[i] (List.getElem_mem hlt) p _ W (hws.get _ (List.getElem_mem hlt)) (hjt.below hb))
        have x0 := (HB.out.cell hbi).trans x0
        have x1 := (HB.out.cell (p := ⟨bi, oi + i * 5 + 1, none⟩) hbi).trans x1
        have x2 := (HB.out.cell (p := ⟨bi, oi + i * 5 + 2, none⟩) hbi).trans x2
        have x3 := (HB.out.cell (p := ⟨bi, oi + i * 5 + 3, none⟩) hbi).trans x3
        have x4 := (HB.out.cell (p := ⟨bi, oi + i * 5 + 4, none⟩) hbi).trans x4
        clear hjt
        generalize ts[i] = ti at *
        generalize ti.k = kk1 at IH x0 x1
        generalize nb kk1 ti.n = nn1 at IH x1
        generalize ti.s = ss1 at IH x2
        generalize ti.ns.length = l1 at IH x3
        generalize ti.is.length = l3 at IH x4
        go_upto_region 13 with fail
        clear x0 x1 x2 x3 x4
        have HBW := Lib.hid (HB.out.alloc HB.out.size (.cells #[.int .i64 kk1, .int .u64 nn1, .string ss1, .slice A1 l1 c1, .slice A3' l3 c3'] 34))
        have HAL := Lib.hid ((Below.refl wr.heap.size wr).alloc (Nat.le_refl _) (.cells #[.int .i64 kk1, .int .u64 nn1, .string ss1, .slice A1 l1 c1, .slice A3' l3 c3'] 34))
        obtain ⟨x0, x1, x2, x3, x4⟩ := Rv.cells5 (heap_alloc_new wr (.cells #[.int .i64 kk1, .int .u64 nn1, .string ss1, .slice A1 l1 c1, .slice A3' l3 c3'] 34))
        have HSZ3 := Lib.hid (show wr.heap.size + 1 = (wr.alloc (.cells #[.int .i64 kk1, .int .u64 nn1, .string ss1, .slice A1 l1 c1, .slice A3' l3 c3'] 34)).heap.size by simp)
        generalize wr.alloc (.cells #[.int .i64 kk1, .int .u64 nn1, .string ss1, .slice A1 l1 c1, .slice A3' l3 c3'] 34) = w3 at *
        have HO3 := Lib.hid (own_below HO.out HAL.out)
        have HV3 := Lib.hid (HV.out.below HAL.out)
        have HOL := Lib.hid (fun k hk => (HO3.out.lt k hk).2)
        have hB3 : w.heap.size + 1 ≤ w3.heap.size := by
          rw [← HSZ3.out]
          have := HB.out.size
          omega
        clear HO HV
        go_wp2_with (first
          | (go_at_call 20; (with_reducible refine (IH.out w3 HBW.out).mono ?_); rintro e w5 ⟨u, rfl, hu, ⟨hu2, hu1⟩, hb⟩; have hu3 := hu2; unfold Value.cells at hu3; have HU := Lib.hid hu; have HO5 := Lib.hid (own_below HO3.out hb); have HV5 := Lib.hid (HV3.out.below hb); have HB5 := Lib.hid (HBW.out.trans (hb.mono HBW.out.size)); have hs5 := hb.size; clear hu hb)
          | (at_builtin; (refine app1 (w0 := w5) (w.heap.size + 1) rfl (.tmp 38) (.tmp 41) 74 20 .nilIface 1 16 rfl Tryz.underlying74 info20 rfl (by omega) (by omega) _ _ _ _ rfl rfl rfl (by intro x hx; rw [List.mem_singleton.1 hx]; exact hu1) HO5.out (Below.refl _ _) (by omega) (by omega) ?_; intro v7 w7 hown7 _ hg7 hat7; obtain ⟨A7, c7, rfl, _⟩ := (Rd.of_own hown7).shape; have HV7 := Lib.hid (iv_push HV5.out HU.out HOL.out hB3 hg7 hat7); have HB7 := Lib.hid (HB5.out.grown hg7 HB5.out.size (fun k hk => by have := (HO5.out.lt k hk).1; omega)); have HO7 := Lib.hid hown7; clear hown7 hg7 hat7)))
        go_roundw
        case rel => exact ⟨i + 1, A7, c7, vs ++ [u], by go_num, by omega, rfl, HO7, Lib.hid (by rw [← HTI.out]; exact HV7.out), HB7⟩
        case measure => simp [intOf]; omega
      · obtain rfl : i = ts.length := by omega
        rw [List.take_length] at HV
        go_wp2
        go_ret
        exact ⟨_, rfl, .inr (.inr (.inr (.inr (.inl ⟨rfl, A3, c3, vs, rfl, (Rp.own HO.out).weak (fun x _ hx => by have := hx.1; omega), HV.out.weak (fun x _ hx => by have := hx.1; omega)⟩)))), ⟨rfl, rfl⟩, HB.out⟩
  · clear HB0 HX0 y0 y1 y2 y3 y4 hsz
    have hsz1 : (w.alloc (.cells #[.int .i64 5, .int .u64 (nb 5 0), .string .empty, .slice A ns.length c, .slice A2 ts.length c2] 34)).heap.size = w.heap.size + 1 := by simp
    have HB0 := Lib.hid (((Below.refl w.heap.size w).alloc (Nat.le_refl _) (.cells #[.int .i64 5, .int .u64 (nb 5 0), .string .empty, .slice A ns.length c, .slice A2 ts.length c2] 34)).alloc (by simp) (.map #[] 0))
    have HM0 := Lib.hid (World.ownsMap_made (H := Value) (w.alloc (.cells #[.int .i64 5, .int .u64 (nb 5 0), .string .empty, .slice A ns.length c, .slice A2 ts.length c2] 34)) Tryz.prog 9 RH)
    rw [hsz1] at HM0
    have HX0 := Lib.hid (show ((w.alloc (.cells #[.int .i64 5, .int .u64 (nb 5 0), .string .empty, .slice A ns.length c, .slice A2 ts.length c2] 34)).alloc (.map #[] 0)).heap[w.heap.size]? = some (.cells #[.int .i64 5, .int .u64 (nb 5 0), .string .empty, .slice A ns.length c, .slice A2 ts.length c2] 34 (0, 0)) from by
      have h1 := heap_alloc_new w (.cells #[.int .i64 5, .int .u64 (nb 5 0), .string .empty, .slice A ns.length c, .slice A2 ts.length c2] 34)
      have hb : Below (w.alloc (.cells #[.int .i64 5, .int .u64 (nb 5 0), .string .empty, .slice A ns.length c, .slice A2 ts.length c2] 34)).heap.size (w.alloc (.cells #[.int .i64 5, .int .u64 (nb 5 0), .string .empty, .slice A ns.length c, .slice A2 ts.length c2] 34)) ((w.alloc (.cells #[.int .i64 5, .int .u64 (nb 5 0), .string .empty, .slice A ns.length c, .slice A2 ts.length c2] 34)).alloc (.map #[] 0)) := (Below.refl _ _).alloc (Nat.le_refl _) _
      exact (hb.block _ (by simp)).trans h1)
    have hmm := @run_makeMap Tryz.prog
    have HL0 := Lib.hid hl0
    have HNM := Lib.hid hnm
    clear hl0 hnm hnd
    obtain ⟨y0, y1, y2, y3, y4⟩ := Rv.cells5 HX0.out
    obtain ⟨y0', y1', y2', y3', y4'⟩ := Rv.cells5 (heap_alloc_new w (.cells #[.int .i64 5, .int .u64 (nb 5 0), .string .empty, .slice A ns.length c, .slice A2 ts.length c2] 34))
    have HWS := Lib.hid hws
    go_enter Tryz.func20, Tryz.ntmps20
    go_upto_region 19 with fail
    clear y0 y1 y2 y3 y4 y0' y1' y2' y3' y4' hmm
    generalize (w.alloc (.cells #[.int .i64 5, .int .u64 (nb 5 0), .string .empty, .slice A ns.length c, .slice A2 ts.length c2] 34)).alloc (.map #[] 0) = w1 at *
    go_loopw [7, 8, 52] (fun v7 v8 v52 wr => ∃ (i : Nat) (vs : List Value), v52 = .int .i64 (i : Int) ∧ i ≤ ts.length ∧ Hid (wr.ownsMap Tryz.prog 9 RH (w.heap.size + 1) i (dat (ns.take i) vs)) ∧ Hid (IVs (fun x => w.heap.size + 1 ≤ x ∧ x ≠ w.heap.size + 1) wr (ts.take i) vs) ∧ Hid (Below w.heap.size w wr) ∧ Hid (wr.heap[w.heap.size]? = some (.cells #[.int .i64 5, .int .u64 (nb 5 0), .string .empty, .slice A ns.length c, .slice A2 ts.length c2] 34 (0, 0)))) (fun _ _ v52 _ => (ts.length - (intOf v52)).toNat)
    case atStart => exact ⟨0, [], rfl, Nat.zero_le _, HM0, Lib.hid rfl, HB0, HX0⟩
    case round =>
      obtain ⟨i, vs, rfl, hi, HM, HV, HB, HX⟩ := hrel
      clear HM0 HB0 HX0
      by_cases hlt : i < ts.length
      · have hl0 := HL0.out
        have hx0 : (strs ns)[i]? = some (.string (ns.getD i .empty)) := by
          rw [List.getElem?_map, List.getElem?_eq_getElem (by omega : i < ns.length), List.getD_eq_getElem?_getD, List.getElem?_eq_getElem (by omega : i < ns.length)]
          rfl
        obtain ⟨bn, on, cn, hv, _, _, hbn, hcn⟩ := HRN0.out.open (by omega)
        injection hv with e1 _ e3
        subst e1 e3
        have xn := (HB.out.cell (p := ⟨bn, on + i, none⟩) hbn).trans (hcn i _ hx0)
        have HTN := Lib.hid (show ns.take i ++ [ns.getD i .empty] = ns.take (i + 1) by
          rw [List.getD_eq_getElem?_getD, List.getElem?_eq_getElem (by omega : i < ns.length)]
          exact List.take_append_getElem (by omega))
        have hwd := HNM.out (ns.getD i .empty) (by
          rw [List.getD_eq_getElem?_getD, List.getElem?_eq_getElem (by omega : i < ns.length)]
          exact List.getElem_mem _)
        have hkey := WideMaps.keyOf_string_mk (P := Tryz.prog) Tryz.underlying9 (s := ns.getD i .empty) (by have := hwd.1.1; unfold maxLen; omega)
        clear hx0 hcn hwd
        have hin : (i : Int) < ns.length := by omega
        clear hl0
        generalize ns.getD i .empty = nm at *
        have HVL := Lib.hid HV.out.len
        obtain ⟨bi, oi, A1, c1, A3', c3', e2, hbi, x0, x1, x2, x3, x4, hjt⟩ := node_item HRI0.out HH0.out rfl i hlt
        subst e2
        have HTI := Lib.hid (List.take_append_getElem hlt)
        have IH := Lib.hid (fun (W : World) (hb : Below w.heap.size w W) => IH0.out ts[i] (List.getElem_mem hlt) p _ W (hws.get _ (List.getElem_mem hlt)) (hjt.below hb))
        have x0 := (HB.out.cell hbi).trans x0
        have x1 := (HB.out.cell (p := ⟨bi, oi + i * 5 + 1, none⟩) hbi).trans x1
        have x2 := (HB.out.cell (p := ⟨bi, oi + i * 5 + 2, none⟩) hbi).trans x2
        have x3 := (HB.out.cell (p := ⟨bi, oi + i * 5 + 3, none⟩) hbi).trans x3
        have x4 := (HB.out.cell (p := ⟨bi, oi + i * 5 + 4, none⟩) hbi).trans x4
        clear hjt
        generalize ts[i] = ti at *
        generalize ti.k = kk1 at IH x0 x1
        generalize nb kk1 ti.n = nn1 at IH x1
        generalize ti.s = ss1 at IH x2
        generalize ti.ns.length = l1 at IH x3
        generalize ti.is.length = l3 at IH x4
        obtain ⟨y0, y1, y2, y3, y4⟩ := Rv.cells5 HX.out
        have hmw := Rv.lt_of_blk HX.out
        have hml := HM.out.lt
        go_wp2_with (first
          | (go_at_call 20; (with_reducible refine (IH.out wr HB.out).mono ?_); rintro e w5 ⟨u, rfl, hu, hu1, hb⟩; have HU := Lib.hid hu; have HM5 := Lib.hid (map_below HM.out hb); have HV5 := Lib.hid (HV.out.below hb); have HB5 := Lib.hid (HB.out.trans (hb.mono HB.out.size)); have HX5 := Lib.hid ((hb.block _ hmw).trans HX.out); clear hu hb)
          | (at_mapUpdate; refine wpList_mapUpdate_own _ rfl _ _ _ 75 rfl 9 20 law9 Tryz.underlying75 RH (w.heap.size + 1) i _ rfl HM5.out (by unfold maxLen; omega) _ _ _ rfl rfl hkey _ [] rfl ?_; intro w7 hm7 hg7; have HM7 := Lib.hid hm7; have HV7 := Lib.hid (iv_map HV5.out HU.out hml (by omega) hg7); have HB7 := Lib.hid (HB5.out.grown hg7 HB5.out.size (fun k hk => by injection hk with hk; omega)); have HX7 := Lib.hid (blk_grown HX5.out hg7 (fun e => by injection e with e; omega)); clear hm7 hg7))
        go_roundw
        case rel => exact ⟨i + 1, vs ++ [u], by go_num, by omega, Lib.hid (by
          rw [← HTN.out, dat_push (by rw [HVL.out, List.length_take, List.length_take, HL0.out])]
          exact HM7.out), Lib.hid (by rw [← HTI.out]; exact HV7.out), HB7, HX7⟩
        case measure => simp [intOf]; omega
      · obtain rfl : i = ts.length := by omega
        rw [List.take_length] at HV
        rw [← HL0.out, List.take_length] at HM
        have hin : ¬ ((ts.length : Int) < ns.length) := by have := HL0.out; omega
        go_wp2
        go_ret
        exact ⟨_, rfl, .inr (.inr (.inr (.inr (.inr ⟨rfl, w.heap.size + 1, vs, rfl, ⟨Nat.le_succ _, HM.out⟩, HV.out.weak (fun x _ hx => by have := hx.1; omega)⟩)))), ⟨rfl, rfl⟩, HB.out⟩
theorem val_any (t : J) (p : Nat → Prop) (v : Value) (w : World) (hwf : Wf t) (hj : NN p w t v) : Calls Tryz.prog 20 #[v] w fun e w' => ∃ u, e = .returned u ∧ IV (fun x => w.heap.size ≤ x) w' t u ∧ (u.cells = #[u] ∧ u.oneCell' = true) ∧ Below w.heap.size w w' :=
  match t, hwf, hj with
  | .mk k0 n0 s0 ns ts, hwf, hj => val_step k0 n0 s0 ns ts (fun t ht p v w h1 h2 => val_any t p v w h1 h2) p v w hwf hj
termination_by SizeOf.sizeOf t
decreasing_by
  have := List.sizeOf_lt_of_mem ht
  simp only [J.mk.sizeOf_spec]
  omega
end Go.Proofs.YtmelgankbegjaaaGreatDoor.Js

set_option linter.unusedVariables false
set_option linter.unusedSimpArgs false
set_option maxRecDepth 100000
set_option maxHeartbeats 4000000
namespace Go.Proofs.YtmelgankbegjaaaGreatDoor.Js
open Go.RowKit Go.Proofs.YtmelgankbegjaaaGreatDoor.B

/-- Where the partner of item i stands. -/
def ps (k : Int) (ns : List ByteArray) (b : J) (i : Nat) : Int := if k = 5 then idx (ns.getD i .empty) b.ns 0 else i
/-- Equal as values: the members of objects in whatever order. -/
def eqJ (a b : J) : Bool :=
  match a with
  | .mk k n s ns is => (k == b.k) && (n == b.n) && decide (s = b.s) && (is.length == b.is.length) && (List.range is.length).all fun i => if h : i < is.length then decide (0 ≤ ps k ns b i) && eqJ is[i] (b.is.getD (ps k ns b i).toNat b) else true
termination_by SizeOf.sizeOf a
decreasing_by
  have := List.sizeOf_lt_of_mem (List.getElem_mem h)
  simp only [J.mk.sizeOf_spec]
  omega
/-- Item i finds its equal. -/
def it (a b : J) (i : Nat) : Bool := decide (0 ≤ ps a.k a.ns b i) && eqJ (a.is.getD i a) (b.is.getD (ps a.k a.ns b i).toNat b)
theorem eqJ_eq (a b : J) : eqJ a b = ((a.k == b.k) && (a.n == b.n) && decide (a.s = b.s) && (a.is.length == b.is.length) && (List.range a.is.length).all fun i => it a b i) := by
  obtain ⟨k, n, s, ns, is⟩ := a
  rw [eqJ]
  congr 1
  rw [Bool.eq_iff_iff, List.all_eq_true, List.all_eq_true]
  refine forall_congr' fun i => forall_congr' fun hi => ?_
  have hi := List.mem_range.1 hi
  rw [dif_pos hi]
  unfold it
  rw [List.getD_eq_getElem?_getD (l := is), List.getElem?_eq_getElem hi]
  rfl
theorem eqJ_iff (a b : J) : eqJ a b = true ↔ a.k = b.k ∧ a.n = b.n ∧ a.s = b.s ∧ a.is.length = b.is.length ∧ ∀ i, i < a.is.length → it a b i = true := by
  rw [eqJ_eq]
  simp only [Bool.and_eq_true, beq_iff_eq, decide_eq_true_iff, List.all_eq_true, List.mem_range, and_assoc]
theorem it_iff (a b : J) (i : Nat) (hi : i < a.is.length) : it a b i = true ↔ 0 ≤ ps a.k a.ns b i ∧ eqJ a.is[i] (b.is.getD (ps a.k a.ns b i).toNat b) = true := by
  unfold it
  rw [List.getD_eq_getElem?_getD (l := a.is), List.getElem?_eq_getElem hi, Bool.and_eq_true, decide_eq_true_iff]
  rfl
theorem Wf.kids {t : J} (h : Wf t) : Wfs t.is ∧ (t.k = 5 → t.ns.length = t.is.length ∧ t.ns.Nodup) := by
  obtain ⟨k, n, s, ns, is⟩ := t
  show Wfs is ∧ (k = 5 → ns.length = is.length ∧ ns.Nodup)
  rcases h with ⟨rfl, _, _, _, e2⟩ | ⟨rfl, _, _, _, e2⟩ | ⟨rfl, _, _, _, _, e2⟩ | ⟨rfl, _, _, _, e2⟩ | ⟨rfl, _, _, _, _, h⟩ | ⟨rfl, _, _, h1, _, h2, _, h⟩
  · rw [e2]; exact ⟨trivial, fun h => by cases h⟩
  · rw [e2]; exact ⟨trivial, fun h => by cases h⟩
  · rw [e2]; exact ⟨trivial, fun h => by cases h⟩
  · rw [e2]; exact ⟨trivial, fun h => by cases h⟩
  · exact ⟨h, fun h => by cases h⟩
  · exact ⟨h, fun _ => ⟨h1, h2⟩⟩
theorem nd_inj {l : List ByteArray} (hd : l.Nodup) {i j : Nat} (hi : i < l.length) (hj : j < l.length) (e : l[i] = l[j]) : i = j := by
  rcases Nat.lt_trichotomy i j with h | h | h
  · exact absurd e (List.pairwise_iff_getElem.1 hd i j hi hj h)
  · exact h
  · exact absurd e.symm (List.pairwise_iff_getElem.1 hd j i hj hi h)
theorem sup_of_sub : ∀ (l m : List ByteArray), l.Nodup → (∀ x ∈ l, x ∈ m) → m.length ≤ l.length → ∀ x ∈ m, x ∈ l
  | [], m, _, _, h, x, hx => by
    have : m = [] := List.eq_nil_of_length_eq_zero (by simpa using h)
    rw [this] at hx
    cases hx
  | y :: r, m, hd, hs, h, x, hx => by
    have hy := hs y (.head _)
    have hd2 := List.nodup_cons.1 hd
    by_cases e : x = y
    · rw [e]; exact .head _
    · refine .tail _ (sup_of_sub r (m.filter fun z => decide (z ≠ y)) hd2.2 (fun z hz => ?_) ?_ x (List.mem_filter.2 ⟨hx, decide_eq_true e⟩))
      · exact List.mem_filter.2 ⟨hs z (.tail _ hz), decide_eq_true (fun e2 => hd2.1 (by rw [← e2]; exact hz))⟩
      · have := (List.length_filter_lt_length_iff_exists (p := fun z => decide (z ≠ y)) (l := m)).2 ⟨y, hy, (by simp : ¬ (decide (y ≠ y) = true))⟩
        simp only [List.length_cons] at h
        omega
theorem size_item (a : J) (i : Nat) (hi : i < a.is.length) : SizeOf.sizeOf a.is[i] < SizeOf.sizeOf a := by
  obtain ⟨k, n, s, ns, is⟩ := a
  have h : SizeOf.sizeOf (is[i]'hi) < SizeOf.sizeOf is := List.sizeOf_lt_of_mem (List.getElem_mem hi)
  show SizeOf.sizeOf (is[i]'hi) < _
  simp only [J.mk.sizeOf_spec]
  omega
theorem idx_at {l : List ByteArray} (hd : l.Nodup) {i : Nat} (hi : i < l.length) : idx l[i] l 0 = (i : Int) := by
  rcases idx_range (x := l[i]) (l := l) (i := 0) (Int.le_refl 0) with ⟨_, h⟩ | ⟨k, h1, h2, h3⟩
  · exact absurd (List.getElem_mem hi) h
  · obtain ⟨hk, h2⟩ := List.getElem?_eq_some_iff.1 h2
    have : k = i := nd_inj hd hk hi h2
    rw [h1, this]; omega
theorem idx_pos {x : ByteArray} {l : List ByteArray} (h : 0 ≤ idx x l 0) : ∃ k, idx x l 0 = ((k : Nat) : Int) ∧ ∃ hk : k < l.length, l[k] = x := by
  rcases idx_range (x := x) (l := l) (i := 0) (Int.le_refl 0) with ⟨h1, _⟩ | ⟨k, h1, h2, _⟩
  · omega
  · obtain ⟨hk, h2⟩ := List.getElem?_eq_some_iff.1 h2
    exact ⟨k, by rw [h1]; omega, hk, h2⟩
theorem getD_at {l : List J} {i : Nat} (h : i < l.length) (d : J) : l.getD i d = l[i] := by
  rw [List.getD_eq_getElem?_getD, List.getElem?_eq_getElem h]
  rfl
theorem eqJ_sym : ∀ (N : Nat) (a b : J), SizeOf.sizeOf a ≤ N → Wf a → Wf b → eqJ a b = true → eqJ b a = true := by
  intro N
  induction N with
  | zero => intro a b h; obtain ⟨k, n, s, ns, is⟩ := a; simp only [J.mk.sizeOf_spec] at h; omega
  | succ N ih =>
    intro a b hN ha hb h
    obtain ⟨h1, h2, h3, h4, h5⟩ := (eqJ_iff a b).1 h
    refine (eqJ_iff b a).2 ⟨h1.symm, h2.symm, h3.symm, h4.symm, fun j hj => ?_⟩
    have hsz : ∀ i (hi : i < a.is.length), SizeOf.sizeOf a.is[i] ≤ N := fun i hi => by
      have := size_item a i hi
      omega
    rw [it_iff b a j hj]
    by_cases hk : a.k = 5
    · have hk2 : b.k = 5 := by omega
      obtain ⟨hwa, ha5⟩ := ha.kids
      obtain ⟨hwb, hb5⟩ := hb.kids
      obtain ⟨la, da⟩ := ha5 hk
      obtain ⟨lb, db⟩ := hb5 hk2
      have hpa : ∀ i (hi : i < a.is.length), ∃ j, ∃ hj : j < b.ns.length, b.ns[j] = a.ns[i]'(by omega) ∧ eqJ a.is[i] (b.is[j]'(by omega)) = true := fun i hi => by
        obtain ⟨p1, p2⟩ := (it_iff a b i hi).1 (h5 i hi)
        unfold ps at p1 p2
        rw [if_pos hk] at p1 p2
        have e : a.ns.getD i .empty = a.ns[i]'(by omega) := by rw [List.getD_eq_getElem?_getD, List.getElem?_eq_getElem (by omega : i < a.ns.length)]; rfl
        rw [e] at p1 p2
        obtain ⟨j, e1, hj, e2⟩ := idx_pos p1
        rw [e1, Int.toNat_natCast, getD_at (by omega)] at p2
        exact ⟨j, hj, e2, p2⟩
      have hsub : ∀ x ∈ a.ns, x ∈ b.ns := fun x hx => by
        obtain ⟨i, hi, rfl⟩ := List.getElem_of_mem hx
        obtain ⟨j, hj, e, _⟩ := hpa i (by omega)
        rw [← e]
        exact List.getElem_mem _
      have hsup : b.ns[j]'(by omega) ∈ a.ns := sup_of_sub a.ns b.ns da hsub (by omega) _ (List.getElem_mem _)
      obtain ⟨i, hi, ei⟩ := List.getElem_of_mem hsup
      obtain ⟨j', hj', e, q⟩ := hpa i (by omega)
      have : j' = j := nd_inj db hj' (by omega) (e.trans ei)
      subst this
      have eb : b.ns.getD j' .empty = a.ns[i] := by rw [List.getD_eq_getElem?_getD, List.getElem?_eq_getElem hj', e]; rfl
      unfold ps
      rw [if_pos hk2, eb, idx_at da hi]
      refine ⟨by omega, ?_⟩
      rw [Int.toNat_natCast, getD_at (by omega)]
      exact ih _ _ (hsz i (by omega)) (hwa.get _ (List.getElem_mem _)) (hwb.get _ (List.getElem_mem _)) q
    · have hk2 : ¬ b.k = 5 := by omega
      have hja : j < a.is.length := by omega
      obtain ⟨p1, p2⟩ := (it_iff a b j hja).1 (h5 j hja)
      unfold ps at p2 ⊢
      rw [if_neg hk] at p2
      rw [if_neg hk2]
      refine ⟨by omega, ?_⟩
      rw [Int.toNat_natCast, getD_at (by omega)] at p2 ⊢
      exact ih _ _ (hsz j hja) (ha.kids.1.get _ (List.getElem_mem _)) (hb.kids.1.get _ (List.getElem_mem _)) p2
theorem eqJ_comm (a b : J) (ha : Wf a) (hb : Wf b) : eqJ a b = eqJ b a := by
  rw [Bool.eq_iff_iff]
  exact ⟨eqJ_sym _ a b (Nat.le_refl _) ha hb, eqJ_sym _ b a (Nat.le_refl _) hb ha⟩
end Go.Proofs.YtmelgankbegjaaaGreatDoor.Js

set_option linter.unusedVariables false
set_option linter.unusedSimpArgs false
set_option maxRecDepth 100000
set_option maxHeartbeats 8000000
namespace Go.Proofs.YtmelgankbegjaaaGreatDoor.Js
open Go.RowKit Go.Proofs.YtmelgankbegjaaaGreatDoor.B

theorem two_boxes (w : World) (o1 o2 : Obj) : Below w.heap.size w ((w.alloc o1).alloc o2) ∧ ((w.alloc o1).alloc o2).heap[w.heap.size]? = some o1 ∧ ((w.alloc o1).alloc o2).heap[w.heap.size + 1]? = some o2 := by
  have h1 := heap_alloc_new w o1
  have hb : Below (w.alloc o1).heap.size (w.alloc o1) ((w.alloc o1).alloc o2) := (Below.refl _ _).alloc (Nat.le_refl _) _
  have h2 := heap_alloc_new (w.alloc o1) o2
  exact ⟨((Below.refl w.heap.size w).alloc (Nat.le_refl _) _).alloc (by simp) _, (hb.block _ (by simp)).trans h1, by simpa using h2⟩
theorem Wf.short {t : J} (h : Wf t) : t.is.length ≤ 4 ∧ t.ns.length ≤ 4 := by
  obtain ⟨k, n, s, ns, is⟩ := t
  show is.length ≤ 4 ∧ ns.length ≤ 4
  rcases h with ⟨rfl, _, _, e1, e2⟩ | ⟨rfl, _, _, e1, e2⟩ | ⟨rfl, _, _, _, e1, e2⟩ | ⟨rfl, _, _, e1, e2⟩ | ⟨rfl, _, _, e1, h, _⟩ | ⟨rfl, _, _, h1, h, _⟩
  · rw [e1, e2]; exact ⟨by simp, by simp⟩
  · rw [e1, e2]; exact ⟨by simp, by simp⟩
  · rw [e1, e2]; exact ⟨by simp, by simp⟩
  · rw [e1, e2]; exact ⟨by simp, by simp⟩
  · rw [e1]; exact ⟨h, by simp⟩
  · omega
end Go.Proofs.YtmelgankbegjaaaGreatDoor.Js

set_option linter.unusedVariables false
set_option linter.unusedSimpArgs false
set_option maxRecDepth 100000
set_option maxHeartbeats 8000000
namespace Go.Proofs.YtmelgankbegjaaaGreatDoor.Js
open Go.RowKit Go.Proofs.YtmelgankbegjaaaGreatDoor.B

/-- What is listed. -/
def lsJ (t : J) : List J := if t.k = 4 then t.is else [t]
/-- A row of trees. -/
def RJ (W : World) (v : Value) (ts : List J) : Prop := ∃ A c hs, v = .slice A ts.length c ∧ Rd W 5 (.slice A ts.length c) ts.length (flat hs) ∧ JNs (fun _ => True) W ts hs
theorem RJ.below {W W' : World} {v : Value} {ts : List J} (h : RJ W v ts) (hb : Below W.heap.size W W') : RJ W' v ts := by
  obtain ⟨A, c, hs, e, h1, h2⟩ := h
  exact ⟨A, c, hs, e, h1.below hb, h2.below hb⟩
theorem flat_cells {p : Nat → Prop} {W : World} : ∀ {ts : List J} {hs : List Value}, JNs p W ts hs → ∀ u ∈ flat hs, u.oneCell' = true
  | [], hs, h, u, hu => by
    rw [show hs = [] from h] at hu
    cases hu
  | t :: r, hs, h, u, hu => by
    obtain ⟨x, hs', rfl, h1, h2⟩ := h
    rcases List.mem_append.1 (show u ∈ x.cells.toList ++ flat hs' from hu) with hu | hu
    · obtain ⟨a, c, d, e, f, rfl, hz⟩ := five_cells h1
      exact hz u hu
    · exact flat_cells h2 u hu
theorem list_any (t : J) (p : Nat → Prop) (v : Value) (w : World) (hwf : Wf t) (hj : JN p w t v) : Calls Tryz.prog 27 #[v] w fun e w' => ∃ u, e = .returned u ∧ RJ w' u (lsJ t) ∧ Below w.heap.size w w' := by
  obtain ⟨A, c, A2, c2, e1, hn, hs, hi, hh⟩ := hj.five
  obtain ⟨hl4, _⟩ := hwf.short
  subst e1
  have hx0 := heap_alloc_new w (.cells #[.int .i64 t.k, .int .i64 t.n, .string t.s, .slice A t.ns.length c, .slice A2 t.is.length c2] 26)
  obtain ⟨y0, y1, y2, y3, y4⟩ := Rv.cells5 hx0
  have hal := (Below.refl w.heap.size w).alloc (Nat.le_refl _) (.cells #[.int .i64 t.k, .int .i64 t.n, .string t.s, .slice A t.ns.length c, .slice A2 t.is.length c2] 26)
  have hsz : (w.alloc (.cells #[.int .i64 t.k, .int .i64 t.n, .string t.s, .slice A t.ns.length c, .slice A2 t.is.length c2] 26)).heap.size = w.heap.size + 1 := by simp
  by_cases hk : t.k = 4
  · have hkb : (t.k == 4) = true := by simp [hk]
    have hal2 : Below w.heap.size w ((w.alloc (.cells #[.int .i64 t.k, .int .i64 t.n, .string t.s, .slice A t.ns.length c, .slice A2 t.is.length c2] 26)).alloc (.cells #[] 26)) := hal.alloc (by omega) _
    have HO := Lib.hid (World.ownsRow_lit (base := 0) (e := 26) (size := 5) (w.alloc (.cells #[.int .i64 t.k, .int .i64 t.n, .string t.s, .slice A t.ns.length c, .slice A2 t.is.length c2] 26)) #[] 0 (Nat.zero_le _) (by simp [maxLen]) rfl)
    rw [hsz] at HO
    have HR := Lib.hid (hi.1.below hal2)
    have HH := Lib.hid ((hh.weak (q := fun x => x < w.heap.size) (fun b hb _ => hb)).below hal2)
    have HF := Lib.hid (flat_cells hh)
    have HA2 := Lib.hid hal2
    have hs2 : ((w.alloc (.cells #[.int .i64 t.k, .int .i64 t.n, .string t.s, .slice A t.ns.length c, .slice A2 t.is.length c2] 26)).alloc (.cells #[] 26)).heap.size = w.heap.size + 2 := by simp
    have HK := Lib.hid hk
    clear hal hal2 hx0 hsz hn hi hh hj hk
    go_enter Tryz.func27, Tryz.ntmps27
    go_upto_region 2 with fail
    go_wp2_with (at_builtin; (refine appRs (w0 := (w.alloc (.cells #[.int .i64 t.k, .int .i64 t.n, .string t.s, .slice A t.ns.length c, .slice A2 t.is.length c2] 26)).alloc (.cells #[] 26)) rfl (.tmp 6) (.tmp 8) 24 rfl 0 26 (.agg #[.int .i64 0, .int .i64 0, .string ⟨#[]⟩, .slice none 0 0, .slice none 0 0]) 5 80 Tryz.underlying24 info26 rfl (by omega) (by omega) _ 0 [] rfl HO.out (Below.refl _ _) _ _ _ rfl HR.out HF.out (by omega) (Nat.zero_le _) ?_; intro A9 c9 w9 hown9 hb9 hg9; rw [Nat.zero_add, List.nil_append] at hown9; rw [Nat.zero_add]; have hg9 : ((w.alloc (.cells #[.int .i64 t.k, .int .i64 t.n, .string t.s, .slice A t.ns.length c, .slice A2 t.is.length c2] 26)).alloc (.cells #[] 26)).grownBy w9 (some (w.heap.size + 1)) := hg9; have HO9 := Lib.hid (Rd.of_own hown9); have HJ9 := Lib.hid ((HH.out.grown hg9 (fun x hx e => by injection e with e; omega)).weak (q := fun _ => True) (fun _ _ _ => trivial)); have HB := Lib.hid (HA2.out.grown hg9 HA2.out.size (fun k hk => by injection hk with hk; omega)); clear hown9 hb9 hg9))
    go_ret
    refine ⟨_, rfl, ?_, HB.out⟩
    unfold lsJ
    rw [if_pos HK.out]
    exact ⟨A9, c9, hs, rfl, HO9.out, HJ9.out⟩
  · have hkb : (t.k == 4) = false := by simp [hk]
    have HK := Lib.hid hk
    have hal3 : Below w.heap.size w ((w.alloc (.cells #[.int .i64 t.k, .int .i64 t.n, .string t.s, .slice A t.ns.length c, .slice A2 t.is.length c2] 26)).alloc (.cells #[.int .i64 t.k, .int .i64 t.n, .string t.s, .slice A t.ns.length c, .slice A2 t.is.length c2] 26)) := hal.alloc (by omega) _
    have HB := Lib.hid hal3
    have HO := Lib.hid (Rd.of_own (World.ownsRow_lit (base := 0) (e := 26) (size := 5) (w.alloc (.cells #[.int .i64 t.k, .int .i64 t.n, .string t.s, .slice A t.ns.length c, .slice A2 t.is.length c2] 26)) #[.int .i64 t.k, .int .i64 t.n, .string t.s, .slice A t.ns.length c, .slice A2 t.is.length c2] 1 (Nat.zero_le _) (by simp [maxLen]) rfl))
    rw [hsz] at HO
    have HJ := Lib.hid ((hj.below hal3).weak (q := fun _ => True) (fun _ _ _ => trivial))
    clear hal hal3 hx0 hsz hn hi hh hj hk
    go_enter Tryz.func27, Tryz.ntmps27
    go_wp2
    go_ret
    refine ⟨_, rfl, ?_, HB.out⟩
    unfold lsJ
    rw [if_neg HK.out]
    exact ⟨_, _, [_], rfl, by simp only [flat, List.flatMap_cons, List.flatMap_nil, List.append_nil]; exact HO.out, _, [], rfl, HJ.out, rfl⟩
end Go.Proofs.YtmelgankbegjaaaGreatDoor.Js

set_option linter.unusedVariables false
set_option linter.unusedSimpArgs false
set_option maxRecDepth 100000
set_option maxHeartbeats 8000000
namespace Go.Proofs.YtmelgankbegjaaaGreatDoor.Js
open Go.RowKit Go.Proofs.YtmelgankbegjaaaGreatDoor.B

/-- Whether two trees have something in common. -/
def mtJ (a b : J) : Bool := if a.k = 5 ∧ b.k = 5 then (List.range a.is.length).any fun i => it a b i else (lsJ a).any fun x => (lsJ b).any fun y => eqJ x y
theorem lsJ_len {t : J} (h : Wf t) : (lsJ t).length ≤ 4 := by
  unfold lsJ
  split
  · exact h.short.1
  · simp
theorem lsJ_wf {t : J} (h : Wf t) : ∀ x ∈ lsJ t, Wf x := by
  unfold lsJ
  split
  · exact h.kids.1.get
  · intro x hx; rw [List.mem_singleton.1 hx]; exact h
end Go.Proofs.YtmelgankbegjaaaGreatDoor.Js

set_option linter.unusedVariables false
set_option linter.unusedSimpArgs false
set_option maxRecDepth 100000
set_option maxHeartbeats 4000000
namespace Go.Proofs.YtmelgankbegjaaaGreatDoor.Js
open Go.RowKit Go.Proofs.YtmelgankbegjaaaGreatDoor.B

abbrev kl (x : ByteArray) : Lit := .string x.data.toList
theorem kl_inj {x y : ByteArray} (h : kl x = kl y) : x = y := by
  have h : x.data.toList = y.data.toList := by injection h
  cases x; cases y
  simp only at h
  rw [Array.toList_inj.1 h]
theorem kl_key (x : ByteArray) : WideAt.IsKeyLit (kl x) := by
  trivial
theorem dat_facts : ∀ (n : Nat) (ns : List ByteArray) (vs : List Value), ns.length = n → vs.length = n → ns.Nodup → Maps.Tidy (dat ns vs) ∧ Maps.size (dat ns vs) = n ∧ (∀ x, Maps.has (dat ns vs) (kl x) = true ↔ x ∈ ns) ∧
    ∀ i (h : i < ns.length) (h2 : i < vs.length) z, (dat ns vs).atKey (kl ns[i]) z = .held vs[i] := by
  intro n
  induction n with
  | zero =>
    intro ns vs h1 h2 hd
    obtain rfl := List.eq_nil_of_length_eq_zero h1
    obtain rfl := List.eq_nil_of_length_eq_zero h2
    exact ⟨Maps.tidy_empty, rfl, fun x => by simp [dat, Maps.has_eq], fun i h => absurd h (by simp)⟩
  | succ n ih =>
    intro ns vs h1 h2 hd
    have hn0 : ns ≠ [] := fun e => by rw [e] at h1; simp at h1
    have hv0 : vs ≠ [] := fun e => by rw [e] at h2; simp at h2
    obtain ⟨ns', x, rfl⟩ : ∃ l x, ns = l ++ [x] := ⟨_, _, (List.dropLast_concat_getLast hn0).symm⟩
    obtain ⟨vs', v, rfl⟩ : ∃ l x, vs = l ++ [x] := ⟨_, _, (List.dropLast_concat_getLast hv0).symm⟩
    simp only [List.length_append, List.length_singleton] at h1 h2
    have hl : ns'.length = vs'.length := by omega
    obtain ⟨hd1, _, hd3⟩ := List.nodup_append.1 hd
    have hx : x ∉ ns' := fun h => hd3 x h x (by simp) rfl
    obtain ⟨a1, a2, a3, a4⟩ := ih ns' vs' (by omega) (by omega) hd1
    rw [dat_push hl]
    refine ⟨a1.put (kl_key x) _, ?_, fun y => ?_, fun i h h3 z => ?_⟩
    · rw [Maps.size_put a1, show Maps.has (dat ns' vs') (kl x) = false from Bool.eq_false_iff.2 (fun h => hx ((a3 x).1 h)), a2]
      rfl
    · by_cases e : y = x
      · subst e
        rw [Maps.has_put_same a1.isMap (kl_key y)]
        simp
      · rw [Maps.has_put_other (fun h => e (kl_inj h)), a3 y]
        simp [e]
    · by_cases hi : i < ns'.length
      · rw [List.getElem_append_left hi, List.getElem_append_left (by omega : i < vs'.length)]
        rw [Maps.atKey_put_other (fun h => hx (by rw [← kl_inj h]; exact List.getElem_mem _))]
        exact a4 i hi (by omega) z
      · have hi2 : i = ns'.length := by simp at h; omega
        have e1 : (ns' ++ [x])[i] = x := by subst hi2; simp
        have e2 : (vs' ++ [v])[i] = v := by
          have : i = vs'.length := by omega
          subst this; simp
        rw [e1, e2]
        exact Maps.atKey_put_same a1.isMap (kl_key x) _ _
end Go.Proofs.YtmelgankbegjaaaGreatDoor.Js

set_option linter.unusedVariables false
set_option linter.unusedSimpArgs false
set_option maxRecDepth 100000
set_option maxHeartbeats 4000000
namespace Go.Proofs.YtmelgankbegjaaaGreatDoor.Js
open Go.RowKit Go.Proofs.YtmelgankbegjaaaGreatDoor.B

theorem it_obj {a b : J} (hk : a.k = 5) (ha : a.ns.length = a.is.length) (hb : b.ns.length = b.is.length) (i : Nat) (hi : i < a.is.length) :
    it a b i = true ↔ ∃ j, ∃ hj : j < b.ns.length, b.ns[j] = a.ns[i]'(by omega) ∧ eqJ a.is[i] (b.is[j]'(by omega)) = true ∧ idx (a.ns[i]'(by omega)) b.ns 0 = (j : Int) := by
  rw [it_iff a b i hi]
  have e : a.ns.getD i .empty = a.ns[i]'(by omega) := by rw [List.getD_eq_getElem?_getD, List.getElem?_eq_getElem (by omega : i < a.ns.length)]; rfl
  unfold ps
  rw [if_pos hk, e]
  constructor
  · rintro ⟨p1, p2⟩
    obtain ⟨j, e1, hj, e2⟩ := idx_pos p1
    rw [e1, Int.toNat_natCast, getD_at (by omega)] at p2
    exact ⟨j, hj, e2, p2, e1⟩
  · rintro ⟨j, hj, e2, p2, e1⟩
    rw [e1]
    refine ⟨by omega, ?_⟩
    rw [Int.toNat_natCast, getD_at (by omega)]
    exact p2
end Go.Proofs.YtmelgankbegjaaaGreatDoor.Js

set_option linter.unusedVariables false
set_option linter.unusedSimpArgs false
set_option maxRecDepth 100000
set_option maxHeartbeats 4000000
namespace Go.Proofs.YtmelgankbegjaaaGreatDoor.Js
open Go.RowKit Go.Proofs.YtmelgankbegjaaaGreatDoor.B

/-- A word of a path: at most seven letters. -/
def Wd7 (s : ByteArray) : Prop := s.size ≤ 7 ∧ ∀ c ∈ s.data.toList, c ∈ abc
theorem Wd.seven {s : ByteArray} (h : Wd s) : Wd7 s := ⟨Nat.le_trans h.1 (by omega), h.2⟩
mutual
/-- Trees of at most eight items at a place. -/
def Wg : J → Prop
  | .mk k n s ns is => (k = 0 ∧ n = 0 ∧ s = .empty ∧ ns = [] ∧ is = []) ∨ (k = 1 ∧ (n = 0 ∨ n = 1) ∧ s = .empty ∧ ns = [] ∧ is = []) ∨ (k = 2 ∧ -2147483648 ≤ n ∧ n ≤ 2147483647 ∧ s = .empty ∧ ns = [] ∧ is = []) ∨
      (k = 3 ∧ n = 0 ∧ Wd s ∧ ns = [] ∧ is = []) ∨ (k = 4 ∧ n = 0 ∧ s = .empty ∧ ns = [] ∧ is.length ≤ 8 ∧ Wgs is) ∨
      (k = 5 ∧ n = 0 ∧ s = .empty ∧ ns.length = is.length ∧ is.length ≤ 8 ∧ ns.Nodup ∧ (∀ x ∈ ns, Wd7 x ∧ x ≠ .empty) ∧ Wgs is)
def Wgs : List J → Prop
  | [] => True
  | t :: r => Wg t ∧ Wgs r
end
theorem Wgs.get : ∀ {l : List J}, Wgs l → ∀ t ∈ l, Wg t
  | t :: r, h, x, hx => by
    rcases List.mem_cons.1 hx with rfl | hx
    · exact h.1
    · exact Wgs.get h.2 x hx
theorem Wgs.of : ∀ {l : List J}, (∀ t ∈ l, Wg t) → Wgs l
  | [], _ => trivial
  | t :: r, h => ⟨h t (.head _), Wgs.of fun x hx => h x (.tail _ hx)⟩
mutual
theorem Wf.wg : ∀ {t : J}, Wf t → Wg t
  | .mk k n s ns is, h => by
    rcases h with h | h | h | h | ⟨a, b, c, d, e, f⟩ | ⟨a, b, c, d, e, f, g, h⟩
    · exact .inl h
    · exact .inr (.inl h)
    · exact .inr (.inr (.inl h))
    · exact .inr (.inr (.inr (.inl h)))
    · exact .inr (.inr (.inr (.inr (.inl ⟨a, b, c, d, by omega, Wfs.wgs f⟩))))
    · exact .inr (.inr (.inr (.inr (.inr ⟨a, b, c, d, by omega, f, fun x hx => ⟨(g x hx).1.seven, (g x hx).2⟩, Wfs.wgs h⟩))))
theorem Wfs.wgs : ∀ {l : List J}, Wfs l → Wgs l
  | [], _ => trivial
  | t :: r, h => ⟨Wf.wg h.1, Wfs.wgs h.2⟩
end
theorem Wg.kids {t : J} (h : Wg t) : Wgs t.is ∧ (t.k = 5 → t.ns.length = t.is.length ∧ t.ns.Nodup) ∧ t.is.length ≤ 8 ∧ (t.k ≠ 5 → t.ns = []) := by
  obtain ⟨k, n, s, ns, is⟩ := t
  show Wgs is ∧ (k = 5 → ns.length = is.length ∧ ns.Nodup) ∧ is.length ≤ 8 ∧ (k ≠ 5 → ns = [])
  rcases h with ⟨rfl, _, _, e1, e2⟩ | ⟨rfl, _, _, e1, e2⟩ | ⟨rfl, _, _, _, e1, e2⟩ | ⟨rfl, _, _, e1, e2⟩ | ⟨rfl, _, _, e1, h0, h⟩ | ⟨rfl, _, _, h1, h0, h2, _, h⟩
  · rw [e2]; exact ⟨trivial, (fun h => by cases h), Nat.zero_le _, fun _ => e1⟩
  · rw [e2]; exact ⟨trivial, (fun h => by cases h), Nat.zero_le _, fun _ => e1⟩
  · rw [e2]; exact ⟨trivial, (fun h => by cases h), Nat.zero_le _, fun _ => e1⟩
  · rw [e2]; exact ⟨trivial, (fun h => by cases h), Nat.zero_le _, fun _ => e1⟩
  · exact ⟨h, (fun h => by cases h), h0, fun _ => e1⟩
  · exact ⟨h, fun _ => ⟨h1, h2⟩, h0, fun h => absurd rfl h⟩
theorem it_arr {a b : J} (hk : a.k ≠ 5) (i : Nat) (h1 : i < a.is.length) (h2 : i < b.is.length) : it a b i = eqJ a.is[i] b.is[i] := by
  unfold it ps
  rw [if_neg hk, decide_eq_true (by omega), Bool.true_and, Int.toNat_natCast, getD_at h1, getD_at h2]
theorem eqJ_refl : ∀ (N : Nat) (a : J), SizeOf.sizeOf a ≤ N → Wg a → eqJ a a = true := by
  intro N
  induction N with
  | zero => intro a h; obtain ⟨k, n, s, ns, is⟩ := a; simp only [J.mk.sizeOf_spec] at h; omega
  | succ N ih =>
    intro a hN ha
    obtain ⟨hk, h5, _⟩ := ha.kids
    refine (eqJ_iff a a).2 ⟨rfl, rfl, rfl, rfl, fun i hi => ?_⟩
    have e := ih a.is[i] (by have := size_item a i hi; omega) (hk.get _ (List.getElem_mem hi))
    by_cases h : a.k = 5
    · obtain ⟨hl, hd⟩ := h5 h
      exact (it_obj h hl hl i hi).2 ⟨i, by omega, rfl, e, idx_at hd (by omega)⟩
    · rw [it_arr h i hi hi]
      exact e
theorem eqJ_trans : ∀ (N : Nat) (a b c : J), SizeOf.sizeOf a ≤ N → Wg a → Wg b → Wg c → eqJ a b = true → eqJ b c = true → eqJ a c = true := by
  intro N
  induction N with
  | zero => intro a b c h; obtain ⟨k, n, s, ns, is⟩ := a; simp only [J.mk.sizeOf_spec] at h; omega
  | succ N ih =>
    intro a b c hN ha hb hc h h'
    obtain ⟨ka, a5, _⟩ := ha.kids
    obtain ⟨kb, b5, _⟩ := hb.kids
    obtain ⟨kc, c5, _⟩ := hc.kids
    obtain ⟨e1, e2, e3, e4, e5⟩ := (eqJ_iff a b).1 h
    obtain ⟨f1, f2, f3, f4, f5⟩ := (eqJ_iff b c).1 h'
    refine (eqJ_iff a c).2 ⟨e1.trans f1, e2.trans f2, e3.trans f3, e4.trans f4, fun i hi => ?_⟩
    have sz := size_item a i hi
    by_cases h5 : a.k = 5
    · have hb5 : b.k = 5 := by omega
      have hc5 : c.k = 5 := by omega
      obtain ⟨la, da⟩ := a5 h5
      obtain ⟨lb, db⟩ := b5 hb5
      obtain ⟨lc, dc⟩ := c5 hc5
      obtain ⟨j, hj, j1, j2, _⟩ := (it_obj h5 la lb i hi).1 (e5 i hi)
      obtain ⟨l, hl, l1, l2, l3⟩ := (it_obj hb5 lb lc j (by omega)).1 (f5 j (by omega))
      refine (it_obj h5 la lc i hi).2 ⟨l, hl, l1.trans j1, ih _ _ _ (by omega) (ka.get _ (List.getElem_mem _)) (kb.get _ (List.getElem_mem _)) (kc.get _ (List.getElem_mem _)) j2 l2, ?_⟩
      rw [← j1]
      exact l3
    · have g1 := e5 i hi
      have g2 := f5 i (by omega)
      rw [it_arr h5 i hi (by omega)] at g1
      rw [it_arr (by omega) i (by omega) (by omega)] at g2
      rw [it_arr h5 i hi (by omega)]
      exact ih _ _ _ (by omega) (ka.get _ (List.getElem_mem _)) (kb.get _ (List.getElem_mem _)) (kc.get _ (List.getElem_mem _)) g1 g2
theorem nd_len : ∀ (l m : List ByteArray), l.Nodup → (∀ x ∈ l, x ∈ m) → l.length ≤ m.length
  | [], m, _, _ => Nat.zero_le _
  | y :: r, m, hd, hs => by
    have hy := hs y (.head _)
    have hd2 := List.nodup_cons.1 hd
    have h1 := nd_len r (m.filter fun z => decide (z ≠ y)) hd2.2 (fun z hz => List.mem_filter.2 ⟨hs z (.tail _ hz), decide_eq_true (fun e2 => hd2.1 (by rw [← e2]; exact hz))⟩)
    have := (List.length_filter_lt_length_iff_exists (p := fun z => decide (z ≠ y)) (l := m)).2 ⟨y, hy, (by simp : ¬ (decide (y ≠ y) = true))⟩
    simp only [List.length_cons]
    omega
theorem ls_len {a : J} (h : Wf a) : (lsJ a).length ≤ 4 := by
  unfold lsJ
  by_cases hk : a.k = 4
  · rw [if_pos hk]; exact h.short.1
  · rw [if_neg hk]; simp
theorem ls_wf2 {a : J} (h : Wf a) : ∀ x ∈ lsJ a, Wf x := by
  intro x hx
  unfold lsJ at hx
  by_cases hk : a.k = 4
  · rw [if_pos hk] at hx
    exact h.kids.1.get _ hx
  · rw [if_neg hk] at hx
    rw [List.mem_singleton.1 hx]
    exact h
theorem Wf.obj {t : J} (h : Wf t) (hk : t.k = 5) : ∀ x ∈ t.ns, Wd x ∧ x ≠ .empty := by
  obtain ⟨k, n, s, ns, is⟩ := t
  have hk : k = 5 := hk
  rcases h with ⟨h, _⟩ | ⟨h, _⟩ | ⟨h, _⟩ | ⟨h, _⟩ | ⟨h, _⟩ | ⟨rfl, _, _, h1, h0, h2, h3, h⟩ <;> first | omega | skip
end Go.Proofs.YtmelgankbegjaaaGreatDoor.Js

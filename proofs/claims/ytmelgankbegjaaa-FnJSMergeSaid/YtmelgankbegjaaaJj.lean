/- The values of nodes. Conditions: those written at each lemma. -/
import Derived.Test.YtmelgankbegjaaaJi
import Derived.Maps.Own
import Derived.StringKeys
import Derived.Carry
set_option linter.unusedVariables false
set_option linter.unusedSimpArgs false
set_option maxRecDepth 100000
set_option maxHeartbeats 8000000
namespace Go.Proofs.Ytmelgankbegjaaa.Js
open Go.RowKit Go.Proofs.Ytmelgankbegjaaa.B

/-- An element of a map, read as it stands. -/
def RH (v : Value) : Option (DataW Value × List MemPlace) := some (.held v, [])
/-- The map of names and values. -/
def dat (ns : List ByteArray) (vs : List Value) : DataW Value := (ns.zip vs).foldl (fun D p => D.put (.string p.1.data.toList) (.held p.2)) (.map [])
theorem dat_push {ns : List ByteArray} {vs : List Value} (h : ns.length = vs.length) (x : ByteArray) (v : Value) : dat (ns ++ [x]) (vs ++ [v]) = (dat ns vs).put (.string x.data.toList) (.held v) := by
  unfold dat
  rw [List.zip_append h, List.foldl_append]
  rfl
mutual
/-- The value v reads as a tree's Go value. -/
def IV (p : Nat → Prop) (W : World) : J → Value → Prop
  | .mk k n s ns is, v => (k = 0 ∧ v = .nilIface) ∨ (k = 1 ∧ v = .iface 4 (.bool (n == 1))) ∨ (k = 2 ∧ v = .iface 65 (.float .f64 (jw n))) ∨ (k = 3 ∧ v = .iface 9 (.string s)) ∨
      (k = 4 ∧ ∃ A c vs, v = .iface 67 (.slice A is.length c) ∧ Rp p W 1 (.slice A is.length c) is.length vs ∧ IVs p W is vs) ∨
      (k = 5 ∧ ∃ b vs, v = .iface 68 (.map (some b)) ∧ (p b ∧ W.ownsMap Try.prog 9 RH b ns.length (dat ns vs)) ∧ IVs p W is vs)
def IVs (p : Nat → Prop) (W : World) : List J → List Value → Prop
  | [], vs => vs = []
  | t :: r, vs => ∃ v vs', vs = v :: vs' ∧ IV p W t v ∧ IVs p W r vs'
end
mutual
theorem IV.imp {p q : Nat → Prop} {W W' : World} (H : ∀ size v n cs, Rp p W size v n cs → Rp q W' size v n cs) (H2 : ∀ b n D, p b ∧ W.ownsMap Try.prog 9 RH b n D → q b ∧ W'.ownsMap Try.prog 9 RH b n D) : ∀ (t : J) (v : Value), IV p W t v → IV q W' t v
  | .mk k n s ns is, v, h => by
    rcases h with h | h | h | h | ⟨e, A, c, vs, e2, h1, h2⟩ | ⟨e, b, vs, e2, h1, h2⟩
    · exact .inl h
    · exact .inr (.inl h)
    · exact .inr (.inr (.inl h))
    · exact .inr (.inr (.inr (.inl h)))
    · exact .inr (.inr (.inr (.inr (.inl ⟨e, A, c, vs, e2, H _ _ _ _ h1, IVs.imp H H2 is vs h2⟩))))
    · exact .inr (.inr (.inr (.inr (.inr ⟨e, b, vs, e2, H2 _ _ _ h1, IVs.imp H H2 is vs h2⟩))))
theorem IVs.imp {p q : Nat → Prop} {W W' : World} (H : ∀ size v n cs, Rp p W size v n cs → Rp q W' size v n cs) (H2 : ∀ b n D, p b ∧ W.ownsMap Try.prog 9 RH b n D → q b ∧ W'.ownsMap Try.prog 9 RH b n D) : ∀ (ts : List J) (vs : List Value), IVs p W ts vs → IVs q W' ts vs
  | [], vs, h => h
  | t :: r, vs, h => by
    obtain ⟨x, vs', e, h1, h2⟩ := h
    exact ⟨x, vs', e, IV.imp H H2 t x h1, IVs.imp H H2 r vs' h2⟩
end
section
variable {p q : Nat → Prop} {W W' : World} {t : J} {v : Value} {ts : List J} {vs : List Value}
theorem map_below {b n : Nat} {D : DataW Value} (h : W.ownsMap Try.prog 9 RH b n D) (hb : Below W.heap.size W W') : W'.ownsMap Try.prog 9 RH b n D := h.kept (grown_of_below hb none) (by simp)
theorem IV.below (h : IV p W t v) (hb : Below W.heap.size W W') : IV p W' t v := IV.imp (fun _ _ _ _ h => h.below hb) (fun b n D h => ⟨h.1, map_below h.2 hb⟩) t v h
theorem IVs.below (h : IVs p W ts vs) (hb : Below W.heap.size W W') : IVs p W' ts vs := IVs.imp (fun _ _ _ _ h => h.below hb) (fun b n D h => ⟨h.1, map_below h.2 hb⟩) ts vs h
theorem IV.weak (h : IV p W t v) (H : ∀ b, b < W.heap.size → p b → q b) : IV q W t v := IV.imp (fun _ _ _ _ h => h.weak H) (fun b n D h => ⟨H b h.2.lt h.1, h.2⟩) t v h
theorem IVs.weak (h : IVs p W ts vs) (H : ∀ b, b < W.heap.size → p b → q b) : IVs q W ts vs := IVs.imp (fun _ _ _ _ h => h.weak H) (fun b n D h => ⟨H b h.2.lt h.1, h.2⟩) ts vs h
theorem IV.grown {row : Option Nat} (h : IV p W t v) (hg : W.grownBy W' row) (H : ∀ b, p b → some b ≠ row) : IV p W' t v := IV.imp (fun _ _ _ _ h => h.grown hg H) (fun b n D h => ⟨h.1, h.2.kept hg (H b h.1)⟩) t v h
theorem IVs.grown {row : Option Nat} (h : IVs p W ts vs) (hg : W.grownBy W' row) (H : ∀ b, p b → some b ≠ row) : IVs p W' ts vs := IVs.imp (fun _ _ _ _ h => h.grown hg H) (fun b n D h => ⟨h.1, h.2.kept hg (H b h.1)⟩) ts vs h
theorem IVs.len : ∀ {ts : List J} {vs : List Value}, IVs p W ts vs → vs.length = ts.length
  | [], vs, h => by rw [show vs = [] from h]; rfl
  | t :: r, vs, h => by
    obtain ⟨x, vs', rfl, _, h2⟩ := h
    simp [IVs.len h2]
theorem IVs.push : ∀ {ts : List J} {vs : List Value}, IVs p W ts vs → IV p W t v → IVs p W (ts ++ [t]) (vs ++ [v])
  | [], vs, h, hx => by
    rw [show vs = [] from h]
    exact ⟨v, [], rfl, hx, rfl⟩
  | t' :: r, vs, h, hx => by
    obtain ⟨y, vs', rfl, h1, h2⟩ := h
    exact ⟨y, vs' ++ [v], rfl, h1, IVs.push h2 hx⟩
end
theorem info20 : (Try.prog.info? 20).map (fun i => (i.zero, i.size, i.bytes)) = some (some .nilIface, 1, 16) := by kernel_rfl
theorem f29 (x : Int) (w : World) : (callFunc 29 #[.int .u64 x]).run Try.prog w = .ok (.value (.float .f64 x.toNat)) w := by kernel_rfl
theorem law9 : Maps.Keyed Try.prog 9 := Maps.string_keyed Try.underlying9
theorem own_empty (w : World) : (w.alloc (.cells #[] 20)).ownsRow w.heap.size 20 1 (.slice (some ⟨w.heap.size, 0, none⟩) 0 0) 0 [] :=
  ⟨by simp, .inr ⟨w.heap.size, 0, #[], rfl, Nat.le_refl _, heap_alloc_new w _, Nat.le_refl _, by simp [maxLen], by simp, by simp⟩⟩

theorem iv_push {B E : Nat} {W W' : World} {v v' u : Value} {ts : List J} {t : J} {vs : List Value} (h : IVs (fun x => B ≤ x ∧ some x ≠ v.ownBlock) W ts vs) (hu : IV (fun x => E ≤ x) W t u) (hE : ∀ k, v.ownBlock = some k → k < E) (hBE : B ≤ E)
    (hg : W.grownBy W' v.ownBlock) (hat : v'.ownBlock = v.ownBlock ∨ ∃ k, v'.ownBlock = some k ∧ W.heap.size ≤ k) : IVs (fun x => B ≤ x ∧ some x ≠ v'.ownBlock) W' (ts ++ [t]) (vs ++ [u]) := by
  have new : ∀ x, (B ≤ x ∧ some x ≠ v.ownBlock) → x < W.heap.size → (B ≤ x ∧ some x ≠ v'.ownBlock) := fun x hx hl => ⟨hx.1, fun e => by
    rcases hat with ha | ⟨k, hk, hk2⟩
    · exact hx.2 (e.trans ha)
    · rw [hk] at e; injection e with e; omega⟩
  have h1 := ((h.weak (q := fun x => (B ≤ x ∧ some x ≠ v.ownBlock) ∧ x < W.heap.size) (fun x hl hx => ⟨hx, hl⟩)).grown hg (fun x hx => hx.1.2)).weak (fun x _ hx => new x hx.1 hx.2)
  have h2 := ((hu.weak (q := fun x => (B ≤ x ∧ some x ≠ v.ownBlock) ∧ x < W.heap.size) (fun x hl hx => ⟨⟨Nat.le_trans hBE hx, fun e => by have := hE x e.symm; have hx : E ≤ x := hx; omega⟩, hl⟩)).grown hg (fun x hx => hx.1.2)).weak (fun x _ hx => new x hx.1 hx.2)
  exact h1.push h2
theorem iv_map {B E : Nat} {W W' : World} {u : Value} {ts : List J} {t : J} {vs : List Value} {b : Nat} (h : IVs (fun x => B ≤ x ∧ x ≠ b) W ts vs) (hu : IV (fun x => E ≤ x) W t u) (hE : b < E) (hBE : B ≤ E)
    (hg : W.grownBy W' (some b)) : IVs (fun x => B ≤ x ∧ x ≠ b) W' (ts ++ [t]) (vs ++ [u]) := by
  have h1 := h.grown hg (fun x hx e => by injection e with e; exact hx.2 e)
  have h2 := (hu.weak (q := fun x => B ≤ x ∧ x ≠ b) (fun x hl hx => ⟨Nat.le_trans hBE hx, fun e => by have hx : E ≤ x := hx; omega⟩)).grown hg (fun x hx e => by injection e with e; exact hx.2 e)
  exact h1.push h2
theorem val_step (k0 n0 : Int) (s0 : ByteArray) (ns : List ByteArray) (ts : List J) (IH0 : ∀ t ∈ ts, ∀ (p : Nat → Prop) (v : Value) (w : World), Wf t → NN p w t v → Calls Try.prog 16 #[v] w fun e w' => ∃ u, e = .returned u ∧ IV (fun x => w.heap.size ≤ x) w' t u ∧ (u.cells = #[u] ∧ u.oneCell' = true) ∧ Below w.heap.size w w')
    (p : Nat → Prop) (v : Value) (w : World) (hwf : Wf (.mk k0 n0 s0 ns ts)) (hj : NN p w (.mk k0 n0 s0 ns ts) v) : Calls Try.prog 16 #[v] w fun e w' => ∃ u, e = .returned u ∧ IV (fun x => w.heap.size ≤ x) w' (.mk k0 n0 s0 ns ts) u ∧ (u.cells = #[u] ∧ u.oneCell' = true) ∧ Below w.heap.size w w' := by
  have IH0 := Lib.hid IH0
  obtain ⟨A, c, A2, c2, hs0, hv0, hN, hI, hH⟩ := hj
  subst hv0
  have HRN0 := Lib.hid hN.1
  have HRI0 := Lib.hid hI.1
  have HH0 := Lib.hid hH
  clear hN hI hH
  have HB0 := Lib.hid ((Below.refl w.heap.size w).alloc (Nat.le_refl _) (.cells #[.int .i64 k0, .int .u64 (nb k0 n0), .string s0, .slice A ns.length c, .slice A2 ts.length c2] 32))
  have hX0 := heap_alloc_new w (.cells #[.int .i64 k0, .int .u64 (nb k0 n0), .string s0, .slice A ns.length c, .slice A2 ts.length c2] 32)
  obtain ⟨y0, y1, y2, y3, y4⟩ := Rv.cells5 hX0
  have HX0 := Lib.hid hX0
  clear hX0
  have hsz : (w.alloc (.cells #[.int .i64 k0, .int .u64 (nb k0 n0), .string s0, .slice A ns.length c, .slice A2 ts.length c2] 32)).heap.size = w.heap.size + 1 := by simp
  rcases hwf with ⟨rfl, rfl, rfl, rfl, rfl⟩ | ⟨rfl, hn, rfl, rfl, rfl⟩ | ⟨rfl, hn1, hn2, rfl, rfl, rfl⟩ | ⟨rfl, rfl, hw, rfl, rfl⟩ | ⟨rfl, rfl, rfl, rfl, hl, hws⟩ | ⟨rfl, rfl, rfl, hl0, hl, hnd, hnm, hws⟩
  · go_enter Try.func16, Try.ntmps16
    go_wp2
    go_ret
    exact ⟨_, rfl, .inl ⟨rfl, rfl⟩, ⟨rfl, rfl⟩, HB0.out⟩
  · have hnb : nb 1 n0 = n0 := rfl
    rw [hnb] at *
    rcases hn with rfl | rfl
    all_goals
      go_enter Try.func16, Try.ntmps16
      go_wp2
      go_ret
      exact ⟨_, rfl, .inr (.inl ⟨rfl, rfl⟩), ⟨rfl, rfl⟩, HB0.out⟩
  · have hnb : nb 2 n0 = (jw n0 : Int) := rfl
    rw [hnb] at *
    have hf := f29 (jw n0)
    rw [Int.toNat_natCast] at hf
    go_enter Try.func16, Try.ntmps16
    go_wp2
    go_ret
    exact ⟨_, rfl, .inr (.inr (.inl ⟨rfl, rfl⟩)), ⟨rfl, rfl⟩, HB0.out⟩
  · go_enter Try.func16, Try.ntmps16
    go_wp2
    go_ret
    exact ⟨_, rfl, .inr (.inr (.inr (.inl ⟨rfl, rfl⟩))), ⟨rfl, rfl⟩, HB0.out⟩
  · clear HB0 HX0 y0 y1 y2 y3 y4 hsz
    have hsz1 : (w.alloc (.cells #[.int .i64 4, .int .u64 (nb 4 0), .string .empty, .slice A 0 c, .slice A2 ts.length c2] 32)).heap.size = w.heap.size + 1 := by simp
    have HB0 := Lib.hid (((Below.refl w.heap.size w).alloc (Nat.le_refl _) (.cells #[.int .i64 4, .int .u64 (nb 4 0), .string .empty, .slice A 0 c, .slice A2 ts.length c2] 32)).alloc (by simp) (.cells #[] 20))
    have HO0 := Lib.hid (own_empty (w.alloc (.cells #[.int .i64 4, .int .u64 (nb 4 0), .string .empty, .slice A 0 c, .slice A2 ts.length c2] 32)))
    rw [hsz1] at HO0
    obtain ⟨y0, y1, y2, y3, y4⟩ := Rv.cells5 (heap_alloc_new w (.cells #[.int .i64 4, .int .u64 (nb 4 0), .string .empty, .slice A 0 c, .slice A2 ts.length c2] 32))
    have HWS := Lib.hid hws
    go_enter Try.func16, Try.ntmps16
    go_upto_region 11 with fail
    clear y0 y1 y2 y3 y4
    generalize (w.alloc (.cells #[.int .i64 4, .int .u64 (nb 4 0), .string .empty, .slice A 0 c, .slice A2 ts.length c2] 32)).alloc (.cells #[] 20) = w1 at *
    go_loopw [3, 5, 34] (fun v3 v5 v34 wr => ∃ (i : Nat) (A3 : Option Addr) (c3 : Nat) (vs : List Value), v34 = .int .i64 (i : Int) ∧ i ≤ ts.length ∧ v3 = .slice A3 i c3 ∧ Hid (wr.ownsRow (w.heap.size + 1) 20 1 (.slice A3 i c3) i vs) ∧ Hid (IVs (fun x => w.heap.size + 1 ≤ x ∧ some x ≠ (Value.slice A3 i c3).ownBlock) wr (ts.take i) vs) ∧ Hid (Below w.heap.size w wr)) (fun _ _ v34 _ => (ts.length - (intOf v34)).toNat)
    case atStart => exact ⟨0, _, _, [], rfl, Nat.zero_le _, rfl, HO0, Lib.hid rfl, HB0⟩
    case round =>
      obtain ⟨i, A3, c3, vs, rfl, hi, rfl, HO, HV, HB⟩ := hrel
      clear HO0 HB0
      by_cases hlt : i < ts.length
      · obtain ⟨bi, oi, A1, c1, A3', c3', e2, hbi, x0, x1, x2, x3, x4, hjt⟩ := node_item HRI0.out HH0.out rfl i hlt
        subst e2
        have HTI := Lib.hid (List.take_append_getElem hlt)
        have IH := Lib.hid (fun (W : World) (hb : Below w.heap.size w W) => IH0.out ts[i] (List.getElem_mem hlt) p _ W (hws.get _ (List.getElem_mem hlt)) (hjt.below hb))
        have x0 := (HB.out.cell hbi).trans x0
        have x1 := (HB.out.cell (p := ⟨bi, oi + i * 5 + 1, none⟩) hbi).trans x1
        have x2 := (HB.out.cell (p := ⟨bi, oi + i * 5 + 2, none⟩) hbi).trans x2
        have x3 := (HB.out.cell (p := ⟨bi, oi + i * 5 + 3, none⟩) hbi).trans x3
        have x4 := (HB.out.cell (p := ⟨bi, oi + i * 5 + 4, none⟩) hbi).trans x4
        clear hjt
        generalize ts[i] = ti at *
        generalize ti.k = kk1 at IH x0 x1
        generalize nb kk1 ti.n = nn1 at IH x1
        generalize ti.s = ss1 at IH x2
        generalize ti.ns.length = l1 at IH x3
        generalize ti.is.length = l3 at IH x4
        go_upto_region 13 with fail
        clear x0 x1 x2 x3 x4
        have HBW := Lib.hid (HB.out.alloc HB.out.size (.cells #[.int .i64 kk1, .int .u64 nn1, .string ss1, .slice A1 l1 c1, .slice A3' l3 c3'] 32))
        have HAL := Lib.hid ((Below.refl wr.heap.size wr).alloc (Nat.le_refl _) (.cells #[.int .i64 kk1, .int .u64 nn1, .string ss1, .slice A1 l1 c1, .slice A3' l3 c3'] 32))
        obtain ⟨x0, x1, x2, x3, x4⟩ := Rv.cells5 (heap_alloc_new wr (.cells #[.int .i64 kk1, .int .u64 nn1, .string ss1, .slice A1 l1 c1, .slice A3' l3 c3'] 32))
        have HSZ3 := Lib.hid (show wr.heap.size + 1 = (wr.alloc (.cells #[.int .i64 kk1, .int .u64 nn1, .string ss1, .slice A1 l1 c1, .slice A3' l3 c3'] 32)).heap.size by simp)
        generalize wr.alloc (.cells #[.int .i64 kk1, .int .u64 nn1, .string ss1, .slice A1 l1 c1, .slice A3' l3 c3'] 32) = w3 at *
        have HO3 := Lib.hid (own_below HO.out HAL.out)
        have HV3 := Lib.hid (HV.out.below HAL.out)
        have HOL := Lib.hid (fun k hk => (HO3.out.lt k hk).2)
        have hB3 : w.heap.size + 1 ≤ w3.heap.size := by
          rw [← HSZ3.out]
          have := HB.out.size
          omega
        clear HO HV
        go_wp2_with (first
          | (go_at_call 16; (with_reducible refine (IH.out w3 HBW.out).mono ?_); rintro e w5 ⟨u, rfl, hu, ⟨hu2, hu1⟩, hb⟩; have hu3 := hu2; unfold Value.cells at hu3; have HU := Lib.hid hu; have HO5 := Lib.hid (own_below HO3.out hb); have HV5 := Lib.hid (HV3.out.below hb); have HB5 := Lib.hid (HBW.out.trans (hb.mono HBW.out.size)); have hs5 := hb.size; clear hu hb)
          | (at_builtin; (refine app1 (w0 := w5) (w.heap.size + 1) rfl (.tmp 38) (.tmp 41) 67 20 .nilIface 1 16 rfl Try.underlying67 info20 rfl (by omega) (by omega) _ _ _ _ rfl rfl rfl (by intro x hx; rw [List.mem_singleton.1 hx]; exact hu1) HO5.out (Below.refl _ _) (by omega) (by omega) ?_; intro v7 w7 hown7 _ hg7 hat7; obtain ⟨A7, c7, rfl, _⟩ := (Rd.of_own hown7).shape; have HV7 := Lib.hid (iv_push HV5.out HU.out HOL.out hB3 hg7 hat7); have HB7 := Lib.hid (HB5.out.grown hg7 HB5.out.size (fun k hk => by have := (HO5.out.lt k hk).1; omega)); have HO7 := Lib.hid hown7; clear hown7 hg7 hat7)))
        go_roundw
        case rel => exact ⟨i + 1, A7, c7, vs ++ [u], by go_num, by omega, rfl, HO7, Lib.hid (by rw [← HTI.out]; exact HV7.out), HB7⟩
        case measure => simp [intOf]; omega
      · obtain rfl : i = ts.length := by omega
        rw [List.take_length] at HV
        go_wp2
        go_ret
        exact ⟨_, rfl, .inr (.inr (.inr (.inr (.inl ⟨rfl, A3, c3, vs, rfl, (Rp.own HO.out).weak (fun x _ hx => by have := hx.1; omega), HV.out.weak (fun x _ hx => by have := hx.1; omega)⟩)))), ⟨rfl, rfl⟩, HB.out⟩
  · clear HB0 HX0 y0 y1 y2 y3 y4 hsz
    have hsz1 : (w.alloc (.cells #[.int .i64 5, .int .u64 (nb 5 0), .string .empty, .slice A ns.length c, .slice A2 ts.length c2] 32)).heap.size = w.heap.size + 1 := by simp
    have HB0 := Lib.hid (((Below.refl w.heap.size w).alloc (Nat.le_refl _) (.cells #[.int .i64 5, .int .u64 (nb 5 0), .string .empty, .slice A ns.length c, .slice A2 ts.length c2] 32)).alloc (by simp) (.map #[] 0))
    have HM0 := Lib.hid (World.ownsMap_made (H := Value) (w.alloc (.cells #[.int .i64 5, .int .u64 (nb 5 0), .string .empty, .slice A ns.length c, .slice A2 ts.length c2] 32)) Try.prog 9 RH)
    rw [hsz1] at HM0
    have HX0 := Lib.hid (show ((w.alloc (.cells #[.int .i64 5, .int .u64 (nb 5 0), .string .empty, .slice A ns.length c, .slice A2 ts.length c2] 32)).alloc (.map #[] 0)).heap[w.heap.size]? = some (.cells #[.int .i64 5, .int .u64 (nb 5 0), .string .empty, .slice A ns.length c, .slice A2 ts.length c2] 32 (0, 0)) from by
      have h1 := heap_alloc_new w (.cells #[.int .i64 5, .int .u64 (nb 5 0), .string .empty, .slice A ns.length c, .slice A2 ts.length c2] 32)
      have hb : Below (w.alloc (.cells #[.int .i64 5, .int .u64 (nb 5 0), .string .empty, .slice A ns.length c, .slice A2 ts.length c2] 32)).heap.size (w.alloc (.cells #[.int .i64 5, .int .u64 (nb 5 0), .string .empty, .slice A ns.length c, .slice A2 ts.length c2] 32)) ((w.alloc (.cells #[.int .i64 5, .int .u64 (nb 5 0), .string .empty, .slice A ns.length c, .slice A2 ts.length c2] 32)).alloc (.map #[] 0)) := (Below.refl _ _).alloc (Nat.le_refl _) _
      exact (hb.block _ (by simp)).trans h1)
    have hmm := @run_makeMap Try.prog
    have HL0 := Lib.hid hl0
    have HNM := Lib.hid hnm
    clear hl0 hnm hnd
    obtain ⟨y0, y1, y2, y3, y4⟩ := Rv.cells5 HX0.out
    obtain ⟨y0', y1', y2', y3', y4'⟩ := Rv.cells5 (heap_alloc_new w (.cells #[.int .i64 5, .int .u64 (nb 5 0), .string .empty, .slice A ns.length c, .slice A2 ts.length c2] 32))
    have HWS := Lib.hid hws
    go_enter Try.func16, Try.ntmps16
    go_upto_region 19 with fail
    clear y0 y1 y2 y3 y4 y0' y1' y2' y3' y4' hmm
    generalize (w.alloc (.cells #[.int .i64 5, .int .u64 (nb 5 0), .string .empty, .slice A ns.length c, .slice A2 ts.length c2] 32)).alloc (.map #[] 0) = w1 at *
    go_loopw [7, 8, 52] (fun v7 v8 v52 wr => ∃ (i : Nat) (vs : List Value), v52 = .int .i64 (i : Int) ∧ i ≤ ts.length ∧ Hid (wr.ownsMap Try.prog 9 RH (w.heap.size + 1) i (dat (ns.take i) vs)) ∧ Hid (IVs (fun x => w.heap.size + 1 ≤ x ∧ x ≠ w.heap.size + 1) wr (ts.take i) vs) ∧ Hid (Below w.heap.size w wr) ∧ Hid (wr.heap[w.heap.size]? = some (.cells #[.int .i64 5, .int .u64 (nb 5 0), .string .empty, .slice A ns.length c, .slice A2 ts.length c2] 32 (0, 0)))) (fun _ _ v52 _ => (ts.length - (intOf v52)).toNat)
    case atStart => exact ⟨0, [], rfl, Nat.zero_le _, HM0, Lib.hid rfl, HB0, HX0⟩
    case round =>
      obtain ⟨i, vs, rfl, hi, HM, HV, HB, HX⟩ := hrel
      clear HM0 HB0 HX0
      by_cases hlt : i < ts.length
      · have hl0 := HL0.out
        have hx0 : (strs ns)[i]? = some (.string (ns.getD i .empty)) := by
          rw [List.getElem?_map, List.getElem?_eq_getElem (by omega : i < ns.length), List.getD_eq_getElem?_getD, List.getElem?_eq_getElem (by omega : i < ns.length)]
          rfl
        obtain ⟨bn, on, cn, hv, _, _, hbn, hcn⟩ := HRN0.out.open (by omega)
        injection hv with e1 _ e3
        subst e1 e3
        have xn := (HB.out.cell (p := ⟨bn, on + i, none⟩) hbn).trans (hcn i _ hx0)
        have HTN := Lib.hid (show ns.take i ++ [ns.getD i .empty] = ns.take (i + 1) by
          rw [List.getD_eq_getElem?_getD, List.getElem?_eq_getElem (by omega : i < ns.length)]
          exact List.take_append_getElem (by omega))
        have hwd := HNM.out (ns.getD i .empty) (by
          rw [List.getD_eq_getElem?_getD, List.getElem?_eq_getElem (by omega : i < ns.length)]
          exact List.getElem_mem _)
        have hkey := WideMaps.keyOf_string_mk (P := Try.prog) Try.underlying9 (s := ns.getD i .empty) (by have := hwd.1.1; unfold maxLen; omega)
        clear hx0 hcn hwd
        have hin : (i : Int) < ns.length := by omega
        clear hl0
        generalize ns.getD i .empty = nm at *
        have HVL := Lib.hid HV.out.len
        obtain ⟨bi, oi, A1, c1, A3', c3', e2, hbi, x0, x1, x2, x3, x4, hjt⟩ := node_item HRI0.out HH0.out rfl i hlt
        subst e2
        have HTI := Lib.hid (List.take_append_getElem hlt)
        have IH := Lib.hid (fun (W : World) (hb : Below w.heap.size w W) => IH0.out ts[i] (List.getElem_mem hlt) p _ W (hws.get _ (List.getElem_mem hlt)) (hjt.below hb))
        have x0 := (HB.out.cell hbi).trans x0
        have x1 := (HB.out.cell (p := ⟨bi, oi + i * 5 + 1, none⟩) hbi).trans x1
        have x2 := (HB.out.cell (p := ⟨bi, oi + i * 5 + 2, none⟩) hbi).trans x2
        have x3 := (HB.out.cell (p := ⟨bi, oi + i * 5 + 3, none⟩) hbi).trans x3
        have x4 := (HB.out.cell (p := ⟨bi, oi + i * 5 + 4, none⟩) hbi).trans x4
        clear hjt
        generalize ts[i] = ti at *
        generalize ti.k = kk1 at IH x0 x1
        generalize nb kk1 ti.n = nn1 at IH x1
        generalize ti.s = ss1 at IH x2
        generalize ti.ns.length = l1 at IH x3
        generalize ti.is.length = l3 at IH x4
        obtain ⟨y0, y1, y2, y3, y4⟩ := Rv.cells5 HX.out
        have hmw := Rv.lt_of_blk HX.out
        have hml := HM.out.lt
        go_wp2_with (first
          | (go_at_call 16; (with_reducible refine (IH.out wr HB.out).mono ?_); rintro e w5 ⟨u, rfl, hu, hu1, hb⟩; have HU := Lib.hid hu; have HM5 := Lib.hid (map_below HM.out hb); have HV5 := Lib.hid (HV.out.below hb); have HB5 := Lib.hid (HB.out.trans (hb.mono HB.out.size)); have HX5 := Lib.hid ((hb.block _ hmw).trans HX.out); clear hu hb)
          | (at_mapUpdate; refine wpList_mapUpdate_own _ rfl _ _ _ 68 rfl 9 20 law9 Try.underlying68 RH (w.heap.size + 1) i _ rfl HM5.out (by unfold maxLen; omega) _ _ _ rfl rfl hkey _ [] rfl ?_; intro w7 hm7 hg7; have HM7 := Lib.hid hm7; have HV7 := Lib.hid (iv_map HV5.out HU.out hml (by omega) hg7); have HB7 := Lib.hid (HB5.out.grown hg7 HB5.out.size (fun k hk => by injection hk with hk; omega)); have HX7 := Lib.hid (blk_grown HX5.out hg7 (fun e => by injection e with e; omega)); clear hm7 hg7))
        go_roundw
        case rel => exact ⟨i + 1, vs ++ [u], by go_num, by omega, Lib.hid (by
          rw [← HTN.out, dat_push (by rw [HVL.out, List.length_take, List.length_take, HL0.out])]
          exact HM7.out), Lib.hid (by rw [← HTI.out]; exact HV7.out), HB7, HX7⟩
        case measure => simp [intOf]; omega
      · obtain rfl : i = ts.length := by omega
        rw [List.take_length] at HV
        rw [← HL0.out, List.take_length] at HM
        have hin : ¬ ((ts.length : Int) < ns.length) := by have := HL0.out; omega
        go_wp2
        go_ret
        exact ⟨_, rfl, .inr (.inr (.inr (.inr (.inr ⟨rfl, w.heap.size + 1, vs, rfl, ⟨Nat.le_succ _, HM.out⟩, HV.out.weak (fun x _ hx => by have := hx.1; omega)⟩)))), ⟨rfl, rfl⟩, HB.out⟩
theorem val_any (t : J) (p : Nat → Prop) (v : Value) (w : World) (hwf : Wf t) (hj : NN p w t v) : Calls Try.prog 16 #[v] w fun e w' => ∃ u, e = .returned u ∧ IV (fun x => w.heap.size ≤ x) w' t u ∧ (u.cells = #[u] ∧ u.oneCell' = true) ∧ Below w.heap.size w w' :=
  match t, hwf, hj with
  | .mk k0 n0 s0 ns ts, hwf, hj => val_step k0 n0 s0 ns ts (fun t ht p v w h1 h2 => val_any t p v w h1 h2) p v w hwf hj
termination_by SizeOf.sizeOf t
decreasing_by
  have := List.sizeOf_lt_of_mem ht
  simp only [J.mk.sizeOf_spec]
  omega
end Go.Proofs.Ytmelgankbegjaaa.Js

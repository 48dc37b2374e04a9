/- Part h of the chain. Conditions: those written at each lemma. -/
import Derived.Test.YtmelgankbegjaaaGreatDoorGg
import Derived.Stop.Asserts
import Derived.Maps.RangeWalk
import Derived.Maps.Ext
import Derived.Test.YtmelgankbegjaaaGreatDoorGc
set_option linter.unusedVariables false
set_option linter.unusedSimpArgs false
set_option maxRecDepth 100000
set_option maxHeartbeats 8000000
namespace Go.Proofs.YtmelgankbegjaaaGreatDoor.Js
open Go.RowKit Go.Proofs.YtmelgankbegjaaaGreatDoor.B

mutual
/-- The value v reads as a tree's Go value; what it lies in is its own, of a kind, and apart. -/
def IO (p : Nat → Prop) (W : World) : J → Value → Prop
  | .mk k n s ns is, v => (k = 0 ∧ v = .nilIface) ∨ (k = 1 ∧ v = .iface 4 (.bool (n == 1))) ∨ (k = 2 ∧ v = .iface 72 (.float .f64 (jw n))) ∨ (k = 3 ∧ v = .iface 9 (.string s)) ∨
      (k = 4 ∧ ∃ A c vs, v = .iface 74 (.slice A is.length c) ∧ W.ownsRow 0 20 1 (.slice A is.length c) is.length vs ∧ (∀ b, (Value.slice A is.length c).ownBlock = some b → p b) ∧ IOs (fun x => p x ∧ some x ≠ (Value.slice A is.length c).ownBlock) W is vs) ∨
      (k = 5 ∧ ∃ b vs, v = .iface 75 (.map (some b)) ∧ p b ∧ W.ownsMap Tryz.prog 9 RH b ns.length (dat ns vs) ∧ IOs (fun x => p x ∧ x ≠ b) W is vs)
def IOs (p : Nat → Prop) (W : World) : List J → List Value → Prop
  | [], vs => vs = []
  | t :: r, vs => ∃ (v : Value) (vs' : List Value) (q : Nat → Prop), vs = v :: vs' ∧ IO (fun x => p x ∧ q x) W t v ∧ IOs (fun x => p x ∧ ¬ q x) W r vs'
end
theorem row_base {W : World} {B : Nat} {e : TypeId} {size n : Nat} {v : Value} {xs : List Value} (h : W.ownsRow B e size v n xs) (B' : Nat) (hb : ∀ k, v.ownBlock = some k → B' ≤ k) : W.ownsRow B' e size v n xs := by
  refine ⟨h.1, ?_⟩
  rcases h.2 with h2 | ⟨g, cap, cur, rfl, h1, hg, r⟩
  · exact .inl h2
  · exact .inr ⟨g, cap, cur, rfl, hb g rfl, hg, r⟩
/-- Nothing of a kind has turned. -/
def Same (p : Nat → Prop) (W W' : World) : Prop := W.heap.size ≤ W'.heap.size ∧ ∀ b, b < W.heap.size → p b → W'.heap[b]? = W.heap[b]?
theorem Same.below {p : Nat → Prop} {W W' : World} (h : Below W.heap.size W W') : Same p W W' := ⟨h.size, fun b hb _ => h.block b hb⟩
theorem Same.grown {p : Nat → Prop} {W W' : World} {row : Option Nat} (h : W.grownBy W' row) (H : ∀ b, p b → some b ≠ row) : Same p W W' := ⟨h.size, fun b hb hp => h.block b hb (H b hp)⟩
theorem Same.mono {p q : Nat → Prop} {W W' : World} (h : Same p W W') (H : ∀ b, q b → p b) : Same q W W' := ⟨h.1, fun b hb hq => h.2 b hb (H b hq)⟩
theorem Same.trans {p : Nat → Prop} {a b c : World} (h : Same p a b) (k : Same p b c) : Same p a c := ⟨Nat.le_trans h.1 k.1, fun x hx hp => (k.2 x (Nat.lt_of_lt_of_le hx h.1) hp).trans (h.2 x hx hp)⟩
theorem row_same {W W' : World} {p : Nat → Prop} {B : Nat} {e : TypeId} {size n : Nat} {v : Value} {xs : List Value} (h : W.ownsRow B e size v n xs) (hb : ∀ k, v.ownBlock = some k → p k) (hs : Same p W W') : W'.ownsRow B e size v n xs := by
  have hl := h.lt
  refine ⟨h.1, ?_⟩
  rcases h.2 with h2 | ⟨g, cap, cur, rfl, h1, hg, r⟩
  · exact .inl h2
  · exact .inr ⟨g, cap, cur, rfl, h1, (hs.2 g (hl g rfl).2 (hb g rfl)).trans hg, r⟩
theorem map_same {W W' : World} {p : Nat → Prop} {b n : Nat} {D : DataW Value} (h : W.ownsMap Tryz.prog 9 RH b n D) (hb : p b) (hs : Same p W W') : W'.ownsMap Tryz.prog 9 RH b n D := by
  have hl := h.lt
  obtain ⟨es, clock, hb', r⟩ := h
  exact ⟨es, clock, (hs.2 b hl hb).trans hb', r⟩
mutual
theorem IO.mono : ∀ {p q : Nat → Prop} {W : World} {t : J} {v : Value}, IO p W t v → (∀ x, p x → q x) → IO q W t v
  | p, q, W, .mk k n s ns is, v, h, H => by
    rcases h with h | h | h | h | ⟨e, A, c, vs, e2, h1, h2, h3⟩ | ⟨e, b, vs, e2, h1, h2, h3⟩
    · exact .inl h
    · exact .inr (.inl h)
    · exact .inr (.inr (.inl h))
    · exact .inr (.inr (.inr (.inl h)))
    · exact .inr (.inr (.inr (.inr (.inl ⟨e, A, c, vs, e2, h1, fun b hb => H b (h2 b hb), IOs.mono h3 (fun x hx => ⟨H x hx.1, hx.2⟩)⟩))))
    · exact .inr (.inr (.inr (.inr (.inr ⟨e, b, vs, e2, H b h1, h2, IOs.mono h3 (fun x hx => ⟨H x hx.1, hx.2⟩)⟩))))
theorem IOs.mono : ∀ {p q : Nat → Prop} {W : World} {ts : List J} {vs : List Value}, IOs p W ts vs → (∀ x, p x → q x) → IOs q W ts vs
  | p, q, W, [], vs, h, H => h
  | p, q, W, t :: r, vs, h, H => by
    obtain ⟨x, vs', q0, e, h1, h2⟩ := h
    exact ⟨x, vs', q0, e, IO.mono h1 (fun x hx => ⟨H x hx.1, hx.2⟩), IOs.mono h2 (fun x hx => ⟨H x hx.1, hx.2⟩)⟩
end
mutual
theorem IO.keep : ∀ {p : Nat → Prop} {W W' : World} {t : J} {v : Value}, IO p W t v → Same p W W' → IO p W' t v
  | p, W, W', .mk k n s ns is, v, h, H => by
    rcases h with h | h | h | h | ⟨e, A, c, vs, e2, h1, h2, h3⟩ | ⟨e, b, vs, e2, h1, h2, h3⟩
    · exact .inl h
    · exact .inr (.inl h)
    · exact .inr (.inr (.inl h))
    · exact .inr (.inr (.inr (.inl h)))
    · exact .inr (.inr (.inr (.inr (.inl ⟨e, A, c, vs, e2, row_same h1 h2 H, h2, IOs.keep h3 (H.mono fun x hx => hx.1)⟩))))
    · exact .inr (.inr (.inr (.inr (.inr ⟨e, b, vs, e2, h1, map_same h2 h1 H, IOs.keep h3 (H.mono fun x hx => hx.1)⟩))))
theorem IOs.keep : ∀ {p : Nat → Prop} {W W' : World} {ts : List J} {vs : List Value}, IOs p W ts vs → Same p W W' → IOs p W' ts vs
  | p, W, W', [], vs, h, H => h
  | p, W, W', t :: r, vs, h, H => by
    obtain ⟨x, vs', q0, e, h1, h2⟩ := h
    exact ⟨x, vs', q0, e, IO.keep h1 (H.mono fun x hx => hx.1), IOs.keep h2 (H.mono fun x hx => hx.1)⟩
end
mutual
theorem IO.bound : ∀ {p : Nat → Prop} {W : World} {t : J} {v : Value}, IO p W t v → IO (fun x => p x ∧ x < W.heap.size) W t v
  | p, W, .mk k n s ns is, v, h => by
    rcases h with h | h | h | h | ⟨e, A, c, vs, e2, h1, h2, h3⟩ | ⟨e, b, vs, e2, h1, h2, h3⟩
    · exact .inl h
    · exact .inr (.inl h)
    · exact .inr (.inr (.inl h))
    · exact .inr (.inr (.inr (.inl h)))
    · exact .inr (.inr (.inr (.inr (.inl ⟨e, A, c, vs, e2, h1, fun b hb => ⟨h2 b hb, (h1.lt b hb).2⟩, (IOs.bound h3).mono (fun x hx => ⟨⟨hx.1.1, hx.2⟩, hx.1.2⟩)⟩))))
    · exact .inr (.inr (.inr (.inr (.inr ⟨e, b, vs, e2, ⟨h1, h2.lt⟩, h2, (IOs.bound h3).mono (fun x hx => ⟨⟨hx.1.1, hx.2⟩, hx.1.2⟩)⟩))))
theorem IOs.bound : ∀ {p : Nat → Prop} {W : World} {ts : List J} {vs : List Value}, IOs p W ts vs → IOs (fun x => p x ∧ x < W.heap.size) W ts vs
  | p, W, [], vs, h => h
  | p, W, t :: r, vs, h => by
    obtain ⟨x, vs', q0, e, h1, h2⟩ := h
    exact ⟨x, vs', q0, e, (IO.bound h1).mono (fun x hx => ⟨⟨hx.1.1, hx.2⟩, hx.1.2⟩), (IOs.bound h2).mono (fun x hx => ⟨⟨hx.1.1, hx.2⟩, hx.1.2⟩)⟩
end
section
variable {p q : Nat → Prop} {W W' : World} {t : J} {v : Value} {ts : List J} {vs : List Value}
theorem IO.below (h : IO p W t v) (hb : Below W.heap.size W W') : IO p W' t v := h.keep (.below hb)
theorem IOs.below (h : IOs p W ts vs) (hb : Below W.heap.size W W') : IOs p W' ts vs := h.keep (.below hb)
theorem IOs.len : ∀ {p : Nat → Prop} {ts : List J} {vs : List Value}, IOs p W ts vs → vs.length = ts.length
  | p, [], vs, h => by rw [show vs = [] from h]; rfl
  | p, t :: r, vs, h => by
    obtain ⟨x, vs', q, rfl, _, h2⟩ := h
    simp [IOs.len h2]
theorem IOs.push : ∀ {p q : Nat → Prop} {ts : List J} {vs : List Value}, IOs p W ts vs → IO q W t v → (∀ x, p x → ¬ q x) → IOs (fun x => p x ∨ q x) W (ts ++ [t]) (vs ++ [v])
  | p, q, [], vs, h, hx, H => by
    rw [show vs = [] from h]
    exact ⟨v, [], fun _ => True, rfl, hx.mono (fun x h => ⟨.inr h, trivial⟩), rfl⟩
  | p, q, t' :: r, vs, h, hx, H => by
    obtain ⟨y, vs', q0, rfl, h1, h2⟩ := h
    refine ⟨y, vs' ++ [v], fun x => p x ∧ q0 x, rfl, h1.mono (fun x h => ⟨.inl h.1, h⟩), (IOs.push h2 hx (fun x h => H x h.1)).mono (fun x h => ?_)⟩
    rcases h with h | h
    · exact ⟨.inl h.1, fun h' => h.2 h'.2⟩
    · exact ⟨.inr h, fun h' => H x h'.1 h⟩
end
theorem io_push {B E : Nat} {W W' : World} {v v' u : Value} {ts : List J} {t : J} {vs : List Value} (h : IOs (fun x => B ≤ x ∧ x < E ∧ some x ≠ v.ownBlock) W ts vs) (hu : IO (fun x => E ≤ x) W t u) (hE : ∀ k, v.ownBlock = some k → k < E) (hBE : B ≤ E)
    (hg : W.grownBy W' v.ownBlock) (hat : v'.ownBlock = v.ownBlock ∨ ∃ k, v'.ownBlock = some k ∧ W.heap.size ≤ k) : IOs (fun x => B ≤ x ∧ x < W'.heap.size ∧ some x ≠ v'.ownBlock) W' (ts ++ [t]) (vs ++ [u]) := by
  have h1 := h.bound.keep (.grown hg (fun b hb => hb.1.2.2))
  have h2 := hu.bound.keep (.grown hg (fun b hb e => by have := hE b e.symm; have := hb.1; omega))
  have hs := hg.size
  refine (h1.push h2 (fun x hx hy => by have := hx.1.2.1; have := hy.1; omega)).mono (fun x hx => ?_)
  rcases hx with hx | hx
  · refine ⟨hx.1.1, by have := hx.2; omega, fun e => ?_⟩
    rcases hat with ha | ⟨k, hk, hk2⟩
    · exact hx.1.2.2 (e.trans ha)
    · rw [hk] at e; injection e with e; have := hx.2; omega
  · refine ⟨Nat.le_trans hBE hx.1, by have := hx.2; omega, fun e => ?_⟩
    rcases hat with ha | ⟨k, hk, hk2⟩
    · have := hE x (e.trans ha).symm; have := hx.1; omega
    · rw [hk] at e; injection e with e; have := hx.2; omega
theorem io_map {B E : Nat} {W W' : World} {u : Value} {ts : List J} {t : J} {vs : List Value} {b : Nat} (h : IOs (fun x => B ≤ x ∧ x < E ∧ x ≠ b) W ts vs) (hu : IO (fun x => E ≤ x) W t u) (hE : b < E) (hBE : B ≤ E)
    (hg : W.grownBy W' (some b)) : IOs (fun x => B ≤ x ∧ x < W'.heap.size ∧ x ≠ b) W' (ts ++ [t]) (vs ++ [u]) := by
  have h1 := h.bound.keep (.grown hg (fun x hx e => by injection e with e; exact hx.1.2.2 e))
  have h2 := hu.bound.keep (.grown hg (fun x hx e => by injection e with e; have := hx.1; omega))
  have hs := hg.size
  refine (h1.push h2 (fun x hx hy => by have := hx.1.2.1; have := hy.1; omega)).mono (fun x hx => ?_)
  rcases hx with hx | hx
  · exact ⟨hx.1.1, by have := hx.2; omega, hx.1.2.2⟩
  · exact ⟨Nat.le_trans hBE hx.1, by have := hx.2; omega, fun e => by have := hx.1; omega⟩
theorem vio_step (k0 n0 : Int) (s0 : ByteArray) (ns : List ByteArray) (ts : List J) (IH0 : ∀ t ∈ ts, ∀ (p : Nat → Prop) (v : Value) (w : World), Wg t → NN p w t v → Calls Tryz.prog 20 #[v] w fun e w' => ∃ u, e = .returned u ∧ IO (fun x => w.heap.size ≤ x) w' t u ∧ (u.cells = #[u] ∧ u.oneCell' = true) ∧ Below w.heap.size w w')
    (p : Nat → Prop) (v : Value) (w : World) (hwf : Wg (.mk k0 n0 s0 ns ts)) (hj : NN p w (.mk k0 n0 s0 ns ts) v) : Calls Tryz.prog 20 #[v] w fun e w' => ∃ u, e = .returned u ∧ IO (fun x => w.heap.size ≤ x) w' (.mk k0 n0 s0 ns ts) u ∧ (u.cells = #[u] ∧ u.oneCell' = true) ∧ Below w.heap.size w w' := by
  have IH0 := Lib.hid IH0
  obtain ⟨A, c, A2, c2, hs0, hv0, hN, hI, hH⟩ := hj
  subst hv0
  have HRN0 := Lib.hid hN.1
  have HRI0 := Lib.hid hI.1
  have HH0 := Lib.hid hH
  clear hN hI hH
  have HB0 := Lib.hid ((Below.refl w.heap.size w).alloc (Nat.le_refl _) (.cells #[.int .i64 k0, .int .u64 (nb k0 n0), .string s0, .slice A ns.length c, .slice A2 ts.length c2] 34))
  have hX0 := heap_alloc_new w (.cells #[.int .i64 k0, .int .u64 (nb k0 n0), .string s0, .slice A ns.length c, .slice A2 ts.length c2] 34)
  obtain ⟨y0, y1, y2, y3, y4⟩ := Rv.cells5 hX0
  have HX0 := Lib.hid hX0
  clear hX0
  have hsz : (w.alloc (.cells #[.int .i64 k0, .int .u64 (nb k0 n0), .string s0, .slice A ns.length c, .slice A2 ts.length c2] 34)).heap.size = w.heap.size + 1 := by simp
  rcases hwf with ⟨rfl, rfl, rfl, rfl, rfl⟩ | ⟨rfl, hn, rfl, rfl, rfl⟩ | ⟨rfl, hn1, hn2, rfl, rfl, rfl⟩ | ⟨rfl, rfl, hw, rfl, rfl⟩ | ⟨rfl, rfl, rfl, rfl, hl, hws⟩ | ⟨rfl, rfl, rfl, hl0, hl, hnd, hnm, hws⟩
  · go_enter Tryz.func20, Tryz.ntmps20
    go_wp2
    go_ret
    exact ⟨_, rfl, .inl ⟨rfl, rfl⟩, ⟨rfl, rfl⟩, HB0.out⟩
  · have hnb : nb 1 n0 = n0 := rfl
    rw [hnb] at *
    rcases hn with rfl | rfl
    all_goals
      go_enter Tryz.func20, Tryz.ntmps20
      go_wp2
      go_ret
      exact ⟨_, rfl, .inr (.inl ⟨rfl, rfl⟩), ⟨rfl, rfl⟩, HB0.out⟩
  · have hnb : nb 2 n0 = (jw n0 : Int) := rfl
    rw [hnb] at *
    have hf := f29 (jw n0)
    rw [Int.toNat_natCast] at hf
    go_enter Tryz.func20, Tryz.ntmps20
    go_wp2
    go_ret
    exact ⟨_, rfl, .inr (.inr (.inl ⟨rfl, rfl⟩)), ⟨rfl, rfl⟩, HB0.out⟩
  · go_enter Tryz.func20, Tryz.ntmps20
    go_wp2
    go_ret
    exact ⟨_, rfl, .inr (.inr (.inr (.inl ⟨rfl, rfl⟩))), ⟨rfl, rfl⟩, HB0.out⟩
  · clear HB0 HX0 y0 y1 y2 y3 y4 hsz
    have hsz1 : (w.alloc (.cells #[.int .i64 4, .int .u64 (nb 4 0), .string .empty, .slice A 0 c, .slice A2 ts.length c2] 34)).heap.size = w.heap.size + 1 := by simp
    have HB0 := Lib.hid (((Below.refl w.heap.size w).alloc (Nat.le_refl _) (.cells #[.int .i64 4, .int .u64 (nb 4 0), .string .empty, .slice A 0 c, .slice A2 ts.length c2] 34)).alloc (by simp) (.cells #[] 20))
    have HO0 := Lib.hid (own_empty (w.alloc (.cells #[.int .i64 4, .int .u64 (nb 4 0), .string .empty, .slice A 0 c, .slice A2 ts.length c2] 34)))
    rw [hsz1] at HO0
    obtain ⟨y0, y1, y2, y3, y4⟩ := Rv.cells5 (heap_alloc_new w (.cells #[.int .i64 4, .int .u64 (nb 4 0), .string .empty, .slice A 0 c, .slice A2 ts.length c2] 34))
    have HWS := Lib.hid hws
    go_enter Tryz.func20, Tryz.ntmps20
    go_upto_region 11 with fail
    clear y0 y1 y2 y3 y4
    generalize (w.alloc (.cells #[.int .i64 4, .int .u64 (nb 4 0), .string .empty, .slice A 0 c, .slice A2 ts.length c2] 34)).alloc (.cells #[] 20) = w1 at *
    go_loopw [3, 5, 34] (fun v3 v5 v34 wr => ∃ (i : Nat) (A3 : Option Addr) (c3 : Nat) (vs : List Value), v34 = .int .i64 (i : Int) ∧ i ≤ ts.length ∧ v3 = .slice A3 i c3 ∧ Hid (wr.ownsRow (w.heap.size + 1) 20 1 (.slice A3 i c3) i vs) ∧ Hid (IOs (fun x => w.heap.size + 1 ≤ x ∧ x < wr.heap.size ∧ some x ≠ (Value.slice A3 i c3).ownBlock) wr (ts.take i) vs) ∧ Hid (Below w.heap.size w wr)) (fun _ _ v34 _ => (ts.length - (intOf v34)).toNat)
    case atStart => exact ⟨0, _, _, [], rfl, Nat.zero_le _, rfl, HO0, Lib.hid rfl, HB0⟩
    case round =>
      obtain ⟨i, A3, c3, vs, rfl, hi, rfl, HO, HV, HB⟩ := hrel
      clear HO0 HB0
      by_cases hlt : i < ts.length
      · obtain ⟨bi, oi, A1, c1, A3', c3', e2, hbi, x0, x1, x2, x3, x4, hjt⟩ := node_item HRI0.out HH0.out rfl i hlt
        subst e2
        have HTI := Lib.hid (List.take_append_getElem hlt)
        have IH := Lib.hid (fun (W : World) (hb : Below w.heap.size w W) => IH0.out ts[i] (List.getElem_mem hlt) p _ W (hws.get _ (List.getElem_mem hlt)) (hjt.below hb))
        have x0 := (HB.out.cell hbi).trans x0
        have x1 := (HB.out.cell (p := ⟨bi, oi + i * 5 + 1, none⟩) hbi).trans x1
        have x2 := (HB.out.cell (p := ⟨bi, oi + i * 5 + 2, none⟩) hbi).trans x2
        have x3 := (HB.out.cell (p := ⟨bi, oi + i * 5 + 3, none⟩) hbi).trans x3
        have x4 := (HB.out.cell (p := ⟨bi, oi + i * 5 + 4, none⟩) hbi).trans x4
        clear hjt
        generalize ts[i] = ti at *
        generalize ti.k = kk1 at IH x0 x1
        generalize nb kk1 ti.n = nn1 at IH x1
        generalize ti.s = ss1 at IH x2
        generalize ti.ns.length = l1 at IH x3
        generalize ti.is.length = l3 at IH x4
        go_upto_region 13 with fail
        clear x0 x1 x2 x3 x4
        have HBW := Lib.hid (HB.out.alloc HB.out.size (.cells #[.int .i64 kk1, .int .u64 nn1, .string ss1, .slice A1 l1 c1, .slice A3' l3 c3'] 34))
        have HAL := Lib.hid ((Below.refl wr.heap.size wr).alloc (Nat.le_refl _) (.cells #[.int .i64 kk1, .int .u64 nn1, .string ss1, .slice A1 l1 c1, .slice A3' l3 c3'] 34))
        obtain ⟨x0, x1, x2, x3, x4⟩ := Rv.cells5 (heap_alloc_new wr (.cells #[.int .i64 kk1, .int .u64 nn1, .string ss1, .slice A1 l1 c1, .slice A3' l3 c3'] 34))
        have HSZ3 := Lib.hid (show wr.heap.size + 1 = (wr.alloc (.cells #[.int .i64 kk1, .int .u64 nn1, .string ss1, .slice A1 l1 c1, .slice A3' l3 c3'] 34)).heap.size by simp)
        generalize wr.alloc (.cells #[.int .i64 kk1, .int .u64 nn1, .string ss1, .slice A1 l1 c1, .slice A3' l3 c3'] 34) = w3 at *
        have HO3 := Lib.hid (own_below HO.out HAL.out)
        have HV3 := Lib.hid ((HV.out.below HAL.out).mono (q := fun x => w.heap.size + 1 ≤ x ∧ x < w3.heap.size ∧ some x ≠ (Value.slice A3 i c3).ownBlock) (fun x hx => ⟨hx.1, Nat.lt_of_lt_of_le hx.2.1 HAL.out.size, hx.2.2⟩))
        have HOL := Lib.hid (fun k hk => (HO3.out.lt k hk).2)
        have hB3 : w.heap.size + 1 ≤ w3.heap.size := by
          rw [← HSZ3.out]
          have := HB.out.size
          omega
        clear HO HV
        go_wp2_with (first
          | (go_at_call 20; (with_reducible refine (IH.out w3 HBW.out).mono ?_); rintro e w5 ⟨u, rfl, hu, ⟨hu2, hu1⟩, hb⟩; have hu3 := hu2; unfold Value.cells at hu3; have HU := Lib.hid hu; have HO5 := Lib.hid (own_below HO3.out hb); have HV5 := Lib.hid (HV3.out.below hb); have HB5 := Lib.hid (HBW.out.trans (hb.mono HBW.out.size)); have hs5 := hb.size; clear hu hb)
          | (at_builtin; (refine app1 (w0 := w5) (w.heap.size + 1) rfl (.tmp 38) (.tmp 41) 74 20 .nilIface 1 16 rfl Tryz.underlying74 info20 rfl (by omega) (by omega) _ _ _ _ rfl rfl rfl (by intro x hx; rw [List.mem_singleton.1 hx]; exact hu1) HO5.out (Below.refl _ _) (by omega) (by omega) ?_; intro v7 w7 hown7 _ hg7 hat7; obtain ⟨A7, c7, rfl, _⟩ := (Rd.of_own hown7).shape; have HV7 := Lib.hid (io_push HV5.out HU.out HOL.out hB3 hg7 hat7); have HB7 := Lib.hid (HB5.out.grown hg7 HB5.out.size (fun k hk => by have := (HO5.out.lt k hk).1; omega)); have HO7 := Lib.hid hown7; clear hown7 hg7 hat7)))
        go_roundw
        case rel => exact ⟨i + 1, A7, c7, vs ++ [u], by go_num, by omega, rfl, HO7, Lib.hid (by rw [← HTI.out]; exact HV7.out), HB7⟩
        case measure => simp [intOf]; omega
      · obtain rfl : i = ts.length := by omega
        rw [List.take_length] at HV
        go_wp2
        go_ret
        exact ⟨_, rfl, .inr (.inr (.inr (.inr (.inl ⟨rfl, A3, c3, vs, rfl, row_base HO.out 0 (fun k hk => Nat.zero_le _), (fun k hk => by have := (HO.out.lt k hk).1; omega), HV.out.mono (fun x hx => ⟨by have := hx.1; omega, hx.2.2⟩)⟩)))), ⟨rfl, rfl⟩, HB.out⟩
  · clear HB0 HX0 y0 y1 y2 y3 y4 hsz
    have hsz1 : (w.alloc (.cells #[.int .i64 5, .int .u64 (nb 5 0), .string .empty, .slice A ns.length c, .slice A2 ts.length c2] 34)).heap.size = w.heap.size + 1 := by simp
    have HB0 := Lib.hid (((Below.refl w.heap.size w).alloc (Nat.le_refl _) (.cells #[.int .i64 5, .int .u64 (nb 5 0), .string .empty, .slice A ns.length c, .slice A2 ts.length c2] 34)).alloc (by simp) (.map #[] 0))
    have HM0 := Lib.hid (World.ownsMap_made (H := Value) (w.alloc (.cells #[.int .i64 5, .int .u64 (nb 5 0), .string .empty, .slice A ns.length c, .slice A2 ts.length c2] 34)) Tryz.prog 9 RH)
    rw [hsz1] at HM0
    have HX0 := Lib.hid (show ((w.alloc (.cells #[.int .i64 5, .int .u64 (nb 5 0), .string .empty, .slice A ns.length c, .slice A2 ts.length c2] 34)).alloc (.map #[] 0)).heap[w.heap.size]? = some (.cells #[.int .i64 5, .int .u64 (nb 5 0), .string .empty, .slice A ns.length c, .slice A2 ts.length c2] 34 (0, 0)) from by
      have h1 := heap_alloc_new w (.cells #[.int .i64 5, .int .u64 (nb 5 0), .string .empty, .slice A ns.length c, .slice A2 ts.length c2] 34)
      have hb : Below (w.alloc (.cells #[.int .i64 5, .int .u64 (nb 5 0), .string .empty, .slice A ns.length c, .slice A2 ts.length c2] 34)).heap.size (w.alloc (.cells #[.int .i64 5, .int .u64 (nb 5 0), .string .empty, .slice A ns.length c, .slice A2 ts.length c2] 34)) ((w.alloc (.cells #[.int .i64 5, .int .u64 (nb 5 0), .string .empty, .slice A ns.length c, .slice A2 ts.length c2] 34)).alloc (.map #[] 0)) := (Below.refl _ _).alloc (Nat.le_refl _) _
      exact (hb.block _ (by simp)).trans h1)
    have hmm := @run_makeMap Tryz.prog
    have HL0 := Lib.hid hl0
    have HNM := Lib.hid hnm
    clear hl0 hnm hnd
    obtain ⟨y0, y1, y2, y3, y4⟩ := Rv.cells5 HX0.out
    obtain ⟨y0', y1', y2', y3', y4'⟩ := Rv.cells5 (heap_alloc_new w (.cells #[.int .i64 5, .int .u64 (nb 5 0), .string .empty, .slice A ns.length c, .slice A2 ts.length c2] 34))
    have HWS := Lib.hid hws
    go_enter Tryz.func20, Tryz.ntmps20
    go_upto_region 19 with fail
    clear y0 y1 y2 y3 y4 y0' y1' y2' y3' y4' hmm
    generalize (w.alloc (.cells #[.int .i64 5, .int .u64 (nb 5 0), .string .empty, .slice A ns.length c, .slice A2 ts.length c2] 34)).alloc (.map #[] 0) = w1 at *
    go_loopw [7, 8, 52] (fun v7 v8 v52 wr => ∃ (i : Nat) (vs : List Value), v52 = .int .i64 (i : Int) ∧ i ≤ ts.length ∧ Hid (wr.ownsMap Tryz.prog 9 RH (w.heap.size + 1) i (dat (ns.take i) vs)) ∧ Hid (IOs (fun x => w.heap.size + 1 ≤ x ∧ x < wr.heap.size ∧ x ≠ w.heap.size + 1) wr (ts.take i) vs) ∧ Hid (Below w.heap.size w wr) ∧ Hid (wr.heap[w.heap.size]? = some (.cells #[.int .i64 5, .int .u64 (nb 5 0), .string .empty, .slice A ns.length c, .slice A2 ts.length c2] 34 (0, 0)))) (fun _ _ v52 _ => (ts.length - (intOf v52)).toNat)
    case atStart => exact ⟨0, [], rfl, Nat.zero_le _, HM0, Lib.hid rfl, HB0, HX0⟩
    case round =>
      obtain ⟨i, vs, rfl, hi, HM, HV, HB, HX⟩ := hrel
      clear HM0 HB0 HX0
      by_cases hlt : i < ts.length
      · have hl0 := HL0.out
        have hx0 : (strs ns)[i]? = some (.string (ns.getD i .empty)) := by
          rw [List.getElem?_map, List.getElem?_eq_getElem (by omega : i < ns.length), List.getD_eq_getElem?_getD, List.getElem?_eq_getElem (by omega : i < ns.length)]
          rfl
        obtain ⟨bn, on, cn, hv, _, _, hbn, hcn⟩ := HRN0.out.open (by omega)
        injection hv with e1 _ e3
        subst e1 e3
        have xn := (HB.out.cell (p := ⟨bn, on + i, none⟩) hbn).trans (hcn i _ hx0)
        have HTN := Lib.hid (show ns.take i ++ [ns.getD i .empty] = ns.take (i + 1) by
          rw [List.getD_eq_getElem?_getD, List.getElem?_eq_getElem (by omega : i < ns.length)]
          exact List.take_append_getElem (by omega))
        have hwd := HNM.out (ns.getD i .empty) (by
          rw [List.getD_eq_getElem?_getD, List.getElem?_eq_getElem (by omega : i < ns.length)]
          exact List.getElem_mem _)
        have hkey := WideMaps.keyOf_string_mk (P := Tryz.prog) Tryz.underlying9 (s := ns.getD i .empty) (by have := hwd.1.1; unfold maxLen; omega)
        clear hx0 hcn hwd
        have hin : (i : Int) < ns.length := by omega
        clear hl0
        generalize ns.getD i .empty = nm at *
        have HVL := Lib.hid HV.out.len
        obtain ⟨bi, oi, A1, c1, A3', c3', e2, hbi, x0, x1, x2, x3, x4, hjt⟩ := node_item HRI0.out HH0.out rfl i hlt
        subst e2
        have HTI := Lib.hid (List.take_append_getElem hlt)
        have IH := Lib.hid (fun (W : World) (hb : Below w.heap.size w W) => IH0.out ts[i] (List.getElem_mem hlt) p _ W (hws.get _ (List.getElem_mem hlt)) (hjt.below hb))
        have x0 := (HB.out.cell hbi).trans x0
        have x1 := (HB.out.cell (p := ⟨bi, oi + i * 5 + 1, none⟩) hbi).trans x1
        have x2 := (HB.out.cell (p := ⟨bi, oi + i * 5 + 2, none⟩) hbi).trans x2
        have x3 := (HB.out.cell (p := ⟨bi, oi + i * 5 + 3, none⟩) hbi).trans x3
        have x4 := (HB.out.cell (p := ⟨bi, oi + i * 5 + 4, none⟩) hbi).trans x4
        clear hjt
        generalize ts[i] = ti at *
        generalize ti.k = kk1 at IH x0 x1
        generalize nb kk1 ti.n = nn1 at IH x1
        generalize ti.s = ss1 at IH x2
        generalize ti.ns.length = l1 at IH x3
        generalize ti.is.length = l3 at IH x4
        obtain ⟨y0, y1, y2, y3, y4⟩ := Rv.cells5 HX.out
        have hmw := Rv.lt_of_blk HX.out
        have hml := HM.out.lt
        go_wp2_with (first
          | (go_at_call 20; (with_reducible refine (IH.out wr HB.out).mono ?_); rintro e w5 ⟨u, rfl, hu, hu1, hb⟩; have HU := Lib.hid hu; have HM5 := Lib.hid (map_below HM.out hb); have HV5 := Lib.hid (HV.out.below hb); have HB5 := Lib.hid (HB.out.trans (hb.mono HB.out.size)); have HX5 := Lib.hid ((hb.block _ hmw).trans HX.out); clear hu hb)
          | (at_mapUpdate; refine wpList_mapUpdate_own _ rfl _ _ _ 75 rfl 9 20 law9 Tryz.underlying75 RH (w.heap.size + 1) i _ rfl HM5.out (by unfold maxLen; omega) _ _ _ rfl rfl hkey _ [] rfl ?_; intro w7 hm7 hg7; have HM7 := Lib.hid hm7; have HV7 := Lib.hid (io_map HV5.out HU.out hml (by omega) hg7); have HB7 := Lib.hid (HB5.out.grown hg7 HB5.out.size (fun k hk => by injection hk with hk; omega)); have HX7 := Lib.hid (blk_grown HX5.out hg7 (fun e => by injection e with e; omega)); clear hm7 hg7))
        go_roundw
        case rel => exact ⟨i + 1, vs ++ [u], by go_num, by omega, Lib.hid (by
          rw [← HTN.out, dat_push (by rw [HVL.out, List.length_take, List.length_take, HL0.out])]
          exact HM7.out), Lib.hid (by rw [← HTI.out]; exact HV7.out), HB7, HX7⟩
        case measure => simp [intOf]; omega
      · obtain rfl : i = ts.length := by omega
        rw [List.take_length] at HV
        rw [← HL0.out, List.take_length] at HM
        have hin : ¬ ((ts.length : Int) < ns.length) := by have := HL0.out; omega
        go_wp2
        go_ret
        exact ⟨_, rfl, .inr (.inr (.inr (.inr (.inr ⟨rfl, w.heap.size + 1, vs, rfl, Nat.le_succ _, HM.out, HV.out.mono (fun x hx => ⟨by have := hx.1; omega, hx.2.2⟩)⟩)))), ⟨rfl, rfl⟩, HB.out⟩
theorem vio_any (t : J) (p : Nat → Prop) (v : Value) (w : World) (hwf : Wg t) (hj : NN p w t v) : Calls Tryz.prog 20 #[v] w fun e w' => ∃ u, e = .returned u ∧ IO (fun x => w.heap.size ≤ x) w' t u ∧ (u.cells = #[u] ∧ u.oneCell' = true) ∧ Below w.heap.size w w' :=
  match t, hwf, hj with
  | .mk k0 n0 s0 ns ts, hwf, hj => vio_step k0 n0 s0 ns ts (fun t ht p v w h1 h2 => vio_any t p v w h1 h2) p v w hwf hj
termination_by SizeOf.sizeOf t
decreasing_by
  have := List.sizeOf_lt_of_mem ht
  simp only [J.mk.sizeOf_spec]
  omega
end Go.Proofs.YtmelgankbegjaaaGreatDoor.Js

set_option linter.unusedVariables false
set_option linter.unusedSimpArgs false
set_option maxRecDepth 100000
set_option maxHeartbeats 8000000
namespace Go.Proofs.YtmelgankbegjaaaGreatDoor.Js
open Go.RowKit Go.Proofs.YtmelgankbegjaaaGreatDoor.B

theorem cut_down (neg : Bool) (m i : Nat) (h : m ≠ 0) : Ieee.Toward.down.cut neg (m * 2 ^ i) i = m := by
  unfold Ieee.Toward.cut
  rw [F.log2_mul m i h, show min i (m.log2 + i + 2) = i by omega]
  simp only [F.shl, Nat.one_mul]
  rw [Nat.mul_div_cancel _ (Nat.two_pow_pos i), Nat.mul_mod_left]
  simp
theorem floor_read (n : Int) (h : n.natAbs < 9007199254740992) : (F.dbl.read (jw n)).integral .down = .number (decide (n < 0)) n.natAbs 0 := by
  by_cases h0 : n = 0
  · subst h0
    have h1 := F.read_norm false 0 0 (by omega) (by omega) (.inl rfl)
    have h2 : F.dbl.read (jw 0) = .number false 0 ((0 : Nat) - 1074) := h1
    rw [h2]
    unfold Ieee.Datum.integral Ieee.Toward.cut
    simp
  · rw [jw_read n h0 h]
    have hl : 52 - n.natAbs.log2 ≤ 52 := Nat.sub_le _ _
    unfold Ieee.Datum.integral
    simp only
    rw [show (((1074 - (52 - n.natAbs.log2) : Nat) : Int) - 1074).toNat = 0 by omega, show (-(((1074 - (52 - n.natAbs.log2) : Nat) : Int) - 1074)).toNat = 52 - n.natAbs.log2 by omega, Nat.shiftLeft_zero, cut_down _ _ _ (by omega)]
/-- What math.Floor gives at a whole number. -/
def fw (n : Int) : Nat := F.dbl.write (.number (decide (n < 0)) n.natAbs 0)
theorem fw_FI (n : Int) (h : n.natAbs < 9007199254740992) : F.FI (fw n) n := by
  have h1 := F.write_k (decide (n < 0)) n.natAbs 1074 h (by decide) F.toNat_1074 (by decide)
  unfold F.FI
  have h2 := F.sg_scale (decide (n < 0)) n.natAbs 1074
  rw [F.natAbs_sg] at h2
  rw [← h2]
  exact h1
@[local go_sem] theorem as4_4 (v : Value) (W : World) : (Instr.typeAssert (.iface 4 v) 20 4 true).run Tryz.prog W = .ok (.tuple #[v, .bool true]) W := by kernel_rfl
@[local go_sem] theorem as4_2 (v : Value) (W : World) : (Instr.typeAssert (.iface 4 v) 20 2 true).run Tryz.prog W = .ok (.tuple #[.int .i64 0, .bool false]) W := by kernel_rfl
@[local go_sem] theorem as4_29 (v : Value) (W : World) : (Instr.typeAssert (.iface 4 v) 20 31 true).run Tryz.prog W = .ok (.tuple #[.int .u64 0, .bool false]) W := by kernel_rfl
@[local go_sem] theorem as4_65 (v : Value) (W : World) : (Instr.typeAssert (.iface 4 v) 20 72 true).run Tryz.prog W = .ok (.tuple #[.float .f64 0, .bool false]) W := by kernel_rfl
@[local go_sem] theorem as4_9 (v : Value) (W : World) : (Instr.typeAssert (.iface 4 v) 20 9 true).run Tryz.prog W = .ok (.tuple #[.string ⟨#[]⟩, .bool false]) W := by kernel_rfl
@[local go_sem] theorem as4_67 (v : Value) (W : World) : (Instr.typeAssert (.iface 4 v) 20 74 true).run Tryz.prog W = .ok (.tuple #[.slice none 0 0, .bool false]) W := by kernel_rfl
@[local go_sem] theorem as4_68 (v : Value) (W : World) : (Instr.typeAssert (.iface 4 v) 20 75 true).run Tryz.prog W = .ok (.tuple #[.map none, .bool false]) W := by kernel_rfl
@[local go_sem] theorem as65_4 (v : Value) (W : World) : (Instr.typeAssert (.iface 72 v) 20 4 true).run Tryz.prog W = .ok (.tuple #[.bool false, .bool false]) W := by kernel_rfl
@[local go_sem] theorem as65_2 (v : Value) (W : World) : (Instr.typeAssert (.iface 72 v) 20 2 true).run Tryz.prog W = .ok (.tuple #[.int .i64 0, .bool false]) W := by kernel_rfl
@[local go_sem] theorem as65_29 (v : Value) (W : World) : (Instr.typeAssert (.iface 72 v) 20 31 true).run Tryz.prog W = .ok (.tuple #[.int .u64 0, .bool false]) W := by kernel_rfl
@[local go_sem] theorem as65_65 (v : Value) (W : World) : (Instr.typeAssert (.iface 72 v) 20 72 true).run Tryz.prog W = .ok (.tuple #[v, .bool true]) W := by kernel_rfl
@[local go_sem] theorem as65_9 (v : Value) (W : World) : (Instr.typeAssert (.iface 72 v) 20 9 true).run Tryz.prog W = .ok (.tuple #[.string ⟨#[]⟩, .bool false]) W := by kernel_rfl
@[local go_sem] theorem as65_67 (v : Value) (W : World) : (Instr.typeAssert (.iface 72 v) 20 74 true).run Tryz.prog W = .ok (.tuple #[.slice none 0 0, .bool false]) W := by kernel_rfl
@[local go_sem] theorem as65_68 (v : Value) (W : World) : (Instr.typeAssert (.iface 72 v) 20 75 true).run Tryz.prog W = .ok (.tuple #[.map none, .bool false]) W := by kernel_rfl
@[local go_sem] theorem as9_4 (v : Value) (W : World) : (Instr.typeAssert (.iface 9 v) 20 4 true).run Tryz.prog W = .ok (.tuple #[.bool false, .bool false]) W := by kernel_rfl
@[local go_sem] theorem as9_2 (v : Value) (W : World) : (Instr.typeAssert (.iface 9 v) 20 2 true).run Tryz.prog W = .ok (.tuple #[.int .i64 0, .bool false]) W := by kernel_rfl
@[local go_sem] theorem as9_29 (v : Value) (W : World) : (Instr.typeAssert (.iface 9 v) 20 31 true).run Tryz.prog W = .ok (.tuple #[.int .u64 0, .bool false]) W := by kernel_rfl
@[local go_sem] theorem as9_65 (v : Value) (W : World) : (Instr.typeAssert (.iface 9 v) 20 72 true).run Tryz.prog W = .ok (.tuple #[.float .f64 0, .bool false]) W := by kernel_rfl
@[local go_sem] theorem as9_9 (v : Value) (W : World) : (Instr.typeAssert (.iface 9 v) 20 9 true).run Tryz.prog W = .ok (.tuple #[v, .bool true]) W := by kernel_rfl
@[local go_sem] theorem as9_67 (v : Value) (W : World) : (Instr.typeAssert (.iface 9 v) 20 74 true).run Tryz.prog W = .ok (.tuple #[.slice none 0 0, .bool false]) W := by kernel_rfl
@[local go_sem] theorem as9_68 (v : Value) (W : World) : (Instr.typeAssert (.iface 9 v) 20 75 true).run Tryz.prog W = .ok (.tuple #[.map none, .bool false]) W := by kernel_rfl
@[local go_sem] theorem as67_4 (v : Value) (W : World) : (Instr.typeAssert (.iface 74 v) 20 4 true).run Tryz.prog W = .ok (.tuple #[.bool false, .bool false]) W := by kernel_rfl
@[local go_sem] theorem as67_2 (v : Value) (W : World) : (Instr.typeAssert (.iface 74 v) 20 2 true).run Tryz.prog W = .ok (.tuple #[.int .i64 0, .bool false]) W := by kernel_rfl
@[local go_sem] theorem as67_29 (v : Value) (W : World) : (Instr.typeAssert (.iface 74 v) 20 31 true).run Tryz.prog W = .ok (.tuple #[.int .u64 0, .bool false]) W := by kernel_rfl
@[local go_sem] theorem as67_65 (v : Value) (W : World) : (Instr.typeAssert (.iface 74 v) 20 72 true).run Tryz.prog W = .ok (.tuple #[.float .f64 0, .bool false]) W := by kernel_rfl
@[local go_sem] theorem as67_9 (v : Value) (W : World) : (Instr.typeAssert (.iface 74 v) 20 9 true).run Tryz.prog W = .ok (.tuple #[.string ⟨#[]⟩, .bool false]) W := by kernel_rfl
@[local go_sem] theorem as67_67 (v : Value) (W : World) : (Instr.typeAssert (.iface 74 v) 20 74 true).run Tryz.prog W = .ok (.tuple #[v, .bool true]) W := by kernel_rfl
@[local go_sem] theorem as67_68 (v : Value) (W : World) : (Instr.typeAssert (.iface 74 v) 20 75 true).run Tryz.prog W = .ok (.tuple #[.map none, .bool false]) W := by kernel_rfl
@[local go_sem] theorem as68_4 (v : Value) (W : World) : (Instr.typeAssert (.iface 75 v) 20 4 true).run Tryz.prog W = .ok (.tuple #[.bool false, .bool false]) W := by kernel_rfl
@[local go_sem] theorem as68_2 (v : Value) (W : World) : (Instr.typeAssert (.iface 75 v) 20 2 true).run Tryz.prog W = .ok (.tuple #[.int .i64 0, .bool false]) W := by kernel_rfl
@[local go_sem] theorem as68_29 (v : Value) (W : World) : (Instr.typeAssert (.iface 75 v) 20 31 true).run Tryz.prog W = .ok (.tuple #[.int .u64 0, .bool false]) W := by kernel_rfl
@[local go_sem] theorem as68_65 (v : Value) (W : World) : (Instr.typeAssert (.iface 75 v) 20 72 true).run Tryz.prog W = .ok (.tuple #[.float .f64 0, .bool false]) W := by kernel_rfl
@[local go_sem] theorem as68_9 (v : Value) (W : World) : (Instr.typeAssert (.iface 75 v) 20 9 true).run Tryz.prog W = .ok (.tuple #[.string ⟨#[]⟩, .bool false]) W := by kernel_rfl
@[local go_sem] theorem as68_67 (v : Value) (W : World) : (Instr.typeAssert (.iface 75 v) 20 74 true).run Tryz.prog W = .ok (.tuple #[.slice none 0 0, .bool false]) W := by kernel_rfl
@[local go_sem] theorem as68_68 (v : Value) (W : World) : (Instr.typeAssert (.iface 75 v) 20 75 true).run Tryz.prog W = .ok (.tuple #[v, .bool true]) W := by kernel_rfl
/-- The names of the types. -/
def tyS (k : Int) : ByteArray := if k = 0 then ⟨#[78, 85, 76, 76]⟩ else if k = 1 then ⟨#[66, 79, 79, 76, 69, 65, 78]⟩ else if k = 2 then ⟨#[73, 78, 84, 69, 71, 69, 82]⟩ else if k = 3 then ⟨#[83, 84, 82, 73, 78, 71]⟩ else if k = 4 then ⟨#[65, 82, 82, 65, 89]⟩ else ⟨#[79, 66, 74, 69, 67, 84]⟩
theorem two32 : F.FI 4751297606875873280 4294967296 := F.of_int 4294967296 (by decide)
end Go.Proofs.YtmelgankbegjaaaGreatDoor.Js

set_option linter.unusedVariables false
set_option linter.unusedSimpArgs false
set_option maxRecDepth 100000
set_option maxHeartbeats 8000000
namespace Go.Proofs.YtmelgankbegjaaaGreatDoor.Js
open Go.RowKit Go.Proofs.YtmelgankbegjaaaGreatDoor.B

@[local go_sem] theorem at4_67 (v : Value) (W : World) : (Instr.typeAssert (.iface 4 v) 20 74 true).run Tryz.prog W = .ok (.tuple #[.slice none 0 0, .bool false]) W := by kernel_rfl
@[local go_sem] theorem at4_68 (v : Value) (W : World) : (Instr.typeAssert (.iface 4 v) 20 75 true).run Tryz.prog W = .ok (.tuple #[.map none, .bool false]) W := by kernel_rfl
@[local go_sem] theorem at65_67 (v : Value) (W : World) : (Instr.typeAssert (.iface 72 v) 20 74 true).run Tryz.prog W = .ok (.tuple #[.slice none 0 0, .bool false]) W := by kernel_rfl
@[local go_sem] theorem at65_68 (v : Value) (W : World) : (Instr.typeAssert (.iface 72 v) 20 75 true).run Tryz.prog W = .ok (.tuple #[.map none, .bool false]) W := by kernel_rfl
@[local go_sem] theorem at9_67 (v : Value) (W : World) : (Instr.typeAssert (.iface 9 v) 20 74 true).run Tryz.prog W = .ok (.tuple #[.slice none 0 0, .bool false]) W := by kernel_rfl
@[local go_sem] theorem at9_68 (v : Value) (W : World) : (Instr.typeAssert (.iface 9 v) 20 75 true).run Tryz.prog W = .ok (.tuple #[.map none, .bool false]) W := by kernel_rfl
@[local go_sem] theorem at67_67 (v : Value) (W : World) : (Instr.typeAssert (.iface 74 v) 20 74 true).run Tryz.prog W = .ok (.tuple #[v, .bool true]) W := by kernel_rfl
@[local go_sem] theorem at67_68 (v : Value) (W : World) : (Instr.typeAssert (.iface 74 v) 20 75 true).run Tryz.prog W = .ok (.tuple #[.map none, .bool false]) W := by kernel_rfl
@[local go_sem] theorem at68_67 (v : Value) (W : World) : (Instr.typeAssert (.iface 75 v) 20 74 true).run Tryz.prog W = .ok (.tuple #[.slice none 0 0, .bool false]) W := by kernel_rfl
@[local go_sem] theorem at68_68 (v : Value) (W : World) : (Instr.typeAssert (.iface 75 v) 20 75 true).run Tryz.prog W = .ok (.tuple #[v, .bool true]) W := by kernel_rfl
@[local go_sem] theorem atn_67 (W : World) : (Instr.typeAssert .nilIface 20 74 true).run Tryz.prog W = .ok (.tuple #[.slice none 0 0, .bool false]) W := by kernel_rfl
@[local go_sem] theorem atn_68 (W : World) : (Instr.typeAssert .nilIface 20 75 true).run Tryz.prog W = .ok (.tuple #[.map none, .bool false]) W := by kernel_rfl
@[local go_sem] theorem ne4_65 (u v : Value) (W : World) : (binOp .eql 20 (.iface 4 u) (.iface 72 v)).run Tryz.prog W = .ok (.bool false) W := run_eql_iface_types 4 65 u v Tryz.underlying20 (by decide) W
@[local go_sem] theorem ne4_9 (u v : Value) (W : World) : (binOp .eql 20 (.iface 4 u) (.iface 9 v)).run Tryz.prog W = .ok (.bool false) W := run_eql_iface_types 4 9 u v Tryz.underlying20 (by decide) W
@[local go_sem] theorem ne4_67 (u v : Value) (W : World) : (binOp .eql 20 (.iface 4 u) (.iface 74 v)).run Tryz.prog W = .ok (.bool false) W := run_eql_iface_types 4 67 u v Tryz.underlying20 (by decide) W
@[local go_sem] theorem ne4_68 (u v : Value) (W : World) : (binOp .eql 20 (.iface 4 u) (.iface 75 v)).run Tryz.prog W = .ok (.bool false) W := run_eql_iface_types 4 68 u v Tryz.underlying20 (by decide) W
@[local go_sem] theorem nl_4 (v : Value) (W : World) : (binOp .eql 20 .nilIface (.iface 4 v)).run Tryz.prog W = .ok (.bool false) W := by kernel_rfl
@[local go_sem] theorem ne65_4 (u v : Value) (W : World) : (binOp .eql 20 (.iface 72 u) (.iface 4 v)).run Tryz.prog W = .ok (.bool false) W := run_eql_iface_types 65 4 u v Tryz.underlying20 (by decide) W
@[local go_sem] theorem ne65_9 (u v : Value) (W : World) : (binOp .eql 20 (.iface 72 u) (.iface 9 v)).run Tryz.prog W = .ok (.bool false) W := run_eql_iface_types 65 9 u v Tryz.underlying20 (by decide) W
@[local go_sem] theorem ne65_67 (u v : Value) (W : World) : (binOp .eql 20 (.iface 72 u) (.iface 74 v)).run Tryz.prog W = .ok (.bool false) W := run_eql_iface_types 65 67 u v Tryz.underlying20 (by decide) W
@[local go_sem] theorem ne65_68 (u v : Value) (W : World) : (binOp .eql 20 (.iface 72 u) (.iface 75 v)).run Tryz.prog W = .ok (.bool false) W := run_eql_iface_types 65 68 u v Tryz.underlying20 (by decide) W
@[local go_sem] theorem nl_65 (v : Value) (W : World) : (binOp .eql 20 .nilIface (.iface 72 v)).run Tryz.prog W = .ok (.bool false) W := by kernel_rfl
@[local go_sem] theorem ne9_4 (u v : Value) (W : World) : (binOp .eql 20 (.iface 9 u) (.iface 4 v)).run Tryz.prog W = .ok (.bool false) W := run_eql_iface_types 9 4 u v Tryz.underlying20 (by decide) W
@[local go_sem] theorem ne9_65 (u v : Value) (W : World) : (binOp .eql 20 (.iface 9 u) (.iface 72 v)).run Tryz.prog W = .ok (.bool false) W := run_eql_iface_types 9 65 u v Tryz.underlying20 (by decide) W
@[local go_sem] theorem ne9_67 (u v : Value) (W : World) : (binOp .eql 20 (.iface 9 u) (.iface 74 v)).run Tryz.prog W = .ok (.bool false) W := run_eql_iface_types 9 67 u v Tryz.underlying20 (by decide) W
@[local go_sem] theorem ne9_68 (u v : Value) (W : World) : (binOp .eql 20 (.iface 9 u) (.iface 75 v)).run Tryz.prog W = .ok (.bool false) W := run_eql_iface_types 9 68 u v Tryz.underlying20 (by decide) W
@[local go_sem] theorem nl_9 (v : Value) (W : World) : (binOp .eql 20 .nilIface (.iface 9 v)).run Tryz.prog W = .ok (.bool false) W := by kernel_rfl
@[local go_sem] theorem ne67_4 (u v : Value) (W : World) : (binOp .eql 20 (.iface 74 u) (.iface 4 v)).run Tryz.prog W = .ok (.bool false) W := run_eql_iface_types 67 4 u v Tryz.underlying20 (by decide) W
@[local go_sem] theorem ne67_65 (u v : Value) (W : World) : (binOp .eql 20 (.iface 74 u) (.iface 72 v)).run Tryz.prog W = .ok (.bool false) W := run_eql_iface_types 67 65 u v Tryz.underlying20 (by decide) W
@[local go_sem] theorem ne67_9 (u v : Value) (W : World) : (binOp .eql 20 (.iface 74 u) (.iface 9 v)).run Tryz.prog W = .ok (.bool false) W := run_eql_iface_types 67 9 u v Tryz.underlying20 (by decide) W
@[local go_sem] theorem ne67_68 (u v : Value) (W : World) : (binOp .eql 20 (.iface 74 u) (.iface 75 v)).run Tryz.prog W = .ok (.bool false) W := run_eql_iface_types 67 68 u v Tryz.underlying20 (by decide) W
@[local go_sem] theorem nl_67 (v : Value) (W : World) : (binOp .eql 20 .nilIface (.iface 74 v)).run Tryz.prog W = .ok (.bool false) W := by kernel_rfl
@[local go_sem] theorem ne68_4 (u v : Value) (W : World) : (binOp .eql 20 (.iface 75 u) (.iface 4 v)).run Tryz.prog W = .ok (.bool false) W := run_eql_iface_types 68 4 u v Tryz.underlying20 (by decide) W
@[local go_sem] theorem ne68_65 (u v : Value) (W : World) : (binOp .eql 20 (.iface 75 u) (.iface 72 v)).run Tryz.prog W = .ok (.bool false) W := run_eql_iface_types 68 65 u v Tryz.underlying20 (by decide) W
@[local go_sem] theorem ne68_9 (u v : Value) (W : World) : (binOp .eql 20 (.iface 75 u) (.iface 9 v)).run Tryz.prog W = .ok (.bool false) W := run_eql_iface_types 68 9 u v Tryz.underlying20 (by decide) W
@[local go_sem] theorem ne68_67 (u v : Value) (W : World) : (binOp .eql 20 (.iface 75 u) (.iface 74 v)).run Tryz.prog W = .ok (.bool false) W := run_eql_iface_types 68 67 u v Tryz.underlying20 (by decide) W
@[local go_sem] theorem nl_68 (v : Value) (W : World) : (binOp .eql 20 .nilIface (.iface 75 v)).run Tryz.prog W = .ok (.bool false) W := by kernel_rfl
@[local go_sem] theorem gnn (W : World) : (eqGuard .eql 20 (.tmp 101) (.tmp 102) .nilIface .nilIface).run Tryz.prog W = .ok () W := by kernel_rfl
@[local go_sem] theorem eq9 (s t : ByteArray) (W : World) : (binOp .eql 20 (.iface 9 (.string s)) (.iface 9 (.string t))).run Tryz.prog W = .ok (.bool (s == t)) W := by kernel_rfl
@[local go_sem] theorem eq65 (s t : Nat) (W : World) : (binOp .eql 20 (.iface 72 (.float .f64 s)) (.iface 72 (.float .f64 t))).run Tryz.prog W = .ok (.bool (FloatKind.f64.format.order s t == some .eq)) W := by kernel_rfl
@[local go_sem] theorem eq4 (s t : Bool) (W : World) : (binOp .eql 20 (.iface 4 (.bool s)) (.iface 4 (.bool t))).run Tryz.prog W = .ok (.bool (s == t)) W := by kernel_rfl
theorem eq_kind {a b : J} (h : a.k ≠ b.k) : eqJ a b = false := by
  rw [Bool.eq_false_iff]
  intro e
  exact h ((eqJ_iff a b).1 e).1
theorem eq_scalar {a b : J} (ha : a.is = []) (hb : b.is = []) : eqJ a b = true ↔ a.k = b.k ∧ a.n = b.n ∧ a.s = b.s := by
  rw [eqJ_iff]
  constructor
  · rintro ⟨h1, h2, h3, _⟩
    exact ⟨h1, h2, h3⟩
  · rintro ⟨h1, h2, h3⟩
    refine ⟨h1, h2, h3, by rw [ha, hb], fun i hi => ?_⟩
    rw [ha] at hi
    exact absurd hi (by simp)
theorem wf0 {n : Int} {s : ByteArray} {ns : List ByteArray} {is : List J} {k : Int} (h : Wf (.mk k n s ns is)) (hk : k < 4) : is = [] ∧ (k = 0 → n = 0) ∧ (k = 1 → n = 0 ∨ n = 1) ∧ (k = 2 → -2147483648 ≤ n ∧ n ≤ 2147483647) ∧ (k = 3 → n = 0) ∧ (k ≠ 3 → s = .empty) := by
  rcases h with ⟨rfl, a, b, c, d⟩ | ⟨rfl, a, b, c, d⟩ | ⟨rfl, a, a2, b, c, d⟩ | ⟨rfl, a, b, c, d⟩ | ⟨rfl, _⟩ | ⟨rfl, _⟩
  · exact ⟨d, (fun _ => a), (fun h => by cases h), (fun h => by cases h), (fun h => by cases h), fun _ => b⟩
  · exact ⟨d, (fun h => by cases h), (fun _ => a), (fun h => by cases h), (fun h => by cases h), fun _ => b⟩
  · exact ⟨d, (fun h => by cases h), (fun h => by cases h), (fun _ => ⟨a, a2⟩), (fun h => by cases h), fun _ => b⟩
  · exact ⟨d, (fun h => by cases h), (fun h => by cases h), (fun h => by cases h), (fun _ => a), fun h => absurd rfl h⟩
  · omega
  · omega
theorem eq_sc {k n1 n2 : Int} {s1 s2 : ByteArray} {ns1 ns2 : List ByteArray} {is1 is2 : List J} (h1 : Wf (.mk k n1 s1 ns1 is1)) (h2 : Wf (.mk k n2 s2 ns2 is2)) (hk : k < 4) : eqJ (.mk k n1 s1 ns1 is1) (.mk k n2 s2 ns2 is2) = (if k = 3 then decide (s1 = s2) else decide (n1 = n2)) := by
  obtain ⟨a1, b1, c1, d1, e1, f1⟩ := wf0 h1 hk
  obtain ⟨a2, b2, c2, d2, e2, f2⟩ := wf0 h2 hk
  rw [Bool.eq_iff_iff, eq_scalar (a := .mk k n1 s1 ns1 is1) (b := .mk k n2 s2 ns2 is2) a1 a2]
  show k = k ∧ n1 = n2 ∧ s1 = s2 ↔ _
  by_cases h : k = 3
  · rw [if_pos h, decide_eq_true_iff, e1 h, e2 h]
    exact ⟨fun x => x.2.2, fun x => ⟨rfl, rfl, x⟩⟩
  · rw [if_neg h, decide_eq_true_iff, f1 h, f2 h]
    exact ⟨fun x => x.2.1, fun x => ⟨rfl, x, rfl⟩⟩
theorem bb_eq (x y : ByteArray) : (x == y) = decide (x = y) := by
  rw [Bool.eq_iff_iff, MapKept.bytes_beq, decide_eq_true_iff]
end Go.Proofs.YtmelgankbegjaaaGreatDoor.Js

set_option linter.unusedVariables false
set_option linter.unusedSimpArgs false
set_option maxRecDepth 100000
set_option maxHeartbeats 8000000
namespace Go.Proofs.YtmelgankbegjaaaGreatDoor.Js
open Go.RowKit Go.Proofs.YtmelgankbegjaaaGreatDoor.B

attribute [local go_sem] at67_67 at67_68 at68_67 at68_68
theorem IVs.get {p : Nat → Prop} {W : World} : ∀ {ts : List J} {vs : List Value}, IVs p W ts vs → ∀ (i : Nat) (h1 : i < ts.length) (h2 : i < vs.length), IV p W ts[i] vs[i]
  | t :: r, vs, h, 0, _, _ => by
    obtain ⟨x, vs', rfl, h1, _⟩ := h
    exact h1
  | t :: r, vs, h, i + 1, h1, h2 => by
    obtain ⟨x, vs', rfl, _, h3⟩ := h
    exact IVs.get h3 i (by simpa using h1) (by simpa using h2)
end Go.Proofs.YtmelgankbegjaaaGreatDoor.Js

set_option linter.unusedVariables false
set_option linter.unusedSimpArgs false
set_option maxRecDepth 100000
set_option maxHeartbeats 8000000
namespace Go.Proofs.YtmelgankbegjaaaGreatDoor.Js
open Go.RowKit Go.Proofs.YtmelgankbegjaaaGreatDoor.B

attribute [local go_sem] at67_67 at67_68 at68_67 at68_68
theorem zero20 (W : World) : (zeroValue 20).run Tryz.prog W = .ok .nilIface W := by kernel_rfl
theorem key9 {x : ByteArray} (h : x.size ≤ maxLen) : keyOf Tryz.prog 9 (.string x) = some (kl x) := WideMaps.keyOf_string_mk Tryz.underlying9 h
section
variable {W : World} {b n : Nat} {ns : List ByteArray} {vs : List Value}
theorem look_at (h : W.ownsMap Tryz.prog 9 RH b n (dat ns vs)) (hl : vs.length = ns.length) (hd : ns.Nodup) (i : Nat) (hi : i < ns.length) (hs : (ns[i]).size ≤ maxLen) :
    (Instr.lookup 75 (.map (some b)) (.string ns[i]) false).run Tryz.prog W = .ok (vs[i]'(by omega)) W := by
  obtain ⟨v, ps, hrun, hv⟩ := h.lookup law9 Tryz.underlying75 (zero20 W) (zd := .held .nilIface) (zp := []) rfl (key9 hs)
  rw [(dat_facts _ ns vs rfl hl hd).2.2.2 i hi (by omega)] at hv
  injection hv with hv
  injection hv with hv _
  injection hv with hv
  rw [hrun, hv]
theorem look_ok_at (h : W.ownsMap Tryz.prog 9 RH b n (dat ns vs)) (hl : vs.length = ns.length) (hd : ns.Nodup) (i : Nat) (hi : i < ns.length) (hs : (ns[i]).size ≤ maxLen) :
    (Instr.lookup 75 (.map (some b)) (.string ns[i]) true).run Tryz.prog W = .ok (.tuple #[vs[i]'(by omega), .bool true]) W := by
  obtain ⟨v, ps, hrun, hv⟩ := h.look_ok law9 Tryz.underlying75 (zero20 W) (zd := .held .nilIface) (zp := []) rfl (key9 hs)
  rw [(dat_facts _ ns vs rfl hl hd).2.2.2 i hi (by omega)] at hv
  injection hv with hv
  injection hv with hv _
  injection hv with hv
  rw [hrun, hv, ((dat_facts _ ns vs rfl hl hd).2.2.1 ns[i]).2 (List.getElem_mem hi)]
theorem look_ok_no (h : W.ownsMap Tryz.prog 9 RH b n (dat ns vs)) (hl : vs.length = ns.length) (hd : ns.Nodup) {x : ByteArray} (hx : x ∉ ns) (hs : x.size ≤ maxLen) :
    (Instr.lookup 75 (.map (some b)) (.string x) true).run Tryz.prog W = .ok (.tuple #[.nilIface, .bool false]) W := by
  obtain ⟨v, ps, hrun, hv⟩ := h.look_ok law9 Tryz.underlying75 (zero20 W) (zd := .held .nilIface) (zp := []) rfl (key9 hs)
  have hno : Maps.has (dat ns vs) (kl x) = false := Bool.eq_false_iff.2 (fun e => hx (((dat_facts _ ns vs rfl hl hd).2.2.1 x).1 e))
  rw [Maps.atKey_of_not_has hno] at hv
  injection hv with hv
  injection hv with hv _
  injection hv with hv
  rw [hrun, hv, hno]
end
/-- What has come of a map's keys. -/
def Come (ns : List ByteArray) (vs : List Value) (left : Lit → Bool) (R : Nat → Prop) : Prop := (∀ z, left z = true → Maps.has (dat ns vs) z = true) ∧ ∀ i (h : i < ns.length), left (kl ns[i]) = false → R i
section
variable {ns : List ByteArray} {vs : List Value} {left : Lit → Bool} {R : Nat → Prop}
theorem Come.start (hl : vs.length = ns.length) (hd : ns.Nodup) : Come ns vs (Maps.has (dat ns vs)) R := ⟨fun z h => h, fun i h e => by
  rw [((dat_facts _ ns vs rfl hl hd).2.2.1 ns[i]).2 (List.getElem_mem h)] at e
  cases e⟩
theorem Come.done (h : Come ns vs left R) (hl : ∀ z, left z = false) : ∀ i, i < ns.length → R i := fun i hi => h.2 i hi (hl _)
theorem Come.at (h : Come ns vs left R) (hl : vs.length = ns.length) (hd : ns.Nodup) {x : ByteArray} (hx : left (kl x) = true) : ∃ i, ∃ hi : i < ns.length, ns[i] = x :=
  List.getElem_of_mem (((dat_facts _ ns vs rfl hl hd).2.2.1 x).1 (h.1 _ hx))
theorem Come.step (h : Come ns vs left R) (hd : ns.Nodup) {i : Nat} (hi : i < ns.length) (hr : R i) : Come ns vs (fun z => left z && !z.sameKey (kl ns[i])) R := by
  refine ⟨fun z hz => h.1 z ?_, fun j hj e => ?_⟩
  · rw [Bool.and_eq_true] at hz
    exact hz.1
  · rw [Bool.and_eq_false_iff] at e
    rcases e with e | e
    · exact h.2 j hj e
    · have e2 : (kl ns[j]).sameKey (kl ns[i]) = true := by
        cases hh : (kl ns[j]).sameKey (kl ns[i])
        · rw [hh] at e; cases e
        · rfl
      have e3 := kl_inj (WideAt.sameKey_eq e2)
      have := nd_inj hd hj hi e3
      subst this
      exact hr
end
end Go.Proofs.YtmelgankbegjaaaGreatDoor.Js

set_option linter.unusedVariables false
set_option linter.unusedSimpArgs false
set_option maxRecDepth 100000
set_option maxHeartbeats 4000000
namespace Go.Proofs.YtmelgankbegjaaaGreatDoor.Js
open Go.RowKit Go.Proofs.YtmelgankbegjaaaGreatDoor.B

/-- A map as read whose keys are texts. -/
def StrCanon (D : DataW Value) : Prop := ∃ es, D = .map es ∧ es.Pairwise (fun p q => p.1.before q.1 = true) ∧ ChangeMaps.StrKeys es
theorem StrCanon.canon {D : DataW Value} (h : StrCanon D) : Maps.Canon D := by
  obtain ⟨es, e, s, k⟩ := h
  exact ⟨es, e, s, fun p hp => by obtain ⟨x, hx⟩ := k p hp; rw [hx]; trivial⟩
theorem StrCanon.put {D : DataW Value} (h : StrCanon D) (x : ByteArray) (d : DataW Value) : StrCanon (D.put (kl x) d) := by
  obtain ⟨es, rfl, s, k⟩ := h
  have hk : ChangeMaps.StrKeys (es.filter (ChangeMaps.notKey (kl x))) := fun p hp => k p (List.mem_filter.1 hp).1
  refine ⟨ChangeMaps.putKey (kl x) d es, by rw [DataW.put_eq], ?_, ?_⟩
  · exact ChangeMaps.insert_sorted (x := (kl x, d)) ⟨_, rfl⟩ _ (s.filter _) hk (fun p hp => (Maps.notKey_iff (kl_key x)).1 (List.mem_filter.1 hp).2)
  · intro p hp
    rcases ChangeMaps.mem_insert_iff.1 hp with rfl | hp
    · exact ⟨_, rfl⟩
    · exact hk p hp
theorem dat_canon (ns : List ByteArray) (vs : List Value) : StrCanon (dat ns vs) := by
  have key : ∀ (l : List (ByteArray × Value)) (D : DataW Value), StrCanon D → StrCanon (l.foldl (fun D p => D.put (.string p.1.data.toList) (.held p.2)) D) := by
    intro l
    induction l with
    | nil => exact fun D h => h
    | cons a r ih => exact fun D h => ih _ (h.put a.1 _)
  exact key _ _ ⟨[], rfl, List.Pairwise.nil, fun p hp => by cases hp⟩
theorem has_dat {ns : List ByteArray} {vs : List Value} (hl : vs.length = ns.length) (hd : ns.Nodup) (k : Lit) : Maps.has (dat ns vs) k = true ↔ ∃ x, x ∈ ns ∧ k = kl x := by
  constructor
  · intro h
    obtain ⟨es, e, _, hk⟩ := dat_canon ns vs
    have h0 := h
    rw [e, Maps.has_eq] at h
    obtain ⟨p, hp, hs⟩ := List.any_eq_true.1 h
    obtain ⟨s, hs2⟩ := hk p hp
    have hks : k = kl ⟨s.toArray⟩ := by rw [← WideAt.sameKey_eq hs, hs2]
    rw [hks] at h0
    exact ⟨_, ((dat_facts _ ns vs rfl hl hd).2.2.1 _).1 h0, hks⟩
  · rintro ⟨x, hx, rfl⟩
    exact ((dat_facts _ ns vs rfl hl hd).2.2.1 _).2 hx
theorem dat_set {ns : List ByteArray} {vs : List Value} (hl : vs.length = ns.length) (hd : ns.Nodup) (i : Nat) (hi : i < ns.length) (u : Value) : (dat ns vs).put (kl ns[i]) (.held u) = dat ns (vs.set i u) := by
  have hl2 : (vs.set i u).length = ns.length := by rw [List.length_set]; exact hl
  refine Maps.ext ((dat_canon ns vs).put _ _).canon (dat_canon ns _).canon (fun k => ?_) (fun k z hk => ?_)
  · by_cases e : k = kl ns[i]
    · subst e
      rw [Maps.has_put_same (dat_facts _ ns vs rfl hl hd).1.isMap (kl_key _), ((dat_facts _ ns _ rfl hl2 hd).2.2.1 _).2 (List.getElem_mem hi)]
    · rw [Maps.has_put_other e, Bool.eq_iff_iff, has_dat hl hd, has_dat hl2 hd]
  · by_cases e : k = kl ns[i]
    · subst e
      rw [Maps.atKey_put_same (dat_facts _ ns vs rfl hl hd).1.isMap (kl_key _), (dat_facts _ ns _ rfl hl2 hd).2.2.2 i hi (by omega)]
      simp
    · rw [Maps.has_put_other e] at hk
      obtain ⟨x, hx, rfl⟩ := (has_dat hl hd k).1 hk
      obtain ⟨j, hj, rfl⟩ := List.getElem_of_mem hx
      rw [Maps.atKey_put_other e, (dat_facts _ ns vs rfl hl hd).2.2.2 j hj (by omega), (dat_facts _ ns _ rfl hl2 hd).2.2.2 j hj (by omega)]
      have hij : i ≠ j := fun e2 => e (by subst e2; rfl)
      simp [List.getElem_set, hij]
theorem own_tight {W : World} {b n : Nat} {D : DataW Value} (h : W.ownsMap Tryz.prog 9 RH b n D) : W.ownsMap Tryz.prog 9 RH b (Maps.size D) D := by
  obtain ⟨es, clock, hb, F, hs, rfl⟩ := h
  exact ⟨es, clock, hb, F, by simp [Maps.size, length_sorted], rfl⟩
theorem ranges_same {W W' : World} {b r n cnt : Nat} {D : DataW Value} {left : Lit → Bool} (h : W.ranges Tryz.prog 9 RH b r n D left cnt) (hb : W'.heap[b]? = W.heap[b]?) (hr : W'.heap[r]? = W.heap[r]?) : W'.ranges Tryz.prog 9 RH b r n D left cnt := by
  obtain ⟨es, clock, since, seen, c0, h1, F, hs, hD, h2, rest⟩ := h
  exact ⟨es, clock, since, seen, c0, hb.trans h1, F, hs, hD, hr.trans h2, rest⟩
section
variable {W : World}
theorem IOs.owner : ∀ {p : Nat → Prop} {ts : List J} {vs : List Value}, IOs p W ts vs → ∃ o : Nat → Option Nat, (∀ x i, o x = some i → p x) ∧ ∀ i (h1 : i < ts.length) (h2 : i < vs.length), IO (fun x => o x = some i) W ts[i] vs[i]
  | p, [], vs, h => ⟨fun _ => none, fun x i h => by (cases h), fun i h1 => absurd h1 (by simp)⟩
  | p, t :: r, vs, h => by
    obtain ⟨v, vs', q, rfl, h1, h2⟩ := h
    obtain ⟨o, ho, hi⟩ := IOs.owner h2
    classical
    refine ⟨fun x => if p x ∧ q x then some 0 else (o x).map (· + 1), fun x i e => ?_, fun i hi1 hi2 => ?_⟩
    · by_cases hp : p x ∧ q x
      · exact hp.1
      · dsimp only at e
        rw [if_neg hp] at e
        obtain ⟨j, hj, _⟩ := Option.map_eq_some_iff.1 e
        exact (ho x j hj).1
    · match i, hi1, hi2 with
      | 0, _, _ => exact h1.mono (fun x hx => by dsimp only; rw [if_pos hx])
      | i + 1, hi1, hi2 => exact (hi i (by simpa using hi1) (by simpa using hi2)).mono (fun x hx => by
          dsimp only
          rw [if_neg (fun e => (ho x i hx).2 e.2), hx]
          rfl)
theorem IOs.of_owner : ∀ {p : Nat → Prop} {ts : List J} {vs : List Value} {o : Nat → Option Nat}, vs.length = ts.length → (∀ i (h1 : i < ts.length) (h2 : i < vs.length), IO (fun x => o x = some i) W ts[i] vs[i]) → (∀ x i, i < ts.length → o x = some i → p x) → IOs p W ts vs
  | p, [], vs, o, hl, H, hp => List.eq_nil_of_length_eq_zero hl
  | p, t :: r, [], o, hl, H, hp => by simp at hl
  | p, t :: r, v :: vs, o, hl, H, hp => by
    refine ⟨v, vs, fun x => o x = some 0, rfl, (H 0 (by simp) (by simp)).mono (fun x hx => ⟨hp x 0 (by simp) hx, hx⟩), ?_⟩
    refine IOs.of_owner (o := fun x => (o x).bind fun i => if i = 0 then none else some (i - 1)) (by simpa using hl) (fun i h1 h2 => (H (i + 1) (by simpa using h1) (by simpa using h2)).mono (fun x hx => ?_)) (fun x i h1 hx => ?_)
    · show ((o x).bind fun i => if i = 0 then none else some (i - 1)) = some i
      rw [hx]
      rfl
    · obtain ⟨j, hj, e⟩ := Option.bind_eq_some_iff.1 hx
      by_cases hj0 : j = 0
      · rw [if_pos hj0] at e; cases e
      · rw [if_neg hj0] at e
        injection e with e
        refine ⟨hp x j (by simp; omega) hj, fun e2 => ?_⟩
        have e2 : o x = some 0 := e2
        rw [e2] at hj
        injection hj with hj
        omega
theorem IOs.append : ∀ {p q : Nat → Prop} {ts us : List J} {vs ws : List Value}, IOs p W ts vs → IOs q W us ws → (∀ x, p x → ¬ q x) → IOs (fun x => p x ∨ q x) W (ts ++ us) (vs ++ ws)
  | p, q, [], us, vs, ws, h, hx, H => by
    rw [show vs = [] from h]
    exact hx.mono (fun x h => .inr h)
  | p, q, t' :: r, us, vs, ws, h, hx, H => by
    obtain ⟨y, vs', q0, rfl, h1, h2⟩ := h
    refine ⟨y, vs' ++ ws, fun x => p x ∧ q0 x, rfl, h1.mono (fun x h => ⟨.inl h.1, h⟩), (IOs.append h2 hx (fun x h => H x h.1)).mono (fun x h => ?_)⟩
    rcases h with h | h
    · exact ⟨.inl h.1, fun h' => h.2 h'.2⟩
    · exact ⟨.inr h, fun h' => H x h'.1 h⟩
mutual
theorem IO.iv : ∀ {p : Nat → Prop} {t : J} {v : Value}, IO p W t v → IV p W t v
  | p, .mk k n s ns is, v, h => by
    rcases h with h | h | h | h | ⟨e, A, c, vs, e2, h1, h2, h3⟩ | ⟨e, b, vs, e2, h1, h2, h3⟩
    · exact .inl h
    · exact .inr (.inl h)
    · exact .inr (.inr (.inl h))
    · exact .inr (.inr (.inr (.inl h)))
    · exact .inr (.inr (.inr (.inr (.inl ⟨e, A, c, vs, e2, (Rp.own h1).weak (fun b _ hx => h2 b hx.2.symm), (IOs.iv h3).weak (fun b _ hx => hx.1)⟩))))
    · exact .inr (.inr (.inr (.inr (.inr ⟨e, b, vs, e2, ⟨h1, h2⟩, (IOs.iv h3).weak (fun b _ hx => hx.1)⟩))))
theorem IOs.iv : ∀ {p : Nat → Prop} {ts : List J} {vs : List Value}, IOs p W ts vs → IVs p W ts vs
  | p, [], vs, h => h
  | p, t :: r, vs, h => by
    obtain ⟨x, vs', q0, e, h1, h2⟩ := h
    exact ⟨x, vs', e, (IO.iv h1).weak (fun b _ hx => hx.1), (IOs.iv h2).weak (fun b _ hx => hx.1)⟩
end
end
end Go.Proofs.YtmelgankbegjaaaGreatDoor.Js

set_option linter.unusedVariables false
set_option linter.unusedSimpArgs false
set_option maxRecDepth 100000
set_option maxHeartbeats 8000000
namespace Go.Proofs.YtmelgankbegjaaaGreatDoor.Js
open Go.RowKit Go.Proofs.YtmelgankbegjaaaGreatDoor.B

attribute [local go_sem] as4_67 as65_67 as9_67 as67_67 as68_67 atn_67
theorem IO.cell {p : Nat → Prop} {W : World} {t : J} {v : Value} (h : IO p W t v) : v.cells = #[v] ∧ v.oneCell' = true := by
  obtain ⟨k, n, s, ns, is⟩ := t
  rcases h with ⟨_, rfl⟩ | ⟨_, rfl⟩ | ⟨_, rfl⟩ | ⟨_, rfl⟩ | ⟨_, A, c, vs, rfl, _⟩ | ⟨_, b, vs, rfl, _⟩ <;> exact ⟨rfl, rfl⟩
theorem IOs.cells {W : World} : ∀ {p : Nat → Prop} {ts : List J} {vs : List Value}, IOs p W ts vs → ∀ u ∈ vs, u.oneCell' = true
  | p, [], vs, h, u, hu => by
    rw [show vs = [] from h] at hu
    cases hu
  | p, t :: r, vs, h, u, hu => by
    obtain ⟨x, vs', q, rfl, h1, h2⟩ := h
    rcases List.mem_cons.1 hu with rfl | hu
    · exact h1.cell.2
    · exact IOs.cells h2 u hu
theorem IO.arr {p : Nat → Prop} {w : World} {t : J} {u : Value} (h : IO p w t u) (hk : t.k = 4) : ∃ A c vs, u = .iface 74 (.slice A t.is.length c) ∧ w.ownsRow 0 20 1 (.slice A t.is.length c) t.is.length vs ∧ (∀ b, (Value.slice A t.is.length c).ownBlock = some b → p b) ∧ IOs (fun x => p x ∧ some x ≠ (Value.slice A t.is.length c).ownBlock) w t.is vs := by
  obtain ⟨k2, n2, s2, ns2, is2⟩ := t
  have hk2 : k2 = 4 := hk
  subst hk2
  rcases h with ⟨h, _⟩ | ⟨h, _⟩ | ⟨h, _⟩ | ⟨h, _⟩ | ⟨_, h⟩ | ⟨h, _⟩
  · omega
  · omega
  · omega
  · omega
  · exact h
  · omega
theorem IO.map {p : Nat → Prop} {w : World} {t : J} {u : Value} (h : IO p w t u) (hk : t.k = 5) : ∃ b vs, u = .iface 75 (.map (some b)) ∧ p b ∧ w.ownsMap Tryz.prog 9 RH b t.ns.length (dat t.ns vs) ∧ IOs (fun x => p x ∧ x ≠ b) w t.is vs := by
  obtain ⟨k2, n2, s2, ns2, is2⟩ := t
  have hk2 : k2 = 5 := hk
  subst hk2
  rcases h with ⟨h, _⟩ | ⟨h, _⟩ | ⟨h, _⟩ | ⟨h, _⟩ | ⟨h, _⟩ | ⟨_, h⟩
  · omega
  · omega
  · omega
  · omega
  · omega
  · exact h
theorem not_arr {p : Nat → Prop} {w : World} {t : J} {u : Value} (h : IO p w t u) (hk : t.k ≠ 4) (W : World) : (Instr.typeAssert u 20 74 true).run Tryz.prog W = .ok (.tuple #[.slice none 0 0, .bool false]) W := by
  obtain ⟨k, n, s, ns, is⟩ := t
  have hk : k ≠ 4 := hk
  rcases h with ⟨_, rfl⟩ | ⟨_, rfl⟩ | ⟨_, rfl⟩ | ⟨_, rfl⟩ | ⟨h, _⟩ | ⟨_, b, vs, rfl, _⟩
  · exact atn_67 W
  · exact as4_67 _ W
  · exact as65_67 _ W
  · exact as9_67 _ W
  · exact absurd h hk
  · exact as68_67 _ W
theorem not_map {p : Nat → Prop} {w : World} {t : J} {u : Value} (h : IO p w t u) (hk : t.k ≠ 5) (W : World) : (Instr.typeAssert u 20 75 true).run Tryz.prog W = .ok (.tuple #[.map none, .bool false]) W := by
  obtain ⟨k, n, s, ns, is⟩ := t
  have hk : k ≠ 5 := hk
  rcases h with ⟨_, rfl⟩ | ⟨_, rfl⟩ | ⟨_, rfl⟩ | ⟨_, rfl⟩ | ⟨_, A, c, vs, rfl, _⟩ | ⟨h, _⟩
  · exact atn_68 W
  · exact as4_68 _ W
  · exact as65_68 _ W
  · exact as9_68 _ W
  · exact as67_68 _ W
  · exact absurd h hk
theorem mia_fin {p q P : Nat → Prop} {w W W' : World} {ts us : List J} {v5 : Value} {A : Option Addr} {c : Nat} {vs ws : List Value} (hd : ∀ x, p x → ¬ q x)
    (hS : Same (fun x => ¬ p x ∧ ¬ q x) w W) (hP : IOs P W ts vs) (hPp : ∀ x, P x → p x ∧ some x ≠ v5.ownBlock) (hq : IOs q W us ws) (hown : ∀ k, v5.ownBlock = some k → ¬ q k ∧ (p k ∨ w.heap.size ≤ k))
    (hg : W.grownBy W' v5.ownBlock) (hr : W'.ownsRow 0 20 1 (.slice A (ts ++ us).length c) (ts ++ us).length (vs ++ ws)) (hat : (Value.slice A (ts ++ us).length c).ownBlock = v5.ownBlock ∨ ∃ k, (Value.slice A (ts ++ us).length c).ownBlock = some k ∧ W.heap.size ≤ k) :
    IO (fun x => p x ∨ q x ∨ w.heap.size ≤ x) W' (.mk 4 0 .empty [] (ts ++ us)) (.iface 74 (.slice A (ts ++ us).length c)) ∧ Same (fun x => ¬ p x ∧ ¬ q x) w W' := by
  have hs1 := hS.1
  have hs2 := hg.size
  generalize hv : Value.slice A (ts ++ us).length c = v' at *
  refine ⟨.inr (.inr (.inr (.inr (.inl ⟨rfl, A, c, vs ++ ws, by rw [← hv], by rw [hv]; exact hr, fun b hb => ?_, ?_⟩)))), ⟨Nat.le_trans hs1 hs2, fun b hb hp => ?_⟩⟩
  · rw [hv] at hb
    rcases hat with h | ⟨k, h1, h2⟩
    · exact (hown b (h.symm.trans hb)).2.elim .inl (fun e => .inr (.inr e))
    · rw [h1] at hb
      injection hb with hb
      exact .inr (.inr (by omega))
  · rw [hv]
    have h1 := ((hP.append hq (fun x hx => hd x (hPp x hx).1)).bound).keep (.grown hg (fun x hx e => by
      rcases hx.1 with h | h
      · exact (hPp x h).2 e
      · exact (hown x e.symm).1 h))
    refine h1.mono (fun x hx => ⟨hx.1.elim (fun h => .inl (hPp x h).1) (fun h => .inr (.inl h)), fun e => ?_⟩)
    rcases hat with h | ⟨k, h1, h2⟩
    · rcases hx.1 with h3 | h3
      · exact (hPp x h3).2 (e.trans h)
      · exact (hown x (h.symm.trans e.symm)).1 h3
    · rw [h1] at e
      injection e with e
      have := hx.2
      omega
  · refine (hg.block b (Nat.lt_of_lt_of_le hb hs1) (fun e => ?_)).trans (hS.2 b hb hp)
    rcases (hown b e.symm).2 with h | h
    · exact hp.1 h
    · omega
theorem io_one {p : Nat → Prop} {W : World} {t : J} {u : Value} (h : IO p W t u) : IOs p W [t] [u] := ⟨u, [], fun _ => True, rfl, h.mono (fun x hx => ⟨hx, trivial⟩), rfl⟩
theorem same_all {p : Nat → Prop} {w : World} : Same p w w := ⟨Nat.le_refl _, fun _ _ _ => rfl⟩
end Go.Proofs.YtmelgankbegjaaaGreatDoor.Js

set_option linter.unusedVariables false
set_option linter.unusedSimpArgs false
set_option maxRecDepth 100000
set_option maxHeartbeats 4000000
namespace Go.Proofs.YtmelgankbegjaaaGreatDoor.Js
open Go.RowKit Go.Proofs.YtmelgankbegjaaaGreatDoor.B

/-- Where a step leads: the index of an item, or -1. -/
def fI (t : J) (s : Sp) : Int := if s.b then (if t.k = 4 ∧ s.i < t.is.length then (s.i : Int) else -1) else if t.k = 5 then idx s.x t.ns 0 else -1
/-- Something further behind the last item. -/
def addJ (t : J) (s : Sp) (x : J) : J := if (s.b = true ↔ t.k = 4) ∧ (s.b = true ∨ t.k = 5) then .mk t.k t.n t.s (if s.b then t.ns else t.ns ++ [s.x]) (t.is ++ [x]) else t
/-- A tree that is changed at a path: f of what is there; or something further, if there is nothing. -/
def updJ (f : J → J) (ad : Option J) : List Sp → J → J
  | [], t => f t
  | s :: r, t => match t.is[(fI t s).toNat]? with
    | some c => if 0 ≤ fI t s then .mk t.k t.n t.s t.ns (t.is.set (fI t s).toNat (updJ f ad r c)) else match ad with
      | some x => addJ t s x
      | none => t
    | none => match ad with
      | some x => addJ t s x
      | none => t
theorem updJ_cons (f : J → J) (ad : Option J) (s : Sp) (r : List Sp) (t : J) : updJ f ad (s :: r) t = (match t.is[(fI t s).toNat]? with
    | some c => if 0 ≤ fI t s then J.mk t.k t.n t.s t.ns (t.is.set (fI t s).toNat (updJ f ad r c)) else match ad with
      | some x => addJ t s x
      | none => t
    | none => match ad with
      | some x => addJ t s x
      | none => t) := by cases t; rfl
theorem updJ_at (f : J → J) (ad : Option J) (s : Sp) (r : List Sp) (t : J) (k : Nat) (hf : fI t s = (k : Int)) (hk : k < t.is.length) : updJ f ad (s :: r) t = .mk t.k t.n t.s t.ns (t.is.set k (updJ f ad r t.is[k])) := by
  rw [updJ_cons, hf, Int.toNat_natCast, List.getElem?_eq_getElem hk]
  simp only
  rw [if_pos (by omega)]
theorem updJ_no (f : J → J) (ad : Option J) (s : Sp) (r : List Sp) (t : J) (hf : fI t s = -1) : updJ f ad (s :: r) t = (match ad with | some x => addJ t s x | none => t) := by
  rw [updJ_cons, hf]
  split
  · rw [if_neg (by omega)]
  · rfl
/-- A path into a tree: each step leads to something, but for the last one, maybe. -/
inductive Way : J → List Sp → Prop
  | nil (t : J) : Way t []
  | cons (t : J) (s : Sp) (r : List Sp) (k : Nat) (hf : fI t s = (k : Int)) (hk : k < t.is.length) (hw : Way t.is[k] r) : Way t (s :: r)
  | last (t : J) (s : Sp) (hf : fI t s = -1) (hs : s.b = true → t.k = 4) : Way t [s]
/-- Letters of paths: no mark among them. -/
def Ltr (s : Sp) : Prop := s.i ≤ 9 ∧ s.x.size ≤ 7 ∧ ∀ c ∈ s.x.data.toList, c ≠ 34 ∧ c ≠ 92
/-- What the kinds of changes do: to what is there; what they add. -/
def fm (m : Int) (x t : J) : J := if m = 4 then .mk 4 0 .empty [] (lsJ t ++ [x]) else x
def am (m : Int) (x : J) : Option J := if m = 0 then some x else none
abbrev upd (m : Int) (x : J) (l : List Sp) (t : J) : J := updJ (fm m x) (am m x) l t
theorem IOs.put {p q : Nat → Prop} {W W' : World} {ts : List J} {vs : List Value} {o : Nat → Option Nat} {cb k : Nat} {t' : J} {u' : Value} (hl : vs.length = ts.length) (ho : ∀ x i, o x = some i → p x)
    (hio : ∀ i (h1 : i < ts.length) (h2 : i < vs.length), IO (fun x => o x = some i) W ts[i] vs[i]) (hu : IO (fun x => o x = some k ∨ q x ∨ W.heap.size ≤ x) W' t' u') (hs : Same (fun x => ¬ o x = some k ∧ x ≠ cb) W W')
    (hcb : ¬ p cb) (hd : ∀ x, p x → ¬ q x) : IOs (fun x => p x ∨ q x ∨ W.heap.size ≤ x) W' (ts.set k t') (vs.set k u') := by
  classical
  refine IOs.of_owner (o := fun x => if q x ∨ W.heap.size ≤ x then some k else o x) (by rw [List.length_set, List.length_set]; exact hl) (fun i h1 h2 => ?_) (fun x i hi hx => ?_)
  · rw [List.length_set] at h1 h2
    by_cases hik : k = i
    · subst hik
      rw [List.getElem_set_self, List.getElem_set_self]
      refine hu.mono (fun x hx => ?_)
      by_cases hx2 : q x ∨ W.heap.size ≤ x
      · exact if_pos hx2
      · exact (if_neg hx2).trans (hx.elim id (fun h => absurd h hx2))
    · rw [List.getElem_set_ne hik, List.getElem_set_ne hik]
      refine ((hio i h1 h2).bound.keep (hs.mono (fun x hx => ⟨fun e => hik (by rw [hx.1] at e; injection e with e; exact e.symm), fun e => hcb (e ▸ ho x i hx.1)⟩))).mono (fun x hx => ?_)
      exact (if_neg (fun e => e.elim (hd x (ho x i hx.1)) (fun e => by have := hx.2; omega))).trans hx.1
  · by_cases hx2 : q x ∨ W.heap.size ≤ x
    · exact .inr hx2
    · exact .inl (ho x i ((if_neg hx2).symm.trans hx))
theorem obj_fin {P R : Nat → Prop} {W W' : World} {n : Int} {s : ByteArray} {ns : List ByteArray} {ts : List J} {vs : List Value} {b : Nat} (hb : R b) (hm : W'.ownsMap Tryz.prog 9 RH b ns.length (dat ns vs)) (hi : IOs P W ts vs)
    (hP : ∀ x, P x → R x ∧ x ≠ b) (hg : W.grownBy W' (some b)) : IO R W' (.mk 5 n s ns ts) (.iface 75 (.map (some b))) :=
  .inr (.inr (.inr (.inr (.inr ⟨rfl, b, vs, rfl, hb, hm, (hi.keep (.grown hg (fun x hx e => (hP x hx).2 (by injection e)))).mono hP⟩))))
theorem arr_fin {P R : Nat → Prop} {W W' : World} {n : Int} {s : ByteArray} {ns : List ByteArray} {ts : List J} {vs : List Value} {A : Option Addr} {c : Nat} (hr : W'.ownsRow 0 20 1 (.slice A ts.length c) ts.length vs) (hb : ∀ k, (Value.slice A ts.length c).ownBlock = some k → R k)
    (hi : IOs P W ts vs) (hP : ∀ x, P x → R x ∧ some x ≠ (Value.slice A ts.length c).ownBlock) (hs : Same P W W') : IO R W' (.mk 4 n s ns ts) (.iface 74 (.slice A ts.length c)) :=
  .inr (.inr (.inr (.inr (.inl ⟨rfl, A, c, vs, rfl, hr, hb, (hi.keep hs).mono hP⟩))))
/-- The cursor has moved; nothing else has turned. -/
structure Nx (cb B : Nat) (w w' : World) : Prop where
  cur : ∃ z : Int, w'.heap[cb]? = some (.cells #[.int .i64 z] 3 (0, 0))
  same : Same (fun x => x ≠ cb) w w'
  below : Below B w w'
theorem Same.of_below {w w1 : World} {p : Nat → Prop} (h : Below w.heap.size w w1) : Same p w w1 := ⟨h.size, fun b hb _ => h.block b hb⟩
theorem Nx.refl {cb B : Nat} {w : World} {z : Int} (h : w.heap[cb]? = some (.cells #[.int .i64 z] 3 (0, 0))) : Nx cb B w w := ⟨⟨z, h⟩, ⟨Nat.le_refl _, fun _ _ _ => rfl⟩, Below.refl _ _⟩
theorem Nx.trans {cb B : Nat} {a b c : World} (h : Nx cb B a b) (k : Nx cb B b c) : Nx cb B a c := ⟨k.cur, h.same.trans k.same, h.below.trans k.below⟩
theorem Nx.set {cb B : Nat} {w w1 : World} {z z' : Int} (h : w.heap[cb]? = some (.cells #[.int .i64 z] 3 (0, 0))) (hb : Below w.heap.size w w1) (hB : B ≤ cb) (hBw : B ≤ w.heap.size) : Nx cb B w (w1.setCell ⟨cb, 0, none⟩ (.int .i64 z')) := by
  have h1 := (hb.block cb (Rv.lt_of_blk h)).trans h
  have hg := grown_set (Below.refl _ w1) cb 0 (.int .i64 z')
  refine ⟨⟨z', Rv.sets1 h1 _⟩, ⟨Nat.le_trans hb.size hg.size, fun x hx hn => ?_⟩, (hb.mono hBw).setCell hB _⟩
  exact (hg.block x (Nat.lt_of_lt_of_le hx hb.size) (fun e => hn (by injection e))).trans (hb.block x hx)
theorem Nx.quiet {cb B : Nat} {w w1 : World} {z : Int} (h : w.heap[cb]? = some (.cells #[.int .i64 z] 3 (0, 0))) (hb : Below w.heap.size w w1) (hBw : B ≤ w.heap.size) : Nx cb B w w1 :=
  ⟨⟨z, (hb.block cb (Rv.lt_of_blk h)).trans h⟩, .of_below hb, hb.mono hBw⟩
theorem Nx.io {cb B : Nat} {w w' : World} {p : Nat → Prop} {t : J} {u : Value} (h : Nx cb B w w') (hi : IO p w t u) (hp : ∀ x, p x → x ≠ cb) : IO p w' t u := hi.keep (h.same.mono hp)
/-- What a change at a path answers and leaves. -/
structure Res (m : Int) (l : List Sp) (t tx : J) (p q : Nat → Prop) (u : Value) (w : World) (cb B : Nat) (u' : Value) (ch : Bool) (w' : World) : Prop where
  io : IO (fun x => p x ∨ q x ∨ w.heap.size ≤ x) w' (upd m tx l t) u'
  no : ch = false → u' = u ∧ upd m tx l t = t
  cur : ∃ z : Int, w'.heap[cb]? = some (.cells #[.int .i64 z] 3 (0, 0))
  same : Same (fun x => ¬ p x ∧ x ≠ cb) w w'
  below : Below B w w'
/-- What a change is asked of. -/
structure Ask (t tx : J) (p q : Nat → Prop) (u ux : Value) (w : World) (cb B : Nat) : Prop where
  wf : Wf t
  io : IO p w t u
  ix : IO q w tx ux
  apart : ∀ x, p x → ¬ q x
  pB : ∀ x, p x → B ≤ x ∧ x ≠ cb
  qc : ∀ x, q x → x ≠ cb
  cB : B ≤ cb
  sB : B ≤ w.heap.size
  two : 2 < B
  sp : As w
  cur : ∃ z : Int, w.heap[cb]? = some (.cells #[.int .i64 z] 3 (0, 0))
theorem Ask.next {t tx : J} {p q : Nat → Prop} {u ux : Value} {w w' : World} {cb B : Nat} (h : Ask t tx p q u ux w cb B) (k : Nx cb B w w') : Ask t tx p q u ux w' cb B :=
  ⟨h.wf, k.io h.io (fun x hx => (h.pB x hx).2), k.io h.ix h.qc, h.apart, h.pB, h.qc, h.cB, Nat.le_trans h.sB k.same.1, h.two, h.sp.below k.below h.two, k.cur⟩
theorem Res.next {m : Int} {l : List Sp} {t tx : J} {p q : Nat → Prop} {u : Value} {w w1 : World} {cb B : Nat} {u' : Value} {ch : Bool} {w' : World} (k : Nx cb B w w1) (h : Res m l t tx p q u w1 cb B u' ch w') : Res m l t tx p q u w cb B u' ch w' :=
  ⟨h.io.mono (fun x hx => hx.imp id (Or.imp id (Nat.le_trans k.same.1))), h.no, h.cur, (k.same.mono (fun x hx => hx.2)).trans h.same, k.below.trans h.below⟩
end Go.Proofs.YtmelgankbegjaaaGreatDoor.Js

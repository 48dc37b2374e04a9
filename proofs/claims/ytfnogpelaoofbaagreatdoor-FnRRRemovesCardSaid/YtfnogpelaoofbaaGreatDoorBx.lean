/- More words for slices in memory. Conditions: none beyond those written at each lemma. -/
import Derived.Test.YtfnogpelaoofbaaGreatDoorBase
import Derived.Deep.RegionLaw
namespace Go.Proofs.YtfnogpelaoofbaaGreatDoor.B
open Go.RowKit
section
variable {P : Program} {ops : Array Oper} {rest : List Oper} {o : Oper} {a : Act} {Q : Exit → Act → World → Prop}
/-- The same, the new value written out. -/
theorem appRs {w0 w : World} (hgd : o.guard = none) (s x : Operand) (t : TypeId)
    (ho : o.op = .call { callee := .builtin .append, args := #[s, x], argTypes := #[t, t] })
    (base : Nat) (e : TypeId) (z : Value) (size bytes : Nat) (ht : P.underlying t = some (.slice e)) (hinfo : (P.info? e).map (fun i => (i.zero, i.size, i.bytes)) = some (some z, size, bytes))
    (hzs : z.cells.size = size) (hsz : 0 < size) (hb0 : 0 < bytes)
    (v : Value) (n : Nat) (xs : List Value) (hs : a.eval s = v) (hown : w.ownsRow base e size v n xs) (HB : Below base w0 w)
    (u : Value) (m : Nat) (news : List Value) (hx : a.eval x = u) (hr : Rd w size u m news) (h1 : ∀ u ∈ news, u.oneCell' = true)
    (hbytes : (n + m) * bytes ≤ 140737488355328) (hbase : base ≤ w.heap.size)
    (h : ∀ A c w', w'.ownsRow base e size (.slice A (n + m) c) (n + m) (xs ++ news) → Below base w0 w' → w.grownBy w' v.ownBlock → wpList P ops Q rest (a.put o.dst (.slice A (n + m) c)) w') : wpList P ops Q (o :: rest) a w :=
  appRd hgd s x t ho base e z size bytes ht hinfo hzs hsz hb0 v n xs hs hown HB u m news hx hr h1 hbytes hbase fun v' w' h2 h3 h4 _ => by
    obtain ⟨A, c, rfl, _⟩ := (Rd.of_own h2).shape
    exact h A c w' h2 h3 h4
theorem app1s {w0 W : World} (base : Nat) (hgd : o.guard = none) (s x : Operand) (t e : TypeId) (z : Value) (size bytes : Nat)
    (ho : o.op = .call { callee := .builtin .append, args := #[s, x], argTypes := #[t, t] })
    (ht : P.underlying t = some (.slice e)) (hinfo : (P.info? e).map (fun i => (i.zero, i.size, i.bytes)) = some (some z, size, bytes)) (hz : z.cells.size = size) (hsz : 0 < size) (hb0 : 0 < bytes)
    (v : Value) (n : Nat) (xs : List Value) (us : Array Value) (hs : a.eval s = v) (hx : a.eval x = .slice (some ⟨W.heap.size, 0, none⟩) 1 1) (hus : us.size = size) (h1 : ∀ u ∈ us.toList, u.oneCell' = true)
    (HO : W.ownsRow base e size v n xs) (HB : Below base w0 W) (hbase : base ≤ W.heap.size) (hl : (n + 1) * bytes ≤ 140737488355328)
    (h : ∀ A c w1, w1.ownsRow base e size (.slice A (n + 1) c) (n + 1) (xs ++ us.toList) → Below base w0 w1 → W.grownBy w1 v.ownBlock → wpList P ops Q rest (a.put o.dst (.slice A (n + 1) c)) w1) :
    wpList P ops Q (o :: rest) a (W.alloc (.cells us e)) :=
  app1 base hgd s x t e z size bytes ho ht hinfo hz hsz hb0 v n xs us hs hx hus h1 HO HB hbase hl fun v1 w1 h2 h3 h4 _ => by
    obtain ⟨A, c, rfl, _⟩ := (Rd.of_own h2).shape
    exact h A c w1 h2 h3 h4
end

/-- s[m:], elements of one cell: what it is, and what it reads. -/
theorem tail_of {P : Program} (t e : TypeId) (ht : P.underlying t = some (.slice e)) (hz : ∀ W, (sizeOf e).run P W = .ok 1 W) (A : Option Addr) (len c m : Nat) (hm : m ≤ len) (hc : len ≤ c) :
    ∃ A', (∀ W, (Instr.slice t (.slice A len c) (some (.int .i64 m)) none none).run P W = .ok (.slice A' (len - m) (c - m)) W) ∧ (∀ W cs, Rd W 1 (.slice A len c) len cs → Rd W 1 (.slice A' (len - m) (c - m)) (len - m) (cs.drop m)) := by
  have he : P.elem t = e := by simp [Program.elem, ht]
  have hrun := fun W => run_slice_l (P := P) (w := W) t A len c (by rw [he]; exact ht) .i64 (m : Int) (by omega) (by omega)
  rw [he] at hrun
  simp only [hz, Result.andThen_ok, Int.toNat_natCast] at hrun
  rcases A with _ | ⟨b, o, sp⟩
  · refine ⟨none, fun W => by rw [hrun]; simp [sliced], fun W cs h => ?_⟩
    obtain ⟨h1, A', c', h2, h3, h4, h5⟩ := h
    injection h2 with e1 e2 e3
    have hl : len = 0 := by
      rcases Nat.eq_zero_or_pos len with h0 | h0
      · exact h0
      · obtain ⟨_, _, h6, _⟩ := h5 h0
        rw [← e1] at h6; cases h6
    subst hl
    exact ⟨by rw [List.length_drop, h1]; omega, none, c - m, rfl, by omega, by omega, fun h0 => absurd h0 (by omega)⟩
  · refine ⟨some (if c = m then ⟨b, o, sp⟩ else (⟨b, o, sp⟩ : Addr).add m), fun W => by rw [hrun]; simp [sliced]; split <;> rfl, fun W cs h => ?_⟩
    obtain ⟨h1, A', c', h2, h3, h4, h5⟩ := h
    injection h2 with e1 e2 e3
    refine ⟨by rw [List.length_drop, h1]; omega, _, c - m, rfl, by omega, by omega, fun h0 => ?_⟩
    obtain ⟨b', o', hA, hb, hc'⟩ := h5 (by omega)
    rw [← e1] at hA
    injection hA with hA
    injection hA with a1 a2 a3
    subst a1; subst a2; subst a3
    refine ⟨b, o + m, by rw [if_neg (by omega), add_at], hb, fun j u hu => ?_⟩
    rw [List.getElem?_drop] at hu
    rw [Nat.add_assoc]
    exact hc' _ _ hu
/-- s[:m], elements of one cell. -/
theorem head_of {P : Program} (t e : TypeId) (ht : P.underlying t = some (.slice e)) (hz : ∀ W, (sizeOf e).run P W = .ok 1 W) (A : Option Addr) (len c m : Nat) (hm : m ≤ len) (hc : len ≤ c) :
    ∃ A', (∀ W, (Instr.slice t (.slice A len c) none (some (.int .i64 m)) none).run P W = .ok (.slice A' m c) W) ∧ (∀ W cs, Rd W 1 (.slice A len c) len cs → Rd W 1 (.slice A' m c) m (cs.take m)) := by
  have he : P.elem t = e := by simp [Program.elem, ht]
  have hrun := fun W => run_slice_h (P := P) (w := W) t A len c (by rw [he]; exact ht) .i64 (m : Int) (by omega) (by omega)
  rw [he] at hrun
  simp only [hz, Result.andThen_ok, Int.toNat_natCast] at hrun
  refine ⟨A, fun W => ?_, fun W cs h => ?_⟩
  · rw [hrun]
    rcases A with _ | ⟨b, o, sp⟩
    · simp [sliced]
    · by_cases h0 : c = 0 <;> simp [sliced, h0, Addr.add]
  · have := h.take rfl hm
    rwa [Nat.mul_one] at this

/-- New blocks, and one cell of block p: grown by p. -/
theorem grown_set {w w1 : World} (hb : Below w.heap.size w w1) (p j : Nat) (v : Value) : w.grownBy (w1.setCell ⟨p, j, none⟩ v) (some p) :=
  ⟨hb.os, hb.tape, hb.output, by have h1 := hb.size; have h2 := ((Below.refl 0 w1).setCell (Nat.zero_le (⟨p, j, none⟩ : Addr).block) v).size; omega, fun k hk hne => by
    rw [Below.heap_setCell _ _ _ _ (fun e => hne (by rw [e]))]
    exact hb.block k hk⟩
theorem grown_of_below {w w1 : World} (hb : Below w.heap.size w w1) (row : Option Nat) : w.grownBy w1 row := ⟨hb.os, hb.tape, hb.output, hb.size, fun k hk _ => hb.block k hk⟩

/-- append(v, u...) at a step of a region that draws its order: u a slice that reads as a list; the new value written out. -/
theorem step_rd {P : Program} {ops : Array Oper} {o : Oper} {a : Act} {Q : Exit → Act → World → Prop} {w : World} {K : Act → World → Prop} {E : Prop} (hgd : o.guard = none) (s x : Operand) (t : TypeId)
    (ho : o.op = .call { callee := .builtin .append, args := #[s, x], argTypes := #[t, t] })
    (base : Nat) (e : TypeId) (z : Value) (size bytes : Nat) (ht : P.underlying t = some (.slice e)) (hinfo : (P.info? e).map (fun i => (i.zero, i.size, i.bytes)) = some (some z, size, bytes))
    (hzs : z.cells.size = size) (hsz : 0 < size) (hb0 : 0 < bytes)
    (v : Value) (n : Nat) (xs : List Value) (hs : a.eval s = v) (hown : w.ownsRow base e size v n xs)
    (u : Value) (m : Nat) (news : List Value) (hx : a.eval x = u) (hr : Rd w size u m news) (h1 : ∀ u ∈ news, u.oneCell' = true)
    (hbytes : (n + m) * bytes ≤ 140737488355328) (hbase : base ≤ w.heap.size)
    (h : ∀ A c w', w'.ownsRow base e size (.slice A (n + m) c) (n + m) (xs ++ news) → w.grownBy w' v.ownBlock → ((Value.slice A (n + m) c).ownBlock = v.ownBlock ∨ (Value.slice A (n + m) c).ownBlock = some w.heap.size) → K (a.put o.dst (.slice A (n + m) c)) w') :
    if Region.wanted o (yielded ops a.tmps) = true then Oper.wp P o a w K Q else E := by
  have hw : Region.wanted o (yielded ops a.tmps) = true := by simp [Region.wanted, hgd]
  rw [if_pos hw]
  obtain ⟨v', w', hrun, h2, h3, h4⟩ := run_append_rd (P := P) w base t o.type e z size bytes ht hinfo hzs hsz hb0 v n xs hown u m news hr h1 hbytes hbase
  obtain ⟨A, c, rfl, _⟩ := (Rd.of_own h2).shape
  unfold Oper.wp execOp
  simp only [ho, resolve, invoke, builtin, Sem.run_bind, Sem.run_pure, Result.andThen_ok, List.map_toArray, List.map_cons, List.map_nil, hs, hx, hrun]
  exact h A c w' h2 h3 h4

/-- A row of the call's own stays where the world grows by new blocks alone. -/
theorem own_below {w w1 : World} {base : Nat} {e : TypeId} {size n : Nat} {v : Value} {xs : List Value} (h : w.ownsRow base e size v n xs) (hb : Below w.heap.size w w1) : w1.ownsRow base e size v n xs := by
  have hl := h.lt
  refine ⟨h.1, ?_⟩
  rcases h.2 with h2 | ⟨g, cap, cur, hv, h1, hg, r⟩
  · exact .inl h2
  · refine .inr ⟨g, cap, cur, hv, h1, ?_, r⟩
    rw [hb.block g (hl g (by rw [hv]; rfl)).2]
    exact hg
end Go.Proofs.YtfnogpelaoofbaaGreatDoor.B

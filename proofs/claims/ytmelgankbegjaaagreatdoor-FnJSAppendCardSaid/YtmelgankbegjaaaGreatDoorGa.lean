/- Part a of the chain. Conditions: those written at each lemma. -/
import Derived.Below
import Derived.WalkKit
import Derived.BigQuiet
import Derived.Deep.QuietTactic
import Derived.Deep.RegionHeld3
import Derived.Deep.Draws
import Derived.Deep.LoopGhost
import Derived.OwnWalk
import Derived.Maps.AppendAt
import Derived.Laws.AppendOwn
import Derived.Laws.OwnMore
import Derived.Laws.BytesArg
import Derived.Laws.MakeOwn
import Derived.Laws.Rows
import Derived.Deep.AppendLies
import Derived.Lib.Hide
import Derived.OpenShut
namespace Go.Proofs.YtmelgankbegjaaaGreatDoor.B
open Go.RowKit

theorem below_drewN {B : Nat} {a w : World} (h : Below B a w) (n : Nat) : Below B a (w.drewN n) := ⟨h.os, h.tape, h.output, h.size, h.block⟩
theorem bq (a b : Int) : ((a == b) = true ∧ (a != b) = false ∧ a = b) ∨ ((a == b) = false ∧ (a != b) = true ∧ a ≠ b) := by
  by_cases h : a = b
  · exact .inl ⟨beq_iff_eq.2 h, bne_eq_false_iff_eq.2 h, h⟩
  · exact .inr ⟨beq_eq_false_iff_ne.2 h, bne_iff_ne.2 h, h⟩
/-- The world w' is w with some draws more. -/
def Dr (w w' : World) : Prop := ∃ n, w' = w.drewN n
theorem Dr.refl (w : World) : Dr w w := ⟨0, rfl⟩
theorem Dr.drewN {w w' : World} (h : Dr w w') (k : Nat) : Dr w (w'.drewN k) := by
  obtain ⟨n, rfl⟩ := h
  exact ⟨n + k, by rw [World.drewN_drewN]⟩
theorem Dr.drew {w w' : World} (h : Dr w w') : Dr w w'.drew := h.drewN 1
theorem Dr.trans {a b c : World} (h : Dr a b) (k : Dr b c) : Dr a c := by
  obtain ⟨n, rfl⟩ := k
  exact h.drewN n
theorem Dr.below {w w' : World} (h : Dr w w') (B : Nat) : Below B w w' := by
  obtain ⟨n, rfl⟩ := h
  exact below_drewN (Below.refl B w) n
theorem Dr.quiet {P : Program} {f : FuncId} {args : Array Value} {w : World} {n : Nat} {v : Value}
    (h : Calls P f args (w.drewN n) fun e w' => e = .returned v ∧ Dr (w.drewN n) w') : Calls P f args (w.drewN n) fun e w'' => e = .returned v ∧ ∃ m, w'' = w.drewN m := Calls.quiet_of h
theorem quiet_same {P : Program} {f : FuncId} {args : Array Value} {w : World} {n : Nat} {v : Value}
    (h : Calls P f args (w.drewN n) fun e w' => e = .returned v ∧ w.drewN n = w') : Calls P f args (w.drewN n) fun e w'' => e = .returned v ∧ ∃ m, w'' = w.drewN m :=
  h.mono fun _ _ ⟨he, hm⟩ => ⟨he, n, hm.symm⟩
theorem below_then {B : Nat} {w w1 w2 : World} (h : Below B w w1) (hB : B ≤ w1.heap.size) (k : Below w1.heap.size w1 w2) : Below B w w2 := h.trans (k.mono hB)
theorem cell_below {w w1 : World} (h : Below w.heap.size w w1) {a : Addr} {v : Value} (hc : w.cell? a = some v) : w1.cell? a = some v := (h.cell (World.block_lt_of_cell? w a hc)).trans hc
theorem add_plain (g j : Nat) : (⟨g, 0, none⟩ : Addr).add j = ⟨g, j, none⟩ := by unfold Addr.add; split <;> simp_all
theorem add_at (g o j : Nat) : (⟨g, o, none⟩ : Addr).add j = ⟨g, o + j, none⟩ := by unfold Addr.add; split <;> simp_all

/-- The slice v has n elements of size cells each; its cells read cs. -/
def Rd (w : World) (size : Nat) (v : Value) (n : Nat) (cs : List Value) : Prop :=
  cs.length = n * size ∧ ∃ A c, v = .slice A n c ∧ n ≤ c ∧ c ≤ 9223372036854775807 ∧
    (0 < n → ∃ b o, A = some ⟨b, o, none⟩ ∧ b < w.heap.size ∧ ∀ j u, cs[j]? = some u → w.cell? ⟨b, o + j, none⟩ = some u)

section
variable {w w1 : World} {size : Nat} {v : Value} {n : Nat} {cs : List Value}
theorem Rd.len (h : Rd w size v n cs) : cs.length = n * size := h.1
theorem Rd.nil (w : World) (size : Nat) : Rd w size (.slice none 0 0) 0 [] := ⟨by simp, none, 0, rfl, Nat.le_refl _, by omega, fun h => absurd h (by omega)⟩
theorem Rd.le (h : Rd w size v n cs) : n ≤ 9223372036854775807 := by
  obtain ⟨_, A, c, _, h1, h2, _⟩ := h
  omega
theorem Rd.shape (h : Rd w size v n cs) : ∃ A c, v = .slice A n c ∧ n ≤ c ∧ c ≤ 9223372036854775807 := by
  obtain ⟨_, A, c, h1, h2, h3, _⟩ := h
  exact ⟨A, c, h1, h2, h3⟩
theorem Rd.keep (h : Rd w size v n cs) (hs : w.heap.size ≤ w1.heap.size) (hk : ∀ p, p.block < w.heap.size → w1.cell? p = w.cell? p) : Rd w1 size v n cs := by
  obtain ⟨h1, A, c, h2, h3, h4, h5⟩ := h
  refine ⟨h1, A, c, h2, h3, h4, fun hn => ?_⟩
  obtain ⟨b, o, hA, hb, hc⟩ := h5 hn
  exact ⟨b, o, hA, by omega, fun j u hu => (hk ⟨b, o + j, none⟩ hb).trans (hc j u hu)⟩
theorem Rd.below (h : Rd w size v n cs) (hb : Below w.heap.size w w1) : Rd w1 size v n cs := h.keep hb.size fun _ hp => hb.cell hp
theorem Rd.drew (h : Rd w size v n cs) : Rd w.drew size v n cs := h
theorem Rd.drewN (h : Rd w size v n cs) (k : Nat) : Rd (w.drewN k) size v n cs := h
theorem Rd.alloc (h : Rd w size v n cs) (o : Obj) : Rd (w.alloc o) size v n cs := h.keep (by simp) fun p hp => World.cell?_alloc_lt w o p hp
/-- What is there, where there is an element. -/
theorem Rd.open (h : Rd w size v n cs) (hn : 0 < n) : ∃ b o c, v = .slice (some ⟨b, o, none⟩) n c ∧ n ≤ c ∧ c ≤ 9223372036854775807 ∧ b < w.heap.size ∧ ∀ j u, cs[j]? = some u → w.cell? ⟨b, o + j, none⟩ = some u := by
  obtain ⟨_, A, c, h2, h3, h4, h5⟩ := h
  obtain ⟨b, o, rfl, hb, hc⟩ := h5 hn
  exact ⟨b, o, c, h2, h3, h4, hb, hc⟩
theorem Rd.of_own {base : Nat} {e : TypeId} (h : w.ownsRow base e size v n cs) : Rd w size v n cs := by
  refine ⟨h.1, ?_⟩
  rcases h.2 with ⟨rfl, rfl⟩ | ⟨g, cap, cur, rfl, _, hg, hnc, hcap, _, hcur⟩
  · exact ⟨none, 0, rfl, Nat.le_refl _, by omega, fun h => absurd h (by omega)⟩
  · refine ⟨_, cap, rfl, hnc, by simpa [maxLen] using hcap, fun hn => ⟨g, 0, rfl, ?_, fun j u hu => ?_⟩⟩
    · rcases Nat.lt_or_ge g w.heap.size with hlt | hge
      · exact hlt
      · rw [Array.getElem?_eq_none hge] at hg; cases hg
    · have hc := h.cells (g := g) rfl j u hu
      rwa [add_plain, ← Nat.zero_add j] at hc
/-- The slice's first m elements. -/
theorem Rd.take (h : Rd w size v n cs) {A : Option Addr} {c : Nat} (hv : v = .slice A n c) {m : Nat} (hm : m ≤ n) : Rd w size (.slice A m c) m (cs.take (m * size)) := by
  subst hv
  obtain ⟨h1, A', c', h2, h3, h4, h5⟩ := h
  injection h2 with e1 e2 e3
  subst e1; subst e3
  refine ⟨by rw [List.length_take, h1]; exact Nat.min_eq_left (Nat.mul_le_mul_right _ hm), A, c, rfl, by omega, h4, fun hn => ?_⟩
  obtain ⟨b, o, hA, hb, hc⟩ := h5 (by omega)
  refine ⟨b, o, hA, hb, fun j u hu => hc j u ?_⟩
  rw [List.getElem?_take] at hu
  split at hu
  · exact hu
  · cases hu
end

/-- An argument that is a slice of whole numbers, as it is opened. -/
def IsRow (k : IntKind) (w : World) (a : Option Addr) (len cap : Nat) (zs : List Int) : Prop :=
  (a = none ∧ len = 0 ∧ cap = 0 ∧ zs = []) ∨
  ∃ x, a = some x ∧ len ≤ cap ∧ cap ≤ maxLen ∧ zs.length = cap ∧ (∀ i, i < zs.length → w.cell? (x.add i) = some (.int k (zs.getD i 0))) ∧ ∀ n ∈ zs, (Lit.int k n).wf = true

theorem IsRow.rd {k : IntKind} {w : World} {a : Option Addr} {len cap : Nat} {zs : List Int} (h : IsRow k w a len cap zs) :
    Rd w 1 (.slice a len cap) len ((zs.take len).map (Value.int k)) ∧ ∀ n ∈ zs, (Lit.int k n).wf = true := by
  rcases h with ⟨rfl, rfl, rfl, rfl⟩ | ⟨x, rfl, h1, h2, h3, h4, h5⟩
  · exact ⟨Rd.nil _ _, by simp⟩
  · refine ⟨⟨by rw [List.length_map, List.length_take, h3]; omega, _, _, rfl, h1, by simpa [maxLen] using h2, fun hn => ?_⟩, h5⟩
    obtain ⟨b, o, rfl, hc⟩ := ints_at h4 (by omega)
    have hb := World.block_lt_of_cell? w _ (hc 0 (by omega))
    refine ⟨b, o, rfl, hb, fun j u hu => ?_⟩
    rw [List.getElem?_map, List.getElem?_take] at hu
    split at hu
    · rename_i hj
      have hj' : j < zs.length := by omega
      rw [List.getElem?_eq_getElem hj', Option.map_some] at hu
      rw [hc j hj', ← hu, List.getD_eq_getElem?_getD, List.getElem?_eq_getElem hj', Option.getD_some]
    · simp at hu

theorem one1 {x : Value} (h : x.oneCell' = true) : ∀ u ∈ (#[x] : Array Value).toList, u.oneCell' = true := by simpa using h
theorem one_map {α : Type} {f : α → Value} (h : ∀ x, (f x).oneCell' = true) (xs : List α) : ∀ u ∈ xs.map f, u.oneCell' = true := by
  intro u hu
  obtain ⟨x, _, rfl⟩ := List.mem_map.1 hu
  exact h x

theorem IsRow.below {k : IntKind} {w w1 : World} {a : Option Addr} {len cap : Nat} {zs : List Int} (h : IsRow k w a len cap zs) (hb : Below w.heap.size w w1) : IsRow k w1 a len cap zs := by
  rcases h with h | ⟨x, h1, h2, h3, h4, h5, h6⟩
  · exact .inl h
  · exact .inr ⟨x, h1, h2, h3, h4, fun i hi => cell_below hb (h5 i hi), h6⟩

/-! ### append -/
section
variable {P : Program} {ops : Array Oper} {rest : List Oper} {o : Oper} {a : Act} {Q : Exit → Act → World → Prop}

theorem own_base {w : World} {base : Nat} {e : TypeId} {size n : Nat} {v : Value} {xs : List Value} (h : w.ownsRow base e size v n xs) (k : Nat) (hk : v.ownBlock = some k) : base ≤ k := (h.lt k hk).1

/-- append(v, y): y's cells lie in the box that the literal made. -/
theorem app1 {w0 W : World} (base : Nat) (hgd : o.guard = none) (s x : Operand) (t e : TypeId) (z : Value) (size bytes : Nat)
    (ho : o.op = .call { callee := .builtin .append, args := #[s, x], argTypes := #[t, t] })
    (ht : P.underlying t = some (.slice e)) (hinfo : (P.info? e).map (fun i => (i.zero, i.size, i.bytes)) = some (some z, size, bytes)) (hz : z.cells.size = size) (hsz : 0 < size) (hb0 : 0 < bytes)
    (v : Value) (n : Nat) (xs : List Value) (us : Array Value) (hs : a.eval s = v) (hx : a.eval x = .slice (some ⟨W.heap.size, 0, none⟩) 1 1) (hus : us.size = size) (h1 : ∀ u ∈ us.toList, u.oneCell' = true)
    (HO : W.ownsRow base e size v n xs) (HB : Below base w0 W) (hbase : base ≤ W.heap.size) (hl : (n + 1) * bytes ≤ 140737488355328)
    (h : ∀ v1 w1, w1.ownsRow base e size v1 (n + 1) (xs ++ us.toList) → Below base w0 w1 → W.grownBy w1 v.ownBlock → (v1.ownBlock = v.ownBlock ∨ ∃ b, v1.ownBlock = some b ∧ W.heap.size ≤ b) → wpList P ops Q rest (a.put o.dst v1) w1) :
    wpList P ops Q (o :: rest) a (W.alloc (.cells us e)) := by
  obtain ⟨i0, hi, hz0, hz1, hz2⟩ := info_parts hinfo
  have hlen : n + 1 ≤ 140737488355328 := Nat.le_trans (Nat.le_mul_of_pos_right _ hb0) hl
  refine wpList_append_own_at (W.alloc (.cells us e)) hgd s x t ho base e i0 z size bytes ht hi hz0 hz1 hz2 hz hsz v n xs hs (HO.alloc _) ⟨W.heap.size, 0, none⟩ 1 1 us.toList hx (by simpa using hus)
    (World.news_of_block (cs := us) (t := e) (fr := (0, 0)) (heap_alloc_new W _)) h1 (by simp only [maxLen]; omega) hl (by simp; omega) ?_
  intro v1 w1 hown hg _ hat
  refine h v1 w1 hown ((HB.alloc hbase _).grown hg (by simp; omega) (own_base HO)) (World.grownBy.trans (World.grownBy_alloc W _ _) hg) ?_
  rcases hat with hat | hat
  · exact .inl hat
  · exact .inr ⟨_, hat, by simp⟩

theorem run_append_of_nil (w : World) (base : Nat) (t ty e : TypeId) (i : TypeInfo) (size : Nat) (ht : P.underlying t = some (.slice e)) (hi : P.info? e = some i)
    (v : Value) (n : Nat) (xs : List Value) (hown : w.ownsRow base e size v n xs) (c : Nat) : (Builtin.append_ #[t, t] ty #[v, .slice none 0 c]).run P w = .ok v w := by
  rcases hown.2 with ⟨rfl, rfl⟩ | ⟨g, cap, cur, rfl, _, _, hnc, _⟩
  · simp [Builtin.append_, run_underlying ht, sizeOf, typeInfo, hi, Builtin.lenOf, Builtin.firstCells]
  · simp [Builtin.append_, run_underlying ht, sizeOf, typeInfo, hi, Builtin.lenOf, Builtin.firstCells, hnc, storeCells]

theorem run_append_rd (w : World) (base : Nat) (t ty e : TypeId) (z : Value) (size bytes : Nat) (ht : P.underlying t = some (.slice e)) (hinfo : (P.info? e).map (fun i => (i.zero, i.size, i.bytes)) = some (some z, size, bytes))
    (hzs : z.cells.size = size) (hsz : 0 < size) (hb0 : 0 < bytes)
    (v : Value) (n : Nat) (xs : List Value) (hown : w.ownsRow base e size v n xs)
    (u : Value) (m : Nat) (news : List Value) (hr : Rd w size u m news) (h1 : ∀ u ∈ news, u.oneCell' = true)
    (hbytes : (n + m) * bytes ≤ 140737488355328) (hbase : base ≤ w.heap.size) :
    ∃ v' w', (Builtin.append_ #[t, t] ty #[v, u]).run P w = .ok v' w' ∧ w'.ownsRow base e size v' (n + m) (xs ++ news) ∧ w.grownBy w' v.ownBlock ∧
      (v'.ownBlock = v.ownBlock ∨ v'.ownBlock = some w.heap.size) := by
  obtain ⟨i, hi, hz, hsize, hby⟩ := info_parts hinfo
  have hlen : n + m ≤ 140737488355328 := Nat.le_trans (Nat.le_mul_of_pos_right _ hb0) hbytes
  obtain ⟨hl, A, c, rfl, _, _, hr2⟩ := hr
  rcases A with _ | ad
  · have hm : m = 0 := by
      rcases Nat.eq_zero_or_pos m with h0 | h0
      · exact h0
      · obtain ⟨_, _, h, _⟩ := hr2 h0
        cases h
    subst hm
    have hn : news = [] := List.eq_nil_of_length_eq_zero (by simpa using hl)
    subst hn
    exact ⟨v, w, run_append_of_nil w base t ty e i size ht hi v n xs hown c, by simpa using hown, World.grownBy.refl w _, .inl rfl⟩
  · have hcells : ∀ j u, news[j]? = some u → w.cell? (ad.add j) = some u := by
      intro j u hu
      rcases Nat.eq_zero_or_pos m with h0 | h0
      · subst h0
        have hn : news = [] := List.eq_nil_of_length_eq_zero (by simpa using hl)
        subst hn
        simp at hu
      · obtain ⟨b, o, h, _, hc⟩ := hr2 h0
        injection h with h
        subst h
        rw [add_at]
        exact hc j u hu
    obtain ⟨v', w', hrun, h2, h3, _, h5⟩ := run_append_own_at (P := P) w base t ty e i z size bytes ht hi hz hsize hby hzs hsz v n xs hown ad m c news hl hcells h1 (by simp only [maxLen]; omega) hbytes hbase
    exact ⟨v', w', hrun, h2, h3, h5⟩

/-- append(v, u...): u a slice that reads as a list. -/
theorem appRd {w0 w : World} (hgd : o.guard = none) (s x : Operand) (t : TypeId)
    (ho : o.op = .call { callee := .builtin .append, args := #[s, x], argTypes := #[t, t] })
    (base : Nat) (e : TypeId) (z : Value) (size bytes : Nat) (ht : P.underlying t = some (.slice e)) (hinfo : (P.info? e).map (fun i => (i.zero, i.size, i.bytes)) = some (some z, size, bytes))
    (hzs : z.cells.size = size) (hsz : 0 < size) (hb0 : 0 < bytes)
    (v : Value) (n : Nat) (xs : List Value) (hs : a.eval s = v) (hown : w.ownsRow base e size v n xs) (HB : Below base w0 w)
    (u : Value) (m : Nat) (news : List Value) (hx : a.eval x = u) (hr : Rd w size u m news) (h1 : ∀ u ∈ news, u.oneCell' = true)
    (hbytes : (n + m) * bytes ≤ 140737488355328) (hbase : base ≤ w.heap.size)
    (h : ∀ v' w', w'.ownsRow base e size v' (n + m) (xs ++ news) → Below base w0 w' → w.grownBy w' v.ownBlock → (v'.ownBlock = v.ownBlock ∨ v'.ownBlock = some w.heap.size) → wpList P ops Q rest (a.put o.dst v') w') : wpList P ops Q (o :: rest) a w :=
  wpList_plain hgd fun K hK => by
    obtain ⟨v', w', hrun, h2, h3, h4⟩ := run_append_rd (P := P) w base t o.type e z size bytes ht hinfo hzs hsz hb0 v n xs hown u m news hr h1 hbytes hbase
    unfold Oper.wp execOp
    simp only [ho, resolve, invoke, builtin, Sem.run_bind, Sem.run_pure, Result.andThen_ok, List.map_toArray, List.map_cons, List.map_nil, hs, hx, hrun]
    exact hK _ _ (h v' w' h2 (HB.grown h3 hbase (own_base hown)) h3 h4)
/-- The same, the new value written out. -/
theorem appRs {w0 w : World} (hgd : o.guard = none) (s x : Operand) (t : TypeId)
    (ho : o.op = .call { callee := .builtin .append, args := #[s, x], argTypes := #[t, t] })
    (base : Nat) (e : TypeId) (z : Value) (size bytes : Nat) (ht : P.underlying t = some (.slice e)) (hinfo : (P.info? e).map (fun i => (i.zero, i.size, i.bytes)) = some (some z, size, bytes))
    (hzs : z.cells.size = size) (hsz : 0 < size) (hb0 : 0 < bytes)
    (v : Value) (n : Nat) (xs : List Value) (hs : a.eval s = v) (hown : w.ownsRow base e size v n xs) (HB : Below base w0 w)
    (u : Value) (m : Nat) (news : List Value) (hx : a.eval x = u) (hr : Rd w size u m news) (h1 : ∀ u ∈ news, u.oneCell' = true)
    (hbytes : (n + m) * bytes ≤ 140737488355328) (hbase : base ≤ w.heap.size)
    (h : ∀ A c w', w'.ownsRow base e size (.slice A (n + m) c) (n + m) (xs ++ news) → Below base w0 w' → w.grownBy w' v.ownBlock → wpList P ops Q rest (a.put o.dst (.slice A (n + m) c)) w') : wpList P ops Q (o :: rest) a w :=
  appRd hgd s x t ho base e z size bytes ht hinfo hzs hsz hb0 v n xs hs hown HB u m news hx hr h1 hbytes hbase fun v' w' h2 h3 h4 _ => by
    obtain ⟨A, c, rfl, _⟩ := (Rd.of_own h2).shape
    exact h A c w' h2 h3 h4
theorem app1s {w0 W : World} (base : Nat) (hgd : o.guard = none) (s x : Operand) (t e : TypeId) (z : Value) (size bytes : Nat)
    (ho : o.op = .call { callee := .builtin .append, args := #[s, x], argTypes := #[t, t] })
    (ht : P.underlying t = some (.slice e)) (hinfo : (P.info? e).map (fun i => (i.zero, i.size, i.bytes)) = some (some z, size, bytes)) (hz : z.cells.size = size) (hsz : 0 < size) (hb0 : 0 < bytes)
    (v : Value) (n : Nat) (xs : List Value) (us : Array Value) (hs : a.eval s = v) (hx : a.eval x = .slice (some ⟨W.heap.size, 0, none⟩) 1 1) (hus : us.size = size) (h1 : ∀ u ∈ us.toList, u.oneCell' = true)
    (HO : W.ownsRow base e size v n xs) (HB : Below base w0 W) (hbase : base ≤ W.heap.size) (hl : (n + 1) * bytes ≤ 140737488355328)
    (h : ∀ A c w1, w1.ownsRow base e size (.slice A (n + 1) c) (n + 1) (xs ++ us.toList) → Below base w0 w1 → W.grownBy w1 v.ownBlock → wpList P ops Q rest (a.put o.dst (.slice A (n + 1) c)) w1) :
    wpList P ops Q (o :: rest) a (W.alloc (.cells us e)) :=
  app1 base hgd s x t e z size bytes ho ht hinfo hz hsz hb0 v n xs us hs hx hus h1 HO HB hbase hl fun v1 w1 h2 h3 h4 _ => by
    obtain ⟨A, c, rfl, _⟩ := (Rd.of_own h2).shape
    exact h A c w1 h2 h3 h4
end

/-- s[m:], elements of one cell: what it is, and what it reads. -/
theorem tail_of {P : Program} (t e : TypeId) (ht : P.underlying t = some (.slice e)) (hz : ∀ W, (sizeOf e).run P W = .ok 1 W) (A : Option Addr) (len c m : Nat) (hm : m ≤ len) (hc : len ≤ c) :
    ∃ A', (∀ W, (Instr.slice t (.slice A len c) (some (.int .i64 m)) none none).run P W = .ok (.slice A' (len - m) (c - m)) W) ∧ (∀ W cs, Rd W 1 (.slice A len c) len cs → Rd W 1 (.slice A' (len - m) (c - m)) (len - m) (cs.drop m)) := by
  have he : P.elem t = e := by simp [Program.elem, ht]
  have hrun := fun W => run_slice_l (P := P) (w := W) t A len c (by rw [he]; exact ht) .i64 (m : Int) (by omega) (by omega)
  rw [he] at hrun
  simp only [hz, Result.andThen_ok, Int.toNat_natCast] at hrun
  rcases A with _ | ⟨b, o, sp⟩
  · refine ⟨none, fun W => by rw [hrun]; simp [sliced], fun W cs h => ?_⟩
    obtain ⟨h1, A', c', h2, h3, h4, h5⟩ := h
    injection h2 with e1 e2 e3
    have hl : len = 0 := by
      rcases Nat.eq_zero_or_pos len with h0 | h0
      · exact h0
      · obtain ⟨_, _, h6, _⟩ := h5 h0
        rw [← e1] at h6; cases h6
    subst hl
    exact ⟨by rw [List.length_drop, h1]; omega, none, c - m, rfl, by omega, by omega, fun h0 => absurd h0 (by omega)⟩
  · refine ⟨some (if c = m then ⟨b, o, sp⟩ else (⟨b, o, sp⟩ : Addr).add m), fun W => by rw [hrun]; simp [sliced]; split <;> rfl, fun W cs h => ?_⟩
    obtain ⟨h1, A', c', h2, h3, h4, h5⟩ := h
    injection h2 with e1 e2 e3
    refine ⟨by rw [List.length_drop, h1]; omega, _, c - m, rfl, by omega, by omega, fun h0 => ?_⟩
    obtain ⟨b', o', hA, hb, hc'⟩ := h5 (by omega)
    rw [← e1] at hA
    injection hA with hA
    injection hA with a1 a2 a3
    subst a1; subst a2; subst a3
    refine ⟨b, o + m, by rw [if_neg (by omega), add_at], hb, fun j u hu => ?_⟩
    rw [List.getElem?_drop] at hu
    rw [Nat.add_assoc]
    exact hc' _ _ hu
/-- s[:m], elements of one cell. -/
theorem head_of {P : Program} (t e : TypeId) (ht : P.underlying t = some (.slice e)) (hz : ∀ W, (sizeOf e).run P W = .ok 1 W) (A : Option Addr) (len c m : Nat) (hm : m ≤ len) (hc : len ≤ c) :
    ∃ A', (∀ W, (Instr.slice t (.slice A len c) none (some (.int .i64 m)) none).run P W = .ok (.slice A' m c) W) ∧ (∀ W cs, Rd W 1 (.slice A len c) len cs → Rd W 1 (.slice A' m c) m (cs.take m)) := by
  have he : P.elem t = e := by simp [Program.elem, ht]
  have hrun := fun W => run_slice_h (P := P) (w := W) t A len c (by rw [he]; exact ht) .i64 (m : Int) (by omega) (by omega)
  rw [he] at hrun
  simp only [hz, Result.andThen_ok, Int.toNat_natCast] at hrun
  refine ⟨A, fun W => ?_, fun W cs h => ?_⟩
  · rw [hrun]
    rcases A with _ | ⟨b, o, sp⟩
    · simp [sliced]
    · by_cases h0 : c = 0 <;> simp [sliced, h0, Addr.add]
  · have := h.take rfl hm
    rwa [Nat.mul_one] at this

/-- New blocks, and one cell of block p: grown by p. -/
theorem grown_set {w w1 : World} (hb : Below w.heap.size w w1) (p j : Nat) (v : Value) : w.grownBy (w1.setCell ⟨p, j, none⟩ v) (some p) :=
  ⟨hb.os, hb.tape, hb.output, by have h1 := hb.size; have h2 := ((Below.refl 0 w1).setCell (Nat.zero_le (⟨p, j, none⟩ : Addr).block) v).size; omega, fun k hk hne => by
    rw [Below.heap_setCell _ _ _ _ (fun e => hne (by rw [e]))]
    exact hb.block k hk⟩
theorem grown_of_below {w w1 : World} (hb : Below w.heap.size w w1) (row : Option Nat) : w.grownBy w1 row := ⟨hb.os, hb.tape, hb.output, hb.size, fun k hk _ => hb.block k hk⟩

/-- append(v, u...) at a step of a region that draws its order: u a slice that reads as a list; the new value written out. -/
theorem step_rd {P : Program} {ops : Array Oper} {o : Oper} {a : Act} {Q : Exit → Act → World → Prop} {w : World} {K : Act → World → Prop} {E : Prop} (hgd : o.guard = none) (s x : Operand) (t : TypeId)
    (ho : o.op = .call { callee := .builtin .append, args := #[s, x], argTypes := #[t, t] })
    (base : Nat) (e : TypeId) (z : Value) (size bytes : Nat) (ht : P.underlying t = some (.slice e)) (hinfo : (P.info? e).map (fun i => (i.zero, i.size, i.bytes)) = some (some z, size, bytes))
    (hzs : z.cells.size = size) (hsz : 0 < size) (hb0 : 0 < bytes)
    (v : Value) (n : Nat) (xs : List Value) (hs : a.eval s = v) (hown : w.ownsRow base e size v n xs)
    (u : Value) (m : Nat) (news : List Value) (hx : a.eval x = u) (hr : Rd w size u m news) (h1 : ∀ u ∈ news, u.oneCell' = true)
    (hbytes : (n + m) * bytes ≤ 140737488355328) (hbase : base ≤ w.heap.size)
    (h : ∀ A c w', w'.ownsRow base e size (.slice A (n + m) c) (n + m) (xs ++ news) → w.grownBy w' v.ownBlock → ((Value.slice A (n + m) c).ownBlock = v.ownBlock ∨ (Value.slice A (n + m) c).ownBlock = some w.heap.size) → K (a.put o.dst (.slice A (n + m) c)) w') :
    if Region.wanted o (yielded ops a.tmps) = true then Oper.wp P o a w K Q else E := by
  have hw : Region.wanted o (yielded ops a.tmps) = true := by simp [Region.wanted, hgd]
  rw [if_pos hw]
  obtain ⟨v', w', hrun, h2, h3, h4⟩ := run_append_rd (P := P) w base t o.type e z size bytes ht hinfo hzs hsz hb0 v n xs hown u m news hr h1 hbytes hbase
  obtain ⟨A, c, rfl, _⟩ := (Rd.of_own h2).shape
  unfold Oper.wp execOp
  simp only [ho, resolve, invoke, builtin, Sem.run_bind, Sem.run_pure, Result.andThen_ok, List.map_toArray, List.map_cons, List.map_nil, hs, hx, hrun]
  exact h A c w' h2 h3 h4

/-- A row of the call's own stays where the world grows by new blocks alone. -/
theorem own_below {w w1 : World} {base : Nat} {e : TypeId} {size n : Nat} {v : Value} {xs : List Value} (h : w.ownsRow base e size v n xs) (hb : Below w.heap.size w w1) : w1.ownsRow base e size v n xs := by
  have hl := h.lt
  refine ⟨h.1, ?_⟩
  rcases h.2 with h2 | ⟨g, cap, cur, hv, h1, hg, r⟩
  · exact .inl h2
  · refine .inr ⟨g, cap, cur, hv, h1, ?_, r⟩
    rw [hb.block g (hl g (by rw [hv]; rfl)).2]
    exact hg

/-! ### texts -/
theorem strOfNums_map (l : List UInt8) : strOfNums (l.map fun b => (b.toNat : Int)) = ⟨l.toArray⟩ := by
  unfold strOfNums
  rw [List.map_map]
  congr 1
  rw [show ((fun n : Int => UInt8.ofNat n.toNat) ∘ fun b : UInt8 => (b.toNat : Int)) = id from by funext b; simp]
  simp

/-- string(b), b a slice of bytes that reads as a list of numbers. -/
theorem str_of_rd {P : Program} {w : World} {src dst e : TypeId} (hs : P.underlying src = some (.slice e)) (he : P.underlying e = some (.int .u8)) (hd : P.underlying dst = some .string)
    {v : Value} {n : Nat} {xs : List Int} (h : Rd w 1 v n (xs.map (Value.int .u8))) : (convert src dst v).run P w = .ok (.string (strOfNums xs)) w := by
  obtain ⟨hl, A, c, rfl, _, _, h5⟩ := h
  have hlen : xs.length = n := by simpa using hl
  rcases Nat.eq_zero_or_pos n with h0 | h0
  · subst h0
    obtain rfl : xs = [] := List.eq_nil_of_length_eq_zero hlen
    rcases A with _ | ⟨b, o, sp⟩
    · exact run_convert_bytes_nil w src e hs he 0 c dst hd
    · rw [run_convert_bytes_string w src dst e _ 0 c hs he hd, run_bytesToString w ⟨b, o, sp⟩ 0 c [] (run_loadCells_list (P := P) w ⟨b, o, sp⟩ [] (fun j v hj => by simp at hj)), foldl_push_bytes]
      rfl
  · obtain ⟨b, o, rfl, _, hc⟩ := h5 h0
    refine run_convert_bytes_arg w src e hs he b o n c xs hlen (fun i hi => hc i _ ?_) dst hd
    rw [List.getElem?_map, List.getElem?_eq_getElem (show i < xs.length by omega), List.getD_eq_getElem?_getD, List.getElem?_eq_getElem (show i < xs.length by omega)]
    rfl

end Go.Proofs.YtmelgankbegjaaaGreatDoor.B

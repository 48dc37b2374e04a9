/- Points in memory: as pairs of numbers, as the program's points; lines of points. Conditions: those written at each lemma. -/
import Derived.Test.YtfelbaibbanllaaGreatChecked
import Derived.Test.YtfelbaibbanllaaGreatBase
import Derived.Test.YtfelbaibbanllaaGreatFm
import Derived.WalkKit
import Derived.LoopN
import Derived.Deep.Cut
import Derived.Deep.Onto
import Derived.Handy
set_option linter.unusedVariables false
set_option linter.unusedSimpArgs false
set_option maxRecDepth 100000
set_option maxHeartbeats 4000000
namespace Go.Proofs.YtfelbaibbanllaaGreat.Ge
open Go.RowKit Go.Proofs.YtfelbaibbanllaaGreat.B

abbrev ptV (p : Nat × Nat) : Value := .agg #[.float .f64 p.1, .float .f64 p.2]
abbrev gpV (p : Nat × Nat) : Value := .agg #[.int .u32 0, .float .f64 p.1, .float .f64 p.2]
def pc (l : List (Nat × Nat)) : List Value := l.flatMap fun p => [.float .f64 p.1, .float .f64 p.2]
def qc (l : List (Nat × Nat)) : List Value := l.flatMap fun p => [.int .u32 0, .float .f64 p.1, .float .f64 p.2]
theorem pc_len (l : List (Nat × Nat)) : (pc l).length = l.length * 2 := by
  induction l with
  | nil => rfl
  | cons p l ih => simp only [pc, List.flatMap_cons, List.length_append, List.length_cons, List.length_nil] at *; omega
theorem qc_len (l : List (Nat × Nat)) : (qc l).length = l.length * 3 := by
  induction l with
  | nil => rfl
  | cons p l ih => simp only [qc, List.flatMap_cons, List.length_append, List.length_cons, List.length_nil] at *; omega
theorem pc_append (l m : List (Nat × Nat)) : pc (l ++ m) = pc l ++ pc m := List.flatMap_append
theorem qc_append (l m : List (Nat × Nat)) : qc (l ++ m) = qc l ++ qc m := List.flatMap_append
theorem pc_get : ∀ (l : List (Nat × Nat)) (i : Nat) (h : i < l.length), (pc l)[i * 2]? = some (.float .f64 l[i].1) ∧ (pc l)[i * 2 + 1]? = some (.float .f64 l[i].2)
  | p :: l, 0, _ => ⟨rfl, rfl⟩
  | p :: l, i + 1, h => by
    have h2 := pc_get l i (by simpa using h)
    have e : pc (p :: l) = Value.float .f64 p.1 :: .float .f64 p.2 :: pc l := rfl
    rw [e, show (i + 1) * 2 = i * 2 + 1 + 1 by omega, show i * 2 + 1 + 1 + 1 = (i * 2 + 1) + 1 + 1 by omega]
    simpa using h2
theorem qc_get : ∀ (l : List (Nat × Nat)) (i : Nat) (h : i < l.length), (qc l)[i * 3]? = some (.int .u32 0) ∧ (qc l)[i * 3 + 1]? = some (.float .f64 l[i].1) ∧ (qc l)[i * 3 + 2]? = some (.float .f64 l[i].2)
  | p :: l, 0, _ => ⟨rfl, rfl, rfl⟩
  | p :: l, i + 1, h => by
    have h2 := qc_get l i (by simpa using h)
    have e : qc (p :: l) = Value.int .u32 0 :: .float .f64 p.1 :: .float .f64 p.2 :: qc l := rfl
    rw [e, show (i + 1) * 3 = i * 3 + 1 + 1 + 1 by omega, show i * 3 + 1 + 1 + 1 + 1 = (i * 3 + 1) + 1 + 1 + 1 by omega, show i * 3 + 1 + 1 + 1 + 2 = (i * 3 + 2) + 1 + 1 + 1 by omega]
    simpa using h2
theorem take_snoc {α : Type} (l : List α) (k : Nat) (h : k < l.length) : l.take (k + 1) = l.take k ++ [l[k]] := List.take_succ_eq_append_getElem h

/-- What a slice of pairs reads at i. -/
theorem pc_at {W : World} {A : Option Addr} {n c : Nat} {l : List (Nat × Nat)} (h : Rd W 2 (.slice A n c) n (pc l)) (i : Nat) (hi : i < l.length) : ∃ b o, A = some ⟨b, o, none⟩ ∧ b < W.heap.size ∧ W.cell? ⟨b, o + i * 2, none⟩ = some (.float .f64 l[i].1) ∧ W.cell? ⟨b, o + i * 2 + 1, none⟩ = some (.float .f64 l[i].2) := by
  have hl := h.len
  rw [pc_len] at hl
  obtain ⟨b, o, c', e, _, _, hb, hc⟩ := h.open (by omega)
  injection e with e1 e2 e3
  obtain ⟨g0, g1⟩ := pc_get l i hi
  exact ⟨b, o, e1, hb, hc _ _ g0, by rw [Nat.add_assoc]; exact hc _ _ g1⟩
/-- What a slice of the program's points reads at i. -/
theorem qc_at {W : World} {A : Option Addr} {n c : Nat} {l : List (Nat × Nat)} (h : Rd W 3 (.slice A n c) n (qc l)) (i : Nat) (hi : i < l.length) : ∃ b o, A = some ⟨b, o, none⟩ ∧ b < W.heap.size ∧ W.cell? ⟨b, o + i * 3, none⟩ = some (.int .u32 0) ∧ W.cell? ⟨b, o + i * 3 + 1, none⟩ = some (.float .f64 l[i].1) ∧ W.cell? ⟨b, o + i * 3 + 2, none⟩ = some (.float .f64 l[i].2) := by
  have hl := h.len
  rw [qc_len] at hl
  obtain ⟨b, o, c', e, _, _, hb, hc⟩ := h.open (by omega)
  injection e with e1 e2 e3
  obtain ⟨g0, g1, g2⟩ := qc_get l i hi
  exact ⟨b, o, e1, hb, hc _ _ g0, by rw [Nat.add_assoc]; exact hc _ _ g1, by rw [Nat.add_assoc]; exact hc _ _ g2⟩

theorem mkf (fn : Fn) (first cap : Array Value) (w : World) : (Instr.makeFunc fn first cap).run Tryz.prog w = .ok (.func fn first cap) w := rfl
/-- A row of the call's own stays where a cell of an elder block is written. -/
theorem own_set {W : World} {B : Nat} {e : TypeId} {s n : Nat} {v : Value} {xs : List Value} (h : W.ownsRow B e s v n xs) (p : Addr) (u : Value) (hp : p.block < B) : (W.setCell p u).ownsRow B e s v n xs := by
  refine ⟨h.1, ?_⟩
  rcases h.2 with h2 | ⟨g, cap, cur, h1, h2, h3, h4⟩
  · exact .inl h2
  · refine .inr ⟨g, cap, cur, h1, h2, ?_, h4⟩
    rw [Below.heap_setCell _ _ _ _ (fun e => by omega)]
    exact h3
theorem cell1 {w : World} {b : Nat} {v : Value} {t : TypeId} (h : w.heap[b]? = some (.cells #[v] t (0, 0))) : w.cell? ⟨b, 0, none⟩ = some v ∧ w.frozen? ⟨b, 0, none⟩ = false := by
  refine ⟨?_, ?_⟩ <;> simp [World.cell?, World.frozen?, h]
theorem cells_two {w : World} {b : Nat} {v0 v1 : Value} {t : TypeId} (h : w.heap[b]? = some (.cells #[v0, v1] t (0, 0))) : w.cell? ⟨b, 0, none⟩ = some v0 ∧ w.cell? ⟨b, 1, none⟩ = some v1 ∧ w.frozen? ⟨b, 0, none⟩ = false ∧ w.frozen? ⟨b, 1, none⟩ = false := by
  refine ⟨?_, ?_, ?_, ?_⟩ <;> simp [World.cell?, World.frozen?, h]
theorem cells_three {w : World} {b : Nat} {v0 v1 v2 : Value} {t : TypeId} (h : w.heap[b]? = some (.cells #[v0, v1, v2] t (0, 0))) : w.cell? ⟨b, 0, none⟩ = some v0 ∧ w.cell? ⟨b, 1, none⟩ = some v1 ∧ w.cell? ⟨b, 2, none⟩ = some v2 ∧ w.frozen? ⟨b, 0, none⟩ = false ∧ w.frozen? ⟨b, 1, none⟩ = false ∧ w.frozen? ⟨b, 2, none⟩ = false := by
  refine ⟨?_, ?_, ?_, ?_, ?_, ?_⟩ <;> simp [World.cell?, World.frozen?, h]
theorem run_store_float {P : Program} {w : World} {a : Addr} {m : Mode} (k : FloatKind) (x : Nat) : (store a (.float k x) m).run P w = stored P w a (.float k x) m := run_store P w a _ m rfl
attribute [local go_sem] run_store_float
/-- One point, as the program has it. -/
theorem gp_any (p : Nat × Nat) (b : Nat) (w : World) (hc : w.cell? ⟨b, 0, none⟩ = some (.int .u32 0)) (hb : b < w.heap.size) :
    Calls Tryz.prog 41 #[ptV p, .pointer (some ⟨b, 0, none⟩)] w fun e w' => e = .returned (gpV p) ∧ Below w.heap.size w w' := by
  obtain ⟨x, y⟩ := p
  go_enter Tryz.func41, Tryz.ntmps41
  go_wp2
  refine bodyPost_ret (v := gpV (x, y)) ?_ rfl ⟨rfl, ?_⟩
  · simp only [results, show Tryz.f41.results = #[.cell 3 56] by kernel_rfl]
    go_simp
  · exact ((Below.refl _ _).alloc (Nat.le_refl _) _).alloc (by simp) _

theorem info61 : (Tryz.prog.info? 56).map (fun i => (i.zero, i.size, i.bytes)) = some (some (.agg #[.int .u32 0, .float .f64 0, .float .f64 0]), 3, 24) := by kernel_rfl
theorem info28 : (Tryz.prog.info? 24).map (fun i => (i.zero, i.size, i.bytes)) = some (some (.agg #[.float .f64 0, .float .f64 0]), 2, 16) := by kernel_rfl
theorem one3 {x y z : Value} (h : x.oneCell' = true) (h2 : y.oneCell' = true) (h3 : z.oneCell' = true) : ∀ u ∈ (#[x, y, z] : Array Value).toList, u.oneCell' = true := by simpa using ⟨h, h2, h3⟩
theorem one2 {x y : Value} (h : x.oneCell' = true) (h2 : y.oneCell' = true) : ∀ u ∈ (#[x, y] : Array Value).toList, u.oneCell' = true := by simpa using ⟨h, h2⟩

/-- The pairs, one by one, as the program's points. -/
theorem turned_any (A : Option Addr) (c : Nat) (l : List (Nat × Nat)) (g : Nat) (w : World) (hr : Rd w 2 (.slice A l.length c) l.length (pc l)) (hc : w.cell? ⟨g, 0, none⟩ = some (.int .u32 0)) (hg : g < w.heap.size) (hl : l.length ≤ 100000) :
    Calls Tryz.prog 40 #[.slice A l.length c, .func (.func 41) #[] #[.pointer (some ⟨g, 0, none⟩)]] w fun e w' => ∃ A c, e = .returned (.slice A l.length c) ∧ w'.ownsRow w.heap.size 56 3 (.slice A l.length c) l.length (qc l) ∧ Below w.heap.size w w' := by
  have HR := Lib.hid hr
  have HC := Lib.hid hc
  have HL := Lib.hid hl
  obtain ⟨N, hN⟩ : ∃ N, N = l.length := ⟨_, rfl⟩
  have HN := Lib.hid hN
  rw [← hN]
  have hNl : N ≤ 100000 := by omega
  clear hr hc hl hN
  go_enter Tryz.func40, Tryz.ntmps40
  go_wp2
  go_loopw [5, 7, 10] (fun v5 v7 v10 wr => ∃ k : Nat, v10 = .int .i64 k ∧ k ≤ N ∧ Hid (wr.ownsRow w.heap.size 56 3 v5 k (qc (l.take k))) ∧ Hid (Below w.heap.size w wr)) (fun _ _ v10 _ => (N - (intOf v10)).toNat)
  case atStart => exact ⟨0, rfl, Nat.zero_le _, Lib.hid (World.ownsRow_nil _ _ _ _), Lib.hid (Below.refl _ _)⟩
  case round =>
    obtain ⟨k, rfl, hk, HO, HB⟩ := hrel
    by_cases hlt : k < N
    · have hlt2 : k < l.length := by rw [← HN.out]; exact hlt
      obtain ⟨b, o, rfl, hb, h0, h1⟩ := pc_at (by have h := HR.out; exact h) k hlt2
      have c0 := (HB.out.cell (p := ⟨b, o + k * 2, none⟩) hb).trans h0
      have c1 := (HB.out.cell (p := ⟨b, o + k * 2 + 1, none⟩) hb).trans h1
      have HT := Lib.hid (show qc (l.take (k + 1)) = qc (l.take k) ++ [.int .u32 0, .float .f64 l[k].1, .float .f64 l[k].2] from by rw [take_snoc l k hlt2, qc_append]; rfl)
      have hbs := HB.out.size
      have HG := Lib.hid (fun W (hW : Below w.heap.size w W) => (hW.cell (p := ⟨g, 0, none⟩) hg).trans HC.out)
      clear h0 h1
      generalize l[k] = p at *
      obtain ⟨x, y⟩ := p
      simp only at c0 c1 HT
      have HB1 := Lib.hid (HB.out.alloc hbs (.cells #[.float .f64 x, .float .f64 y] 24))
      have HO1 := Lib.hid (own_below HO.out ((Below.refl _ _).alloc (Nat.le_refl _) (.cells #[.float .f64 x, .float .f64 y] 24)))
      have GP := Lib.hid (fun W (hW : Below w.heap.size w W) => gp_any (x, y) g W (HG.out W hW) (Nat.lt_of_lt_of_le hg hW.size))
      go_wp2_with (first
        | (go_at_call 41; go_loud (with_reducible refine (GP.out _ HB1.out).mono ?_); rintro e w2 ⟨rfl, hb2⟩; have HO2 := Lib.hid (own_below HO1.out hb2); have HB2 := Lib.hid (HB1.out.trans (hb2.mono HB1.out.size)); clear hb2)
        | (at_builtin; go_loud (refine app1s (w0 := w) (W := w2) w.heap.size rfl (.tmp 14) (.tmp 18) 57 56 (.agg #[.int .u32 0, .float .f64 0, .float .f64 0]) 3 24 rfl Tryz.underlying57 info61 rfl (by omega) (by omega) u5 _ _ _ rfl rfl rfl (one3 rfl rfl rfl) HO2.out HB2.out HB2.out.size (by omega) ?_); intro A9 c9 w3 hown3 hb3 hg3; have HO3 := Lib.hid hown3; have HB3 := Lib.hid hb3; clear hown3 hb3 hg3))
      go_roundw
      case rel => exact ⟨k + 1, by go_num, by omega, Lib.hid (by rw [HT.out]; exact HO3.out), HB3⟩
      case measure => simp [intOf]; omega
    · have hkN : k = N := by omega
      subst hkN
      have HOF : Hid (wr.ownsRow w.heap.size 56 3 u5 k (qc l)) := Lib.hid (by have h := HO.out; rwa [HN.out, List.take_length, ← HN.out] at h)
      obtain ⟨A3, c3, rfl, _⟩ := (Rd.of_own HOF.out).shape
      go_wp2
      go_ret
      exact ⟨A3, c3, rfl, HOF.out, HB.out⟩
end Go.Proofs.YtfelbaibbanllaaGreat.Ge

/- The law's nodes in memory. Conditions: those written at each lemma. -/
import Derived.Test.YtmelgankbegjaaaJe
import Derived.Test.YtmelgankbegjaaaFm
set_option linter.unusedVariables false
set_option linter.unusedSimpArgs false
set_option maxRecDepth 100000
set_option maxHeartbeats 4000000
namespace Go.Proofs.Ytmelgankbegjaaa.Js
open Go.RowKit Go.Proofs.Ytmelgankbegjaaa.B

/-- The bits of a whole number as a float. -/
def jw (n : Int) : Nat := if n = 0 then 0 else F.dbl.word (decide (n < 0)) ((1074 - (52 - n.natAbs.log2)) * 4503599627370496 + n.natAbs * 2 ^ (52 - n.natAbs.log2))
theorem log_le (m : Nat) (h : m < 9007199254740992) : m.log2 ≤ 52 := by
  by_cases h0 : m = 0
  · subst h0; decide
  · have h3 := (Nat.log2_lt h0 (k := 53)).2 (by omega)
    omega
theorem norm52 (m : Nat) (h0 : m ≠ 0) (h : m < 9007199254740992) : 4503599627370496 ≤ m * 2 ^ (52 - m.log2) ∧ m * 2 ^ (52 - m.log2) < 9007199254740992 := by
  have hl := log_le m h
  have h1 := F.log2_mul m (52 - m.log2) h0
  have hne : m * 2 ^ (52 - m.log2) ≠ 0 := Nat.mul_ne_zero h0 (Nat.pos_iff_ne_zero.1 (Nat.two_pow_pos _))
  have e : m.log2 + (52 - m.log2) = 52 := by omega
  rw [e] at h1
  have a := (Nat.le_log2 hne (k := 52)).1 (by omega)
  have b := (Nat.log2_lt hne (k := 53)).1 (by omega)
  generalize m * 2 ^ (52 - m.log2) = x at *
  omega
theorem jw_read (n : Int) (h0 : n ≠ 0) (h : n.natAbs < 9007199254740992) : F.dbl.read (jw n) = .number (decide (n < 0)) (n.natAbs * 2 ^ (52 - n.natAbs.log2)) (((1074 - (52 - n.natAbs.log2) : Nat) : Int) - 1074) := by
  obtain ⟨a, b⟩ := norm52 n.natAbs (by omega) h
  unfold jw
  rw [if_neg h0]
  exact F.read_norm _ _ _ b (by omega) (.inr a)
theorem jw_FI (n : Int) (h : n.natAbs < 9007199254740992) : F.FI (jw n) n := by
  by_cases h0 : n = 0
  · subst h0
    have h1 := F.read_norm false 0 0 (by omega) (by omega) (.inl rfl)
    exact ⟨false, 0, 0, h1, by rw [Int.zero_mul]; rfl⟩
  · refine ⟨_, _, _, jw_read n h0 h, ?_⟩
    have hl := log_le n.natAbs h
    have e : n.natAbs * 2 ^ (52 - n.natAbs.log2) * 2 ^ (1074 - (52 - n.natAbs.log2)) = n.natAbs * 2 ^ 1074 := by
      rw [Nat.mul_assoc, ← Nat.pow_add, show 52 - n.natAbs.log2 + (1074 - (52 - n.natAbs.log2)) = 1074 by omega]
    rw [e]
    have h2 := F.sg_scale (decide (n < 0)) n.natAbs 1074
    rw [F.natAbs_sg] at h2
    unfold F.sg at h2
    exact h2
theorem jw_lt (n : Int) (h : n.natAbs < 9007199254740992) : jw n < 18446744073709551616 := by
  unfold jw
  split
  · omega
  · rename_i h0
    obtain ⟨a, b⟩ := norm52 n.natAbs (by omega) h
    unfold Ieee.Format.word
    rw [F.dbl_sw]
    have : 1074 - (52 - n.natAbs.log2) ≤ 1074 := Nat.sub_le _ _
    generalize n.natAbs * 2 ^ (52 - n.natAbs.log2) = x at *
    split <;> omega
/-- The bits of a node's number. -/
def nb (k n : Int) : Int := if k = 1 then n else if k = 2 then ((jw n : Nat) : Int) else 0
mutual
/-- The value v reads as a tree. -/
def NN (p : Nat → Prop) (W : World) : J → Value → Prop
  | .mk k n s ns is, v => ∃ A c A2 c2 hs, v = .agg #[.int .i64 k, .int .u64 (nb k n), .string s, .slice A ns.length c, .slice A2 is.length c2] ∧
      Rp p W 1 (.slice A ns.length c) ns.length (strs ns) ∧ Rp p W 5 (.slice A2 is.length c2) is.length (flat hs) ∧ NNs p W is hs
def NNs (p : Nat → Prop) (W : World) : List J → List Value → Prop
  | [], hs => hs = []
  | t :: r, hs => ∃ h hs', hs = h :: hs' ∧ NN p W t h ∧ NNs p W r hs'
end
mutual
theorem NN.imp {p q : Nat → Prop} {W W' : World} (H : ∀ size v n cs, Rp p W size v n cs → Rp q W' size v n cs) : ∀ (t : J) (v : Value), NN p W t v → NN q W' t v
  | .mk k n s ns is, v, h => by
    obtain ⟨A, c, A2, c2, hs, e, h1, h2, h3⟩ := h
    exact ⟨A, c, A2, c2, hs, e, H _ _ _ _ h1, H _ _ _ _ h2, NNs.imp H is hs h3⟩
theorem NNs.imp {p q : Nat → Prop} {W W' : World} (H : ∀ size v n cs, Rp p W size v n cs → Rp q W' size v n cs) : ∀ (ts : List J) (hs : List Value), NNs p W ts hs → NNs q W' ts hs
  | [], hs, h => h
  | t :: r, hs, h => by
    obtain ⟨x, hs', e, h1, h2⟩ := h
    exact ⟨x, hs', e, NN.imp H t x h1, NNs.imp H r hs' h2⟩
end
theorem NN.below {p : Nat → Prop} {W W' : World} {t : J} {v : Value} (h : NN p W t v) (hb : Below W.heap.size W W') : NN p W' t v := NN.imp (fun _ _ _ _ h => h.below hb) t v h
theorem NN.weak {p q : Nat → Prop} {W : World} {t : J} {v : Value} (h : NN p W t v) (H : ∀ b, b < W.heap.size → p b → q b) : NN q W t v := NN.imp (fun _ _ _ _ h => h.weak H) t v h
theorem NN.grown {p : Nat → Prop} {W W' : World} {t : J} {v : Value} {row : Option Nat} (h : NN p W t v) (hg : W.grownBy W' row) (H : ∀ b, p b → some b ≠ row) : NN p W' t v := NN.imp (fun _ _ _ _ h => h.grown hg H) t v h
theorem NNs.below {p : Nat → Prop} {W W' : World} {t : List J} {v : List Value} (h : NNs p W t v) (hb : Below W.heap.size W W') : NNs p W' t v := NNs.imp (fun _ _ _ _ h => h.below hb) t v h
theorem NNs.weak {p q : Nat → Prop} {W : World} {t : List J} {v : List Value} (h : NNs p W t v) (H : ∀ b, b < W.heap.size → p b → q b) : NNs q W t v := NNs.imp (fun _ _ _ _ h => h.weak H) t v h
theorem NNs.grown {p : Nat → Prop} {W W' : World} {t : List J} {v : List Value} {row : Option Nat} (h : NNs p W t v) (hg : W.grownBy W' row) (H : ∀ b, p b → some b ≠ row) : NNs p W' t v := NNs.imp (fun _ _ _ _ h => h.grown hg H) t v h
theorem NNs.len {p : Nat → Prop} {W : World} : ∀ {ts : List J} {hs : List Value}, NNs p W ts hs → hs.length = ts.length
  | [], hs, h => by rw [show hs = [] from h]; rfl
  | t :: r, hs, h => by
    obtain ⟨x, hs', rfl, _, h2⟩ := h
    simp [NNs.len h2]
theorem NNs.get {p : Nat → Prop} {W : World} : ∀ {ts : List J} {hs : List Value}, NNs p W ts hs → ∀ (i : Nat) (h1 : i < ts.length) (h2 : i < hs.length), NN p W ts[i] hs[i]
  | t :: r, hs, h, 0, _, _ => by
    obtain ⟨x, hs', rfl, h1, _⟩ := h
    exact h1
  | t :: r, hs, h, i + 1, h1, h2 => by
    obtain ⟨x, hs', rfl, _, h3⟩ := h
    exact NNs.get h3 i (by simpa using h1) (by simpa using h2)
theorem NNs.push {p : Nat → Prop} {W : World} {t : J} {x : Value} : ∀ {ts : List J} {hs : List Value}, NNs p W ts hs → NN p W t x → NNs p W (ts ++ [t]) (hs ++ [x])
  | [], hs, h, hx => by
    rw [show hs = [] from h]
    exact ⟨x, [], rfl, hx, rfl⟩
  | t' :: r, hs, h, hx => by
    obtain ⟨y, hs', rfl, h1, h2⟩ := h
    exact ⟨y, hs' ++ [x], rfl, h1, NNs.push h2 hx⟩
/-- The five cells of a tree's value. -/
theorem NN.five {p : Nat → Prop} {W : World} {t : J} {v : Value} (h : NN p W t v) : ∃ A c A2 c2, v = .agg #[.int .i64 t.k, .int .u64 (nb t.k t.n), .string t.s, .slice A t.ns.length c, .slice A2 t.is.length c2] ∧
    Rp p W 1 (.slice A t.ns.length c) t.ns.length (strs t.ns) ∧ ∃ hs, Rp p W 5 (.slice A2 t.is.length c2) t.is.length (flat hs) ∧ NNs p W t.is hs := by
  obtain ⟨k, n, s, ns, is⟩ := t
  obtain ⟨A, c, A2, c2, hs, e, h1, h2, h3⟩ := h
  exact ⟨A, c, A2, c2, e, h1, hs, h2, h3⟩
theorem NNs.cells {p : Nat → Prop} {W : World} {ts : List J} {hs : List Value} (h : NNs p W ts hs) : ∀ x ∈ hs, x.cells.size = 5 := by
  intro x hx
  obtain ⟨i, hi, rfl⟩ := List.mem_iff_getElem.1 hx
  obtain ⟨A, c, A2, c2, e, _⟩ := (h.get i (by rw [← h.len]; exact hi) hi).five
  rw [e]
  rfl
/-- The item number i of a row of trees. -/
theorem node_item {p : Nat → Prop} {W : World} {A : Option Addr} {n c : Nat} {ts : List J} {hs : List Value} (hr : Rd W 5 (.slice A n c) n (flat hs)) (h : NNs p W ts hs) (hn : n = ts.length) (i : Nat) (hi : i < ts.length) :
    ∃ b o A1 c1 A2 c2, A = some ⟨b, o, none⟩ ∧ b < W.heap.size ∧ W.cell? ⟨b, o + i * 5, none⟩ = some (.int .i64 ts[i].k) ∧ W.cell? ⟨b, o + i * 5 + 1, none⟩ = some (.int .u64 (nb ts[i].k ts[i].n)) ∧ W.cell? ⟨b, o + i * 5 + 2, none⟩ = some (.string ts[i].s) ∧
      W.cell? ⟨b, o + i * 5 + 3, none⟩ = some (.slice A1 ts[i].ns.length c1) ∧ W.cell? ⟨b, o + i * 5 + 4, none⟩ = some (.slice A2 ts[i].is.length c2) ∧
      NN p W ts[i] (.agg #[.int .i64 ts[i].k, .int .u64 (nb ts[i].k ts[i].n), .string ts[i].s, .slice A1 ts[i].ns.length c1, .slice A2 ts[i].is.length c2]) := by
  have hi2 : i < hs.length := by rw [h.len]; exact hi
  have hj := h.get i hi hi2
  obtain ⟨A1, c1, A2, c2, e, _⟩ := hj.five
  obtain ⟨b, o, c', hv, _, _, hb, hc⟩ := hr.open (by omega)
  injection hv with e1 _ _
  obtain ⟨g0, g1, g2, g3, g4⟩ := flat_get i hi2 _ _ _ _ _ h.cells e
  rw [e] at hj
  exact ⟨b, o, A1, c1, A2, c2, e1, hb, hc _ _ g0, hc _ _ g1, hc _ _ g2, hc _ _ g3, hc _ _ g4, hj⟩
theorem nflat_len {p : Nat → Prop} {W : World} {ts : List J} {hs : List Value} (h : NNs p W ts hs) : (flat hs).length = ts.length * 5 := by
  have h5 := h.cells
  rw [← h.len]
  clear h
  induction hs with
  | nil => rfl
  | cons x r ih =>
    show (x.cells.toList ++ flat r).length = _
    rw [List.length_append, Array.length_toList, h5 x (.head _), ih (fun y hy => h5 y (.tail _ hy)), List.length_cons]
    omega

end Go.Proofs.Ytmelgankbegjaaa.Js

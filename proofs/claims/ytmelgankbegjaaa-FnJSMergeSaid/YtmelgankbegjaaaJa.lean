/- JSON values as trees; how they lie in memory. Conditions: those written at each lemma. -/
import Derived.Test.YtmelgankbegjaaaBase
import Derived.Test.YtmelgankbegjaaaRw
set_option linter.unusedVariables false
set_option linter.unusedSimpArgs false
set_option maxRecDepth 100000
namespace Go.Proofs.Ytmelgankbegjaaa.Js
open Go.RowKit Go.Proofs.Ytmelgankbegjaaa.B

/-- A JSON value: its kind, its number, its text, its names, its items. -/
inductive J where
  | mk (k n : Int) (s : ByteArray) (ns : List ByteArray) (is : List J)
abbrev J.k : J → Int | .mk k _ _ _ _ => k
abbrev J.n : J → Int | .mk _ n _ _ _ => n
abbrev J.s : J → ByteArray | .mk _ _ s _ _ => s
abbrev J.ns : J → List ByteArray | .mk _ _ _ ns _ => ns
abbrev J.is : J → List J | .mk _ _ _ _ is => is
/-- A slice that reads as a list of cells, and lies in a block of a kind. -/
def Rp (p : Nat → Prop) (W : World) (size : Nat) (v : Value) (n : Nat) (cs : List Value) : Prop :=
  Rd W size v n cs ∧ ∀ b o c, v = .slice (some ⟨b, o, none⟩) n c → 0 < n → p b
abbrev strs (l : List ByteArray) : List Value := l.map Value.string
abbrev flat (hs : List Value) : List Value := hs.flatMap fun h => h.cells.toList
mutual
/-- The value v reads as a tree. -/
def JN (p : Nat → Prop) (W : World) : J → Value → Prop
  | .mk k n s ns is, v => ∃ A c A2 c2 hs, v = .agg #[.int .i64 k, .int .i64 n, .string s, .slice A ns.length c, .slice A2 is.length c2] ∧
      Rp p W 1 (.slice A ns.length c) ns.length (strs ns) ∧ Rp p W 5 (.slice A2 is.length c2) is.length (flat hs) ∧ JNs p W is hs
def JNs (p : Nat → Prop) (W : World) : List J → List Value → Prop
  | [], hs => hs = []
  | t :: r, hs => ∃ h hs', hs = h :: hs' ∧ JN p W t h ∧ JNs p W r hs'
end
mutual
theorem JN.imp {p q : Nat → Prop} {W W' : World} (H : ∀ size v n cs, Rp p W size v n cs → Rp q W' size v n cs) : ∀ (t : J) (v : Value), JN p W t v → JN q W' t v
  | .mk k n s ns is, v, h => by
    obtain ⟨A, c, A2, c2, hs, e, h1, h2, h3⟩ := h
    exact ⟨A, c, A2, c2, hs, e, H _ _ _ _ h1, H _ _ _ _ h2, JNs.imp H is hs h3⟩
theorem JNs.imp {p q : Nat → Prop} {W W' : World} (H : ∀ size v n cs, Rp p W size v n cs → Rp q W' size v n cs) : ∀ (ts : List J) (hs : List Value), JNs p W ts hs → JNs q W' ts hs
  | [], hs, h => h
  | t :: r, hs, h => by
    obtain ⟨x, hs', e, h1, h2⟩ := h
    exact ⟨x, hs', e, JN.imp H t x h1, JNs.imp H r hs' h2⟩
end
section
variable {p q : Nat → Prop} {W W' : World} {size n : Nat} {v : Value} {cs : List Value}
theorem Rp.nil (p : Nat → Prop) (W : World) (size : Nat) : Rp p W size (.slice none 0 0) 0 [] := ⟨Rd.nil W size, fun b o c _ h => absurd h (Nat.lt_irrefl 0)⟩
theorem Rp.below (h : Rp p W size v n cs) (hb : Below W.heap.size W W') : Rp p W' size v n cs := ⟨h.1.below hb, h.2⟩
theorem Rp.weak (h : Rp p W size v n cs) (H : ∀ b, b < W.heap.size → p b → q b) : Rp q W size v n cs := ⟨h.1, fun b o c e h0 => by
  refine H b ?_ (h.2 b o c e h0)
  obtain ⟨b', o', c', e', _, _, hb, _⟩ := h.1.open h0
  rw [e] at e'
  injection e' with e' _ _
  injection e' with e'
  injection e' with e' _ _
  rw [e']
  exact hb⟩
theorem Rp.grown {row : Option Nat} (h : Rp p W size v n cs) (hg : W.grownBy W' row) (H : ∀ b, p b → some b ≠ row) : Rp p W' size v n cs := by
  refine ⟨⟨h.1.1, ?_⟩, h.2⟩
  obtain ⟨A, c, e, h1, h2, h3⟩ := h.1.2
  refine ⟨A, c, e, h1, h2, fun hn => ?_⟩
  obtain ⟨b, o, hA, hb, hc⟩ := h3 hn
  refine ⟨b, o, hA, Nat.lt_of_lt_of_le hb hg.size, fun j u hu => ?_⟩
  rw [← hc j u hu]
  exact World.cell?_of_block (hg.block b hb (H b (h.2 b o c (by rw [e, hA]) hn)))
theorem Rp.own {B : Nat} {e : TypeId} (h : W.ownsRow B e size v n cs) : Rp (fun b => B ≤ b ∧ some b = v.ownBlock) W size v n cs :=
  ⟨Rd.of_own h, fun b o c e2 h0 => by
    subst e2
    exact ⟨(h.lt b rfl).1, rfl⟩⟩
end
theorem JN.below {p : Nat → Prop} {W W' : World} {t : J} {v : Value} (h : JN p W t v) (hb : Below W.heap.size W W') : JN p W' t v := JN.imp (fun _ _ _ _ h => h.below hb) t v h
theorem JN.weak {p q : Nat → Prop} {W : World} {t : J} {v : Value} (h : JN p W t v) (H : ∀ b, b < W.heap.size → p b → q b) : JN q W t v := JN.imp (fun _ _ _ _ h => h.weak H) t v h
theorem JN.grown {p : Nat → Prop} {W W' : World} {t : J} {v : Value} {row : Option Nat} (h : JN p W t v) (hg : W.grownBy W' row) (H : ∀ b, p b → some b ≠ row) : JN p W' t v := JN.imp (fun _ _ _ _ h => h.grown hg H) t v h
theorem JNs.below {p : Nat → Prop} {W W' : World} {t : List J} {v : List Value} (h : JNs p W t v) (hb : Below W.heap.size W W') : JNs p W' t v := JNs.imp (fun _ _ _ _ h => h.below hb) t v h
theorem JNs.weak {p q : Nat → Prop} {W : World} {t : List J} {v : List Value} (h : JNs p W t v) (H : ∀ b, b < W.heap.size → p b → q b) : JNs q W t v := JNs.imp (fun _ _ _ _ h => h.weak H) t v h
theorem JNs.grown {p : Nat → Prop} {W W' : World} {t : List J} {v : List Value} {row : Option Nat} (h : JNs p W t v) (hg : W.grownBy W' row) (H : ∀ b, p b → some b ≠ row) : JNs p W' t v := JNs.imp (fun _ _ _ _ h => h.grown hg H) t v h
theorem JNs.len {p : Nat → Prop} {W : World} : ∀ {ts : List J} {hs : List Value}, JNs p W ts hs → hs.length = ts.length
  | [], hs, h => by rw [show hs = [] from h]; rfl
  | t :: r, hs, h => by
    obtain ⟨x, hs', rfl, _, h2⟩ := h
    simp [JNs.len h2]
theorem JNs.get {p : Nat → Prop} {W : World} : ∀ {ts : List J} {hs : List Value}, JNs p W ts hs → ∀ (i : Nat) (h1 : i < ts.length) (h2 : i < hs.length), JN p W ts[i] hs[i]
  | t :: r, hs, h, 0, _, _ => by
    obtain ⟨x, hs', rfl, h1, _⟩ := h
    exact h1
  | t :: r, hs, h, i + 1, h1, h2 => by
    obtain ⟨x, hs', rfl, _, h3⟩ := h
    exact JNs.get h3 i (by simpa using h1) (by simpa using h2)
theorem JNs.push {p : Nat → Prop} {W : World} {t : J} {x : Value} : ∀ {ts : List J} {hs : List Value}, JNs p W ts hs → JN p W t x → JNs p W (ts ++ [t]) (hs ++ [x])
  | [], hs, h, hx => by
    rw [show hs = [] from h]
    exact ⟨x, [], rfl, hx, rfl⟩
  | t' :: r, hs, h, hx => by
    obtain ⟨y, hs', rfl, h1, h2⟩ := h
    exact ⟨y, hs' ++ [x], rfl, h1, JNs.push h2 hx⟩
/-- The five cells of a tree's value. -/
theorem JN.five {p : Nat → Prop} {W : World} {t : J} {v : Value} (h : JN p W t v) : ∃ A c A2 c2, v = .agg #[.int .i64 t.k, .int .i64 t.n, .string t.s, .slice A t.ns.length c, .slice A2 t.is.length c2] ∧
    Rp p W 1 (.slice A t.ns.length c) t.ns.length (strs t.ns) ∧ ∃ hs, Rp p W 5 (.slice A2 t.is.length c2) t.is.length (flat hs) ∧ JNs p W t.is hs := by
  obtain ⟨k, n, s, ns, is⟩ := t
  obtain ⟨A, c, A2, c2, hs, e, h1, h2, h3⟩ := h
  exact ⟨A, c, A2, c2, e, h1, hs, h2, h3⟩
theorem flat_get {hs : List Value} : ∀ (i : Nat) (h : i < hs.length) (a b c d e : Value), (∀ x ∈ hs, x.cells.size = 5) → hs[i] = .agg #[a, b, c, d, e] →
    (flat hs)[i * 5]? = some a ∧ (flat hs)[i * 5 + 1]? = some b ∧ (flat hs)[i * 5 + 2]? = some c ∧ (flat hs)[i * 5 + 3]? = some d ∧ (flat hs)[i * 5 + 4]? = some e := by
  induction hs with
  | nil => intro i h; exact absurd h (by simp)
  | cons x r ih =>
    intro i h a b c d e hx he
    have hx5 : x.cells.toList.length = 5 := by rw [Array.length_toList]; exact hx x (.head _)
    show (x.cells.toList ++ flat r)[i * 5]? = _ ∧ (x.cells.toList ++ flat r)[i * 5 + 1]? = _ ∧ (x.cells.toList ++ flat r)[i * 5 + 2]? = _ ∧ (x.cells.toList ++ flat r)[i * 5 + 3]? = _ ∧ (x.cells.toList ++ flat r)[i * 5 + 4]? = _
    match i, h, he with
    | 0, _, he =>
      have he : x = .agg #[a, b, c, d, e] := he
      subst he
      exact ⟨rfl, rfl, rfl, rfl, rfl⟩
    | i + 1, h, he =>
      have h2 := ih i (by simpa using h) a b c d e (fun y hy => hx y (.tail _ hy)) (by simpa using he)
      have e0 : ∀ j, (x.cells.toList ++ flat r)[(i + 1) * 5 + j]? = (flat r)[i * 5 + j]? := fun j => by
        rw [List.getElem?_append_right (by omega), hx5, show (i + 1) * 5 + j - 5 = i * 5 + j by omega]
      have e1 := e0 0
      rw [Nat.add_zero, Nat.add_zero] at e1
      rw [e1, e0 1, e0 2, e0 3, e0 4]
      exact h2
theorem JNs.cells {p : Nat → Prop} {W : World} {ts : List J} {hs : List Value} (h : JNs p W ts hs) : ∀ x ∈ hs, x.cells.size = 5 := by
  intro x hx
  obtain ⟨i, hi, rfl⟩ := List.mem_iff_getElem.1 hx
  obtain ⟨A, c, A2, c2, e, _⟩ := (h.get i (by rw [← h.len]; exact hi) hi).five
  rw [e]
  rfl
/-- The item number i of a row of trees. -/
theorem row_item {p : Nat → Prop} {W : World} {A : Option Addr} {n c : Nat} {ts : List J} {hs : List Value} (hr : Rd W 5 (.slice A n c) n (flat hs)) (h : JNs p W ts hs) (hn : n = ts.length) (i : Nat) (hi : i < ts.length) :
    ∃ b o A1 c1 A2 c2, A = some ⟨b, o, none⟩ ∧ b < W.heap.size ∧ W.cell? ⟨b, o + i * 5, none⟩ = some (.int .i64 ts[i].k) ∧ W.cell? ⟨b, o + i * 5 + 1, none⟩ = some (.int .i64 ts[i].n) ∧ W.cell? ⟨b, o + i * 5 + 2, none⟩ = some (.string ts[i].s) ∧
      W.cell? ⟨b, o + i * 5 + 3, none⟩ = some (.slice A1 ts[i].ns.length c1) ∧ W.cell? ⟨b, o + i * 5 + 4, none⟩ = some (.slice A2 ts[i].is.length c2) ∧
      JN p W ts[i] (.agg #[.int .i64 ts[i].k, .int .i64 ts[i].n, .string ts[i].s, .slice A1 ts[i].ns.length c1, .slice A2 ts[i].is.length c2]) := by
  have hi2 : i < hs.length := by rw [h.len]; exact hi
  have hj := h.get i hi hi2
  obtain ⟨A1, c1, A2, c2, e, _⟩ := hj.five
  obtain ⟨b, o, c', hv, _, _, hb, hc⟩ := hr.open (by omega)
  injection hv with e1 _ _
  obtain ⟨g0, g1, g2, g3, g4⟩ := flat_get i hi2 _ _ _ _ _ h.cells e
  rw [e] at hj
  exact ⟨b, o, A1, c1, A2, c2, e1, hb, hc _ _ g0, hc _ _ g1, hc _ _ g2, hc _ _ g3, hc _ _ g4, hj⟩
theorem flat_app (hs gs : List Value) : flat (hs ++ gs) = flat hs ++ flat gs := List.flatMap_append
theorem flat_len {p : Nat → Prop} {W : World} {ts : List J} {hs : List Value} (h : JNs p W ts hs) : (flat hs).length = ts.length * 5 := by
  have h5 := h.cells
  rw [← h.len]
  clear h
  induction hs with
  | nil => rfl
  | cons x r ih =>
    show (x.cells.toList ++ flat r).length = _
    rw [List.length_append, Array.length_toList, h5 x (.head _), ih (fun y hy => h5 y (.tail _ hy)), List.length_cons]
    omega

/-- The letters of words. -/
def abc : List UInt8 := "abcdefghijklmnopqrstuvwxyzABCDEFGHIJKLMNOPQRSTUVWXYZ 0123456789".toUTF8.data.toList
/-- A word: at most six letters. -/
def Wd (s : ByteArray) : Prop := s.size ≤ 6 ∧ ∀ c ∈ s.data.toList, c ∈ abc
mutual
/-- What the law's own reading of bytes makes. -/
def Wf : J → Prop
  | .mk k n s ns is => (k = 0 ∧ n = 0 ∧ s = .empty ∧ ns = [] ∧ is = []) ∨ (k = 1 ∧ (n = 0 ∨ n = 1) ∧ s = .empty ∧ ns = [] ∧ is = []) ∨ (k = 2 ∧ -2147483648 ≤ n ∧ n ≤ 2147483647 ∧ s = .empty ∧ ns = [] ∧ is = []) ∨
      (k = 3 ∧ n = 0 ∧ Wd s ∧ ns = [] ∧ is = []) ∨ (k = 4 ∧ n = 0 ∧ s = .empty ∧ ns = [] ∧ is.length ≤ 4 ∧ Wfs is) ∨ (k = 5 ∧ n = 0 ∧ s = .empty ∧ ns.length = is.length ∧ is.length ≤ 4 ∧ ns.Nodup ∧ (∀ x ∈ ns, Wd x ∧ x ≠ .empty) ∧ Wfs is)
def Wfs : List J → Prop
  | [] => True
  | t :: r => Wf t ∧ Wfs r
end
theorem Wfs.push : ∀ {ts : List J} {t : J}, Wfs ts → Wf t → Wfs (ts ++ [t])
  | [], t, _, h => ⟨h, trivial⟩
  | x :: r, t, h, h2 => ⟨h.1, Wfs.push h.2 h2⟩
theorem Wfs.get : ∀ {ts : List J}, Wfs ts → ∀ t ∈ ts, Wf t
  | x :: r, h, t, ht => by
    rcases List.mem_cons.1 ht with rfl | ht
    · exact h.1
    · exact Wfs.get h.2 t ht
end Go.Proofs.Ytmelgankbegjaaa.Js

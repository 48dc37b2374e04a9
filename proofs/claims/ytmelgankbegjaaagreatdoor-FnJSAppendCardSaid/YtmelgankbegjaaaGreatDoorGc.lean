/- Part c of the chain. Conditions: those written at each lemma. -/
import Derived.Test.YtmelgankbegjaaaGreatDoorGa
import Derived.Test.YtmelgankbegjaaaGreatDoorGb
import Derived.Test.YtmelgankbegjaaaGreatDoorProg
import Derived.Handy
import Derived.IntWalk
import Derived.Deep.Cut
import Derived.Deep.CutRange
import Derived.Laws.StructEq
import Derived.MapKept
import Derived.Lib.ConvBytes
set_option linter.unusedVariables false
set_option linter.unusedSimpArgs false
set_option maxRecDepth 100000
namespace Go.Proofs.YtmelgankbegjaaaGreatDoor.Js
open Go.RowKit Go.Proofs.YtmelgankbegjaaaGreatDoor.B

/-- A JSON value: its kind, its number, its text, its names, its items. -/
inductive J where
  | mk (k n : Int) (s : ByteArray) (ns : List ByteArray) (is : List J)
abbrev J.k : J → Int | .mk k _ _ _ _ => k
abbrev J.n : J → Int | .mk _ n _ _ _ => n
abbrev J.s : J → ByteArray | .mk _ _ s _ _ => s
abbrev J.ns : J → List ByteArray | .mk _ _ _ ns _ => ns
abbrev J.is : J → List J | .mk _ _ _ _ is => is
/-- A slice that reads as a list of cells, and lies in a block of a kind. -/
def Rp (p : Nat → Prop) (W : World) (size : Nat) (v : Value) (n : Nat) (cs : List Value) : Prop :=
  Rd W size v n cs ∧ ∀ b o c, v = .slice (some ⟨b, o, none⟩) n c → 0 < n → p b
abbrev strs (l : List ByteArray) : List Value := l.map Value.string
abbrev flat (hs : List Value) : List Value := hs.flatMap fun h => h.cells.toList
mutual
/-- The value v reads as a tree. -/
def JN (p : Nat → Prop) (W : World) : J → Value → Prop
  | .mk k n s ns is, v => ∃ A c A2 c2 hs, v = .agg #[.int .i64 k, .int .i64 n, .string s, .slice A ns.length c, .slice A2 is.length c2] ∧
      Rp p W 1 (.slice A ns.length c) ns.length (strs ns) ∧ Rp p W 5 (.slice A2 is.length c2) is.length (flat hs) ∧ JNs p W is hs
def JNs (p : Nat → Prop) (W : World) : List J → List Value → Prop
  | [], hs => hs = []
  | t :: r, hs => ∃ h hs', hs = h :: hs' ∧ JN p W t h ∧ JNs p W r hs'
end
mutual
theorem JN.imp {p q : Nat → Prop} {W W' : World} (H : ∀ size v n cs, Rp p W size v n cs → Rp q W' size v n cs) : ∀ (t : J) (v : Value), JN p W t v → JN q W' t v
  | .mk k n s ns is, v, h => by
    obtain ⟨A, c, A2, c2, hs, e, h1, h2, h3⟩ := h
    exact ⟨A, c, A2, c2, hs, e, H _ _ _ _ h1, H _ _ _ _ h2, JNs.imp H is hs h3⟩
theorem JNs.imp {p q : Nat → Prop} {W W' : World} (H : ∀ size v n cs, Rp p W size v n cs → Rp q W' size v n cs) : ∀ (ts : List J) (hs : List Value), JNs p W ts hs → JNs q W' ts hs
  | [], hs, h => h
  | t :: r, hs, h => by
    obtain ⟨x, hs', e, h1, h2⟩ := h
    exact ⟨x, hs', e, JN.imp H t x h1, JNs.imp H r hs' h2⟩
end
section
variable {p q : Nat → Prop} {W W' : World} {size n : Nat} {v : Value} {cs : List Value}
theorem Rp.nil (p : Nat → Prop) (W : World) (size : Nat) : Rp p W size (.slice none 0 0) 0 [] := ⟨Rd.nil W size, fun b o c _ h => absurd h (Nat.lt_irrefl 0)⟩
theorem Rp.below (h : Rp p W size v n cs) (hb : Below W.heap.size W W') : Rp p W' size v n cs := ⟨h.1.below hb, h.2⟩
theorem Rp.weak (h : Rp p W size v n cs) (H : ∀ b, b < W.heap.size → p b → q b) : Rp q W size v n cs := ⟨h.1, fun b o c e h0 => by
  refine H b ?_ (h.2 b o c e h0)
  obtain ⟨b', o', c', e', _, _, hb, _⟩ := h.1.open h0
  rw [e] at e'
  injection e' with e' _ _
  injection e' with e'
  injection e' with e' _ _
  rw [e']
  exact hb⟩
theorem Rp.grown {row : Option Nat} (h : Rp p W size v n cs) (hg : W.grownBy W' row) (H : ∀ b, p b → some b ≠ row) : Rp p W' size v n cs := by
  refine ⟨⟨h.1.1, ?_⟩, h.2⟩
  obtain ⟨A, c, e, h1, h2, h3⟩ := h.1.2
  refine ⟨A, c, e, h1, h2, fun hn => ?_⟩
  obtain ⟨b, o, hA, hb, hc⟩ := h3 hn
  refine ⟨b, o, hA, Nat.lt_of_lt_of_le hb hg.size, fun j u hu => ?_⟩
  rw [← hc j u hu]
  exact World.cell?_of_block (hg.block b hb (H b (h.2 b o c (by rw [e, hA]) hn)))
theorem Rp.own {B : Nat} {e : TypeId} (h : W.ownsRow B e size v n cs) : Rp (fun b => B ≤ b ∧ some b = v.ownBlock) W size v n cs :=
  ⟨Rd.of_own h, fun b o c e2 h0 => by
    subst e2
    exact ⟨(h.lt b rfl).1, rfl⟩⟩
end
theorem JN.below {p : Nat → Prop} {W W' : World} {t : J} {v : Value} (h : JN p W t v) (hb : Below W.heap.size W W') : JN p W' t v := JN.imp (fun _ _ _ _ h => h.below hb) t v h
theorem JN.weak {p q : Nat → Prop} {W : World} {t : J} {v : Value} (h : JN p W t v) (H : ∀ b, b < W.heap.size → p b → q b) : JN q W t v := JN.imp (fun _ _ _ _ h => h.weak H) t v h
theorem JN.grown {p : Nat → Prop} {W W' : World} {t : J} {v : Value} {row : Option Nat} (h : JN p W t v) (hg : W.grownBy W' row) (H : ∀ b, p b → some b ≠ row) : JN p W' t v := JN.imp (fun _ _ _ _ h => h.grown hg H) t v h
theorem JNs.below {p : Nat → Prop} {W W' : World} {t : List J} {v : List Value} (h : JNs p W t v) (hb : Below W.heap.size W W') : JNs p W' t v := JNs.imp (fun _ _ _ _ h => h.below hb) t v h
theorem JNs.weak {p q : Nat → Prop} {W : World} {t : List J} {v : List Value} (h : JNs p W t v) (H : ∀ b, b < W.heap.size → p b → q b) : JNs q W t v := JNs.imp (fun _ _ _ _ h => h.weak H) t v h
theorem JNs.grown {p : Nat → Prop} {W W' : World} {t : List J} {v : List Value} {row : Option Nat} (h : JNs p W t v) (hg : W.grownBy W' row) (H : ∀ b, p b → some b ≠ row) : JNs p W' t v := JNs.imp (fun _ _ _ _ h => h.grown hg H) t v h
theorem JNs.len {p : Nat → Prop} {W : World} : ∀ {ts : List J} {hs : List Value}, JNs p W ts hs → hs.length = ts.length
  | [], hs, h => by rw [show hs = [] from h]; rfl
  | t :: r, hs, h => by
    obtain ⟨x, hs', rfl, _, h2⟩ := h
    simp [JNs.len h2]
theorem JNs.get {p : Nat → Prop} {W : World} : ∀ {ts : List J} {hs : List Value}, JNs p W ts hs → ∀ (i : Nat) (h1 : i < ts.length) (h2 : i < hs.length), JN p W ts[i] hs[i]
  | t :: r, hs, h, 0, _, _ => by
    obtain ⟨x, hs', rfl, h1, _⟩ := h
    exact h1
  | t :: r, hs, h, i + 1, h1, h2 => by
    obtain ⟨x, hs', rfl, _, h3⟩ := h
    exact JNs.get h3 i (by simpa using h1) (by simpa using h2)
theorem JNs.push {p : Nat → Prop} {W : World} {t : J} {x : Value} : ∀ {ts : List J} {hs : List Value}, JNs p W ts hs → JN p W t x → JNs p W (ts ++ [t]) (hs ++ [x])
  | [], hs, h, hx => by
    rw [show hs = [] from h]
    exact ⟨x, [], rfl, hx, rfl⟩
  | t' :: r, hs, h, hx => by
    obtain ⟨y, hs', rfl, h1, h2⟩ := h
    exact ⟨y, hs' ++ [x], rfl, h1, JNs.push h2 hx⟩
/-- The five cells of a tree's value. -/
theorem JN.five {p : Nat → Prop} {W : World} {t : J} {v : Value} (h : JN p W t v) : ∃ A c A2 c2, v = .agg #[.int .i64 t.k, .int .i64 t.n, .string t.s, .slice A t.ns.length c, .slice A2 t.is.length c2] ∧
    Rp p W 1 (.slice A t.ns.length c) t.ns.length (strs t.ns) ∧ ∃ hs, Rp p W 5 (.slice A2 t.is.length c2) t.is.length (flat hs) ∧ JNs p W t.is hs := by
  obtain ⟨k, n, s, ns, is⟩ := t
  obtain ⟨A, c, A2, c2, hs, e, h1, h2, h3⟩ := h
  exact ⟨A, c, A2, c2, e, h1, hs, h2, h3⟩
theorem flat_get {hs : List Value} : ∀ (i : Nat) (h : i < hs.length) (a b c d e : Value), (∀ x ∈ hs, x.cells.size = 5) → hs[i] = .agg #[a, b, c, d, e] →
    (flat hs)[i * 5]? = some a ∧ (flat hs)[i * 5 + 1]? = some b ∧ (flat hs)[i * 5 + 2]? = some c ∧ (flat hs)[i * 5 + 3]? = some d ∧ (flat hs)[i * 5 + 4]? = some e := by
  induction hs with
  | nil => intro i h; exact absurd h (by simp)
  | cons x r ih =>
    intro i h a b c d e hx he
    have hx5 : x.cells.toList.length = 5 := by rw [Array.length_toList]; exact hx x (.head _)
    show (x.cells.toList ++ flat r)[i * 5]? = _ ∧ (x.cells.toList ++ flat r)[i * 5 + 1]? = _ ∧ (x.cells.toList ++ flat r)[i * 5 + 2]? = _ ∧ (x.cells.toList ++ flat r)[i * 5 + 3]? = _ ∧ (x.cells.toList ++ flat r)[i * 5 + 4]? = _
    match i, h, he with
    | 0, _, he =>
      have he : x = .agg #[a, b, c, d, e] := he
      subst he
      exact ⟨rfl, rfl, rfl, rfl, rfl⟩
    | i + 1, h, he =>
      have h2 := ih i (by simpa using h) a b c d e (fun y hy => hx y (.tail _ hy)) (by simpa using he)
      have e0 : ∀ j, (x.cells.toList ++ flat r)[(i + 1) * 5 + j]? = (flat r)[i * 5 + j]? := fun j => by
        rw [List.getElem?_append_right (by omega), hx5, show (i + 1) * 5 + j - 5 = i * 5 + j by omega]
      have e1 := e0 0
      rw [Nat.add_zero, Nat.add_zero] at e1
      rw [e1, e0 1, e0 2, e0 3, e0 4]
      exact h2
theorem JNs.cells {p : Nat → Prop} {W : World} {ts : List J} {hs : List Value} (h : JNs p W ts hs) : ∀ x ∈ hs, x.cells.size = 5 := by
  intro x hx
  obtain ⟨i, hi, rfl⟩ := List.mem_iff_getElem.1 hx
  obtain ⟨A, c, A2, c2, e, _⟩ := (h.get i (by rw [← h.len]; exact hi) hi).five
  rw [e]
  rfl
/-- The item number i of a row of trees. -/
theorem row_item {p : Nat → Prop} {W : World} {A : Option Addr} {n c : Nat} {ts : List J} {hs : List Value} (hr : Rd W 5 (.slice A n c) n (flat hs)) (h : JNs p W ts hs) (hn : n = ts.length) (i : Nat) (hi : i < ts.length) :
    ∃ b o A1 c1 A2 c2, A = some ⟨b, o, none⟩ ∧ b < W.heap.size ∧ W.cell? ⟨b, o + i * 5, none⟩ = some (.int .i64 ts[i].k) ∧ W.cell? ⟨b, o + i * 5 + 1, none⟩ = some (.int .i64 ts[i].n) ∧ W.cell? ⟨b, o + i * 5 + 2, none⟩ = some (.string ts[i].s) ∧
      W.cell? ⟨b, o + i * 5 + 3, none⟩ = some (.slice A1 ts[i].ns.length c1) ∧ W.cell? ⟨b, o + i * 5 + 4, none⟩ = some (.slice A2 ts[i].is.length c2) ∧
      JN p W ts[i] (.agg #[.int .i64 ts[i].k, .int .i64 ts[i].n, .string ts[i].s, .slice A1 ts[i].ns.length c1, .slice A2 ts[i].is.length c2]) := by
  have hi2 : i < hs.length := by rw [h.len]; exact hi
  have hj := h.get i hi hi2
  obtain ⟨A1, c1, A2, c2, e, _⟩ := hj.five
  obtain ⟨b, o, c', hv, _, _, hb, hc⟩ := hr.open (by omega)
  injection hv with e1 _ _
  obtain ⟨g0, g1, g2, g3, g4⟩ := flat_get i hi2 _ _ _ _ _ h.cells e
  rw [e] at hj
  exact ⟨b, o, A1, c1, A2, c2, e1, hb, hc _ _ g0, hc _ _ g1, hc _ _ g2, hc _ _ g3, hc _ _ g4, hj⟩
theorem flat_app (hs gs : List Value) : flat (hs ++ gs) = flat hs ++ flat gs := List.flatMap_append
theorem flat_len {p : Nat → Prop} {W : World} {ts : List J} {hs : List Value} (h : JNs p W ts hs) : (flat hs).length = ts.length * 5 := by
  have h5 := h.cells
  rw [← h.len]
  clear h
  induction hs with
  | nil => rfl
  | cons x r ih =>
    show (x.cells.toList ++ flat r).length = _
    rw [List.length_append, Array.length_toList, h5 x (.head _), ih (fun y hy => h5 y (.tail _ hy)), List.length_cons]
    omega

/-- The letters of words. -/
def abc : List UInt8 := "abcdefghijklmnopqrstuvwxyzABCDEFGHIJKLMNOPQRSTUVWXYZ 0123456789".toUTF8.data.toList
/-- A word: at most six letters. -/
def Wd (s : ByteArray) : Prop := s.size ≤ 6 ∧ ∀ c ∈ s.data.toList, c ∈ abc
mutual
/-- What the law's own reading of bytes makes. -/
def Wf : J → Prop
  | .mk k n s ns is => (k = 0 ∧ n = 0 ∧ s = .empty ∧ ns = [] ∧ is = []) ∨ (k = 1 ∧ (n = 0 ∨ n = 1) ∧ s = .empty ∧ ns = [] ∧ is = []) ∨ (k = 2 ∧ -2147483648 ≤ n ∧ n ≤ 2147483647 ∧ s = .empty ∧ ns = [] ∧ is = []) ∨
      (k = 3 ∧ n = 0 ∧ Wd s ∧ ns = [] ∧ is = []) ∨ (k = 4 ∧ n = 0 ∧ s = .empty ∧ ns = [] ∧ is.length ≤ 4 ∧ Wfs is) ∨ (k = 5 ∧ n = 0 ∧ s = .empty ∧ ns.length = is.length ∧ is.length ≤ 4 ∧ ns.Nodup ∧ (∀ x ∈ ns, Wd x ∧ x ≠ .empty) ∧ Wfs is)
def Wfs : List J → Prop
  | [] => True
  | t :: r => Wf t ∧ Wfs r
end
theorem Wfs.push : ∀ {ts : List J} {t : J}, Wfs ts → Wf t → Wfs (ts ++ [t])
  | [], t, _, h => ⟨h, trivial⟩
  | x :: r, t, h, h2 => ⟨h.1, Wfs.push h.2 h2⟩
theorem Wfs.get : ∀ {ts : List J}, Wfs ts → ∀ t ∈ ts, Wf t
  | x :: r, h, t, ht => by
    rcases List.mem_cons.1 ht with rfl | ht
    · exact h.1
    · exact Wfs.get h.2 t ht
end Go.Proofs.YtmelgankbegjaaaGreatDoor.Js

set_option linter.unusedVariables false
set_option linter.unusedSimpArgs false
set_option maxRecDepth 100000
set_option maxHeartbeats 4000000
namespace Go.Proofs.YtmelgankbegjaaaGreatDoor.Js
open Go.RowKit Go.Proofs.YtmelgankbegjaaaGreatDoor.B

abbrev u8s (xs : List Int) : List Value := xs.map (Value.int .u8)
/-- The reader lies in block b: bytes that came in, and how many parts are left. -/
def Mst (w0 W : World) (b : Nat) : Prop := ∃ A n c left xs, W.heap[b]? = some (.cells #[.slice A n c, .int .i64 left] 46 (0, 0)) ∧ Rd w0 1 (.slice A n c) n (u8s xs) ∧ (∀ z ∈ xs, 0 ≤ z ∧ z ≤ 255) ∧ Below w0.heap.size w0 W
theorem Mst.below {w0 W W' : World} {b : Nat} (h : Mst w0 W b) (hb : Below W.heap.size W W') : Mst w0 W' b := by
  obtain ⟨A, n, c, left, xs, h1, h2, h3, h4⟩ := h
  exact ⟨A, n, c, left, xs, (hb.block b (Rv.lt_of_blk h1)).trans h1, h2, h3, h4.trans (hb.mono h4.size)⟩
theorem Mst.grown {w0 W W' : World} {b : Nat} {row : Option Nat} (h : Mst w0 W b) (hg : W.grownBy W' row) (hr : ∀ k, row = some k → w0.heap.size ≤ k ∧ k ≠ b) : Mst w0 W' b := by
  obtain ⟨A, n, c, left, xs, h1, h2, h3, h4⟩ := h
  exact ⟨A, n, c, left, xs, (hg.block b (Rv.lt_of_blk h1) (fun e => (hr b e.symm).2 rfl)).trans h1, h2, h3, h4.grown hg h4.size (fun k hk => (hr k hk).1)⟩
theorem Mst.lt {w0 W : World} {b : Nat} (h : Mst w0 W b) : b < W.heap.size := by
  obtain ⟨A, n, c, left, xs, h1, _⟩ := h
  exact Rv.lt_of_blk h1
theorem Mst.code {w0 W : World} {b : Nat} {A A' : Option Addr} {n c n' c' : Nat} {left : Int} {xs : List Int} (h1 : W.heap[b]? = some (.cells #[.slice A n c, .int .i64 left] 46 (0, 0))) (h2 : Rd w0 1 (.slice A' n' c') n' (u8s xs)) (h3 : ∀ z ∈ xs, 0 ≤ z ∧ z ≤ 255) (h4 : Below w0.heap.size w0 W) (hb : w0.heap.size ≤ b) : Mst w0 (W.setCell ⟨b, 0, none⟩ (.slice A' n' c')) b :=
  ⟨A', n', c', left, xs, Rv.set_cell1 0 _ h1, h2, h3, h4.setCell hb _⟩
theorem Mst.less {w0 W : World} {b : Nat} {A : Option Addr} {n c : Nat} {left l2 : Int} {xs : List Int} (h1 : W.heap[b]? = some (.cells #[.slice A n c, .int .i64 left] 46 (0, 0))) (h2 : Rd w0 1 (.slice A n c) n (u8s xs)) (h3 : ∀ z ∈ xs, 0 ≤ z ∧ z ≤ 255) (h4 : Below w0.heap.size w0 W) (hb : w0.heap.size ≤ b) : Mst w0 (W.setCell ⟨b, 1, none⟩ (.int .i64 l2)) b :=
  ⟨A, n, c, l2, xs, Rv.set_cell1 1 _ h1, h2, h3, h4.setCell hb _⟩
theorem byte_any (w0 W : World) (b : Nat) (hb : w0.heap.size ≤ b) (h : Mst w0 W b) :
    Calls Tryz.prog 15 #[.pointer (some ⟨b, 0, none⟩)] W fun e w' => ∃ x : Int, e = .returned (.int .i64 x) ∧ 0 ≤ x ∧ x ≤ 255 ∧ Mst w0 w' b ∧ W.grownBy w' (some b) := by
  obtain ⟨A, n, c, left, xs, h1, h2, h3, h4⟩ := h
  obtain ⟨c0, c1⟩ := Rv.cells2 h1
  obtain ⟨f0, f1⟩ := Rv.frozen2 h1
  have hln := h2.le
  have hxl : xs.length = n := by have := h2.len; simpa using this
  have H1 := Lib.hid h1
  have H2 := Lib.hid h2
  have H3 := Lib.hid h3
  have H4 := Lib.hid h4
  clear h1 h2 h3 h4
  rcases Nat.eq_zero_or_pos n with h0 | h0
  · subst h0
    go_enter Tryz.func15, Tryz.ntmps15
    go_wp2
    go_ret
    exact ⟨0, rfl, Int.le_refl _, by omega, ⟨_, _, _, _, _, H1.out, H2.out, H3.out, H4.out⟩, World.grownBy.refl _ _⟩
  · obtain ⟨b', o', c', hv, hlc, hcm, hb', hc'⟩ := H2.out.open h0
    injection hv with e1 e2 e3
    subst e1 e3
    obtain ⟨A', hrun, hrd⟩ := tail_of (P := Tryz.prog) 22 5 Tryz.underlying22 (fun W => by kernel_rfl) (some ⟨b', o', none⟩) n c 1 (by omega) (by omega)
    have hrun1 : ∀ W, (Instr.slice 22 (.slice (some ⟨b', o', none⟩) n c) (some (.int .i64 1)) none none).run Tryz.prog W = .ok (.slice A' (n - 1) (c - 1)) W := hrun
    have hx0 : (u8s xs)[0]? = some (.int .u8 (xs.getD 0 0)) := by
      rw [List.getElem?_map, List.getElem?_eq_getElem (by omega : 0 < xs.length), List.getD_eq_getElem?_getD, List.getElem?_eq_getElem (by omega : 0 < xs.length)]
      rfl
    have hd := (H4.out.cell (p := ⟨b', o' + 0, none⟩) hb').trans (hc' 0 _ hx0)
    rw [Nat.add_zero] at hd
    have hz := H3.out (xs.getD 0 0) (by
      rw [List.getD_eq_getElem?_getD, List.getElem?_eq_getElem (by omega : 0 < xs.length)]
      exact List.getElem_mem _)
    have HM := Lib.hid (Mst.code (W := W) (xs := xs.drop 1) H1.out (by rw [show u8s (xs.drop 1) = (u8s xs).drop 1 from List.map_drop]; exact hrd w0 _ H2.out) (fun z hz => H3.out z (List.mem_of_mem_drop hz)) H4.out hb)
    generalize xs.getD 0 0 = z at *
    clear hx0 hc' hrd hrun
    go_enter Tryz.func15, Tryz.ntmps15
    go_wp2
    go_ret
    exact ⟨z, rfl, hz.1, hz.2, HM.out, grown_set (Below.refl _ _) b 0 _⟩
theorem grown_then {X W W' : World} {r : Option Nat} (h : X.grownBy W r) (hg : W.grownBy W' r) : X.grownBy W' r :=
  ⟨hg.os.trans h.os, hg.tape.trans h.tape, hg.output.trans h.output, Nat.le_trans h.size hg.size, fun k hk hn => (hg.block k (Nat.lt_of_lt_of_le hk h.size) hn).trans (h.block k hk hn)⟩
abbrev abcB : ByteArray := ⟨#[97, 98, 99, 100, 101, 102, 103, 104, 105, 106, 107, 108, 109, 110, 111, 112, 113, 114, 115, 116, 117, 118, 119, 120, 121, 122, 65, 66, 67, 68, 69, 70, 71, 72, 73, 74, 75, 76, 77, 78, 79, 80, 81, 82, 83, 84, 85, 86, 87, 88, 89, 90, 32, 48, 49, 50, 51, 52, 53, 54, 55, 56, 57]⟩
/-- One letter of the law's alphabet. -/
def ltr (x : Int) : ByteArray := abcB.extract (x % 63).toNat (x % 63 + 1).toNat
theorem ltr_all : ∀ k : Fin 63, (abcB.extract k.1 (k.1 + 1)).size = 1 ∧ ((abcB.extract k.1 (k.1 + 1)).data.toList.all fun c => abc.contains c) = true := by decide +kernel
theorem ltr_ok (x : Int) : (ltr x).size = 1 ∧ ∀ c ∈ (ltr x).data.toList, c ∈ abc := by
  have h0 : 0 ≤ x % 63 := Int.emod_nonneg _ (by omega)
  have h1 : x % 63 < 63 := Int.emod_lt_of_pos _ (by omega)
  have h := ltr_all ⟨(x % 63).toNat, by omega⟩
  unfold ltr
  rw [show (x % 63 + 1).toNat = (x % 63).toNat + 1 by omega]
  refine ⟨h.1, fun c hc => ?_⟩
  have h2 := List.all_eq_true.1 h.2 c hc
  simpa using h2
theorem ltr_run (x : Int) (W : World) : (Instr.slice 9 (.string ⟨#[97, 98, 99, 100, 101, 102, 103, 104, 105, 106, 107, 108, 109, 110, 111, 112, 113, 114, 115, 116, 117, 118, 119, 120, 121, 122, 65, 66, 67, 68, 69, 70, 71, 72, 73, 74, 75, 76, 77, 78, 79, 80, 81, 82, 83, 84, 85, 86, 87, 88, 89, 90, 32, 48, 49, 50, 51, 52, 53, 54, 55, 56, 57]⟩) (some (.int .i64 (x % 63))) (some (.int .i64 (x % 63 + 1))) none).run Tryz.prog W = .ok (.string (ltr x)) W := by
  have h0 : 0 ≤ x % 63 := Int.emod_nonneg _ (by omega)
  have h1 : x % 63 < 63 := Int.emod_lt_of_pos _ (by omega)
  exact run_slice_string W 9 abcB .i64 .i64 (x % 63) (x % 63 + 1) Tryz.underlying9 h0 (by omega) (by show x % 63 + 1 ≤ ((63 : Nat) : Int); omega)
theorem word_any (w0 w : World) (b : Nat) (hb : w0.heap.size ≤ b) (h : Mst w0 w b) :
    Calls Tryz.prog 16 #[.pointer (some ⟨b, 0, none⟩)] w fun e w' => ∃ s, e = .returned (.string s) ∧ Wd s ∧ Mst w0 w' b ∧ w.grownBy w' (some b) := by
  have BY := Lib.hid (fun W h => byte_any w0 W b hb h)
  have HM := Lib.hid h
  clear h
  go_enter Tryz.func16, Tryz.ntmps16
  go_wp2_with (go_at_call 15; (with_reducible refine (BY.out _ HM.out).mono ?_); rintro e w1 ⟨x, rfl, hx0, hx1, hm, hg⟩; have HM1 := Lib.hid hm; have HG1 := Lib.hid hg; clear hm hg)
  go_loopw [3, 4] (fun v3 v4 wr => ∃ (s : ByteArray) (n : Int), v3 = .string s ∧ v4 = .int .i64 n ∧ 0 ≤ n ∧ n ≤ 6 ∧ Hid ((s.size : Int) + n ≤ 6 ∧ ∀ c ∈ s.data.toList, c ∈ abc) ∧ Hid (Mst w0 wr b) ∧ Hid (w.grownBy wr (some b))) (fun _ v4 _ => (intOf v4).toNat)
  case atStart => exact ⟨.empty, _, rfl, rfl, by omega, by omega, Lib.hid ⟨by simp; omega, fun c hc => by cases hc⟩, HM1, HG1⟩
  case round =>
    obtain ⟨s, n, rfl, rfl, hn0, hn6, HS, HM2, HG2⟩ := hrel
    by_cases hlt : 0 < n
    · go_upto_region 6 with (go_at_call 15; (with_reducible refine (BY.out _ HM2.out).mono ?_); rintro e w3 ⟨x, rfl, hx0, hx1, hm, hg⟩; have HM3 := Lib.hid hm; have HG3 := Lib.hid (grown_then HG2.out hg); clear hm hg)
      have hsl := ltr_run x
      have hl1 := (ltr_ok x).1
      have hs6 : s.size ≤ 6 := by have := HS.out.1; omega
      have HL := Lib.hid (ltr_ok x).2
      generalize ltr x = l at *
      go_wp2
      go_roundw
      case rel => exact ⟨s ++ l, n - 1, rfl, by go_num, by omega, by omega, Lib.hid ⟨by have := HS.out.1; rw [ByteArray.size_append]; omega, fun c hc => by
        rw [ByteArray.data_append, Array.toList_append, List.mem_append] at hc
        exact hc.elim (HS.out.2 c) (HL.out c)⟩, HM3, HG3⟩
      case measure => simp [intOf]; omega
    · obtain rfl : n = 0 := by omega
      go_wp2
      go_ret
      exact ⟨s, rfl, ⟨by have := HS.out.1; omega, HS.out.2⟩, HM2.out, HG2.out⟩

theorem tl_eq (a b : ByteArray) : (a.toList == b.toList) = decide (a = b) := by
  rw [← beq_toListBytes, Bool.eq_iff_iff, MapKept.bytes_beq, decide_eq_true_iff]
/-- The index of a name. -/
def idx (x : ByteArray) : List ByteArray → Int → Int
  | [], _ => -1
  | y :: r, i => if y = x then i else idx x r (i + 1)
theorem idx_none {x : ByteArray} : ∀ {l : List ByteArray} {i : Int}, x ∉ l → idx x l i = -1
  | [], _, _ => rfl
  | y :: r, i, h => by
    rw [idx, if_neg (fun e => h (by rw [← e]; exact .head _))]
    exact idx_none (fun h2 => h (.tail _ h2))
theorem idx_drop (x : ByteArray) (l : List ByteArray) (k : Nat) (h : k < l.length) : idx x (l.drop k) k = if l[k] = x then (k : Int) else idx x (l.drop (k + 1)) ((k + 1 : Nat) : Int) := by
  rw [List.drop_eq_getElem_cons h, idx]
  rfl
theorem idx_range {x : ByteArray} : ∀ {l : List ByteArray} {i : Int}, 0 ≤ i → (idx x l i = -1 ∧ x ∉ l) ∨ (∃ k : Nat, idx x l i = i + k ∧ l[k]? = some x ∧ ∀ j, j < k → l[j]? ≠ some x)
  | [], _, _ => .inl ⟨rfl, by simp⟩
  | y :: r, i, h => by
    rw [idx]
    by_cases e : y = x
    · rw [if_pos e]
      exact .inr ⟨0, by simp, by rw [e]; rfl, fun j hj => absurd hj (Nat.not_lt_zero j)⟩
    · rw [if_neg e]
      rcases idx_range (l := r) (i := i + 1) (by omega) with ⟨h1, h2⟩ | ⟨k, h1, h2, h3⟩
      · refine .inl ⟨h1, fun hm => ?_⟩
        rcases List.mem_cons.1 hm with rfl | hm
        · exact e rfl
        · exact h2 hm
      · refine .inr ⟨k + 1, by rw [h1]; omega, h2, fun j hj => ?_⟩
        cases j with
        | zero => intro h4; injection h4 with h4; exact e h4
        | succ j => exact h3 j (by omega)
theorem at_any (t : J) (p : Nat → Prop) (v : Value) (x : ByteArray) (w : World) (h : JN p w t v) (hl : t.ns.length ≤ 1000000) :
    Calls Tryz.prog 26 #[v, .string x] w fun e w' => e = .returned (.int .i64 (idx x t.ns 0)) ∧ Below w.heap.size w w' := by
  obtain ⟨A, c, A2, c2, rfl, h1, hs, h2, h3⟩ := h.five
  have hrd := h1.1
  have HR := Lib.hid hrd
  generalize t.ns = ns at *
  have hc := (hrd.shape)
  clear h h1 h2 h3 hrd
  have HB0 := Lib.hid ((Below.refl w.heap.size w).alloc (Nat.le_refl _) (.cells #[.int .i64 t.k, .int .i64 t.n, .string t.s, .slice A ns.length c, .slice A2 t.is.length c2] 26))
  have HX0 := Lib.hid (heap_alloc_new w (.cells #[.int .i64 t.k, .int .i64 t.n, .string t.s, .slice A ns.length c, .slice A2 t.is.length c2] 26))
  generalize t.k = k0 at *
  generalize t.n = n0 at *
  generalize t.s = s0 at *
  generalize t.is.length = il at *
  go_enter Tryz.func26, Tryz.ntmps26
  go_wp2
  go_loopw [5] (fun v5 wr => ∃ (k : Nat), v5 = .int .i64 k ∧ k ≤ ns.length ∧ Hid (idx x ns 0 = idx x (ns.drop k) k) ∧ Hid (Below w.heap.size w wr) ∧ Hid (wr.heap[w.heap.size]? = some (.cells #[.int .i64 k0, .int .i64 n0, .string s0, .slice A ns.length c, .slice A2 il c2] 26 (0, 0)))) (fun v5 _ => (ns.length - (intOf v5)).toNat)
  case atStart => exact ⟨0, rfl, Nat.zero_le _, Lib.hid rfl, HB0, HX0⟩
  case round =>
    obtain ⟨k, rfl, hk, HI, HB, HX⟩ := hrel
    clear HB0 HX0
    obtain ⟨f0, f1, f2, f3, f4⟩ := Rv.cells5 HX.out
    by_cases hlt : k < ns.length
    · obtain ⟨b, o, c', hv, _, _, hb, hcl⟩ := HR.out.open (by omega)
      injection hv with e1 _ _
      subst e1
      have hcell := hcl k (.string ns[k]) (by rw [List.getElem?_map, List.getElem?_eq_getElem hlt]; rfl)
      have hcw := (HB.out.cell (p := ⟨b, o + k, none⟩) hb).trans hcell
      have HD := Lib.hid (idx_drop x ns k hlt)
      clear hcell hcl
      generalize ns[k] = y at *
      by_cases hyx : y = x
      · rw [if_pos hyx] at HD
        subst hyx
        have hne := tl_eq y y
        rw [decide_eq_true rfl] at hne
        go_wp2
        go_ret
        exact ⟨by rw [HI.out, HD.out]; rfl, HB.out⟩
      · rw [if_neg hyx] at HD
        have hne := tl_eq y x
        rw [decide_eq_false hyx] at hne
        go_wp2
        go_roundw
        case rel => exact ⟨k + 1, by go_num, by omega, Lib.hid (by rw [HI.out, HD.out]), HB, HX⟩
        case measure => simp [intOf]; omega
    · obtain rfl : k = ns.length := by omega
      rw [List.drop_length] at HI
      go_wp2
      go_ret
      exact ⟨by rw [HI.out]; rfl, HB.out⟩
end Go.Proofs.YtmelgankbegjaaaGreatDoor.Js

set_option linter.unusedVariables false
set_option linter.unusedSimpArgs false
set_option maxRecDepth 100000
set_option maxHeartbeats 4000000
namespace Go.Proofs.YtmelgankbegjaaaGreatDoor.Js
open Go.RowKit Go.Proofs.YtmelgankbegjaaaGreatDoor.B

abbrev bs (l : List UInt8) : ByteArray := ⟨l.toArray⟩
theorem bs_size (l : List UInt8) : (bs l).size = l.length := by simp [bs, ByteArray.size]
theorem bs_list (s : ByteArray) : bs s.data.toList = s := by cases s; simp [bs]
theorem ix_bs (l : List UInt8) (i : Nat) (c : UInt8) (h : l[i]? = some c) (W : World) : (Instr.index 9 (.string (bs l)) (.int .i64 (i : Int))).run Tryz.prog W = .ok (.int .u8 (c.toNat : Int)) W := by
  obtain ⟨hi, rfl⟩ := List.getElem?_eq_some_iff.1 h
  rw [run_index_string (P := Tryz.prog) W 9 (bs l) .i64 (i : Int) Tryz.underlying9, dif_pos (by rw [bs_size]; omega)]
  simp [bs, ByteArray.getElem_eq_getElem_data]
theorem ex_bs (t : List UInt8) (i j : Nat) : (bs t).extract i j = bs ((t.drop i).take (j - i)) := by
  apply ByteArray.ext
  rw [ByteArray.data_extract]
  apply Array.ext'
  simp [bs, List.extract_eq_take_drop]
theorem from_bs (t : List UInt8) (i : Nat) (h : i ≤ t.length) (W : World) : (Instr.slice 9 (.string (bs t)) (some (.int .i64 (i : Int))) none none).run Tryz.prog W = .ok (.string (bs (t.drop i))) W := by
  rw [run_slice_string_from_if (P := Tryz.prog) W 9 (bs t) .i64 i Tryz.underlying9, if_pos (by rw [bs_size]; omega), Int.toNat_natCast, ex_bs, bs_size, List.take_of_length_le (by rw [List.length_drop]; exact Nat.le_refl _)]
theorem cut_bs (t : List UInt8) (i j : Nat) (h : i ≤ j) (h2 : j ≤ t.length) (W : World) : (Instr.slice 9 (.string (bs t)) (some (.int .i64 (i : Int))) (some (.int .i64 (j : Int))) none).run Tryz.prog W = .ok (.string (bs ((t.drop i).take (j - i)))) W := by
  rw [run_slice_string (P := Tryz.prog) W 9 (bs t) .i64 .i64 i j Tryz.underlying9 (by omega) (by omega) (by rw [bs_size]; omega), Int.toNat_natCast, Int.toNat_natCast, ex_bs]
theorem bs_eq (a b : List UInt8) : ((bs a).toList == (bs b).toList) = decide (a = b) := by
  rw [tl_eq, decide_eq_decide]
  exact ⟨fun h => by have := congrArg (fun x : ByteArray => x.data.toList) h; simpa [bs] using this, fun h => by rw [h]⟩

theorem bs_ne (a : List UInt8) (h : a ≠ []) : (bs a).toList.isEmpty = false := by
  have e := bs_eq a []
  rw [decide_eq_false h] at e
  have e0 : (bs []).toList = [] := by simp [bs, ByteArray.toList, ByteArray.toList.loop, ByteArray.size]
  rw [e0] at e
  cases h2 : (bs a).toList with
  | nil => rw [h2] at e; cases e
  | cons _ _ => rfl
theorem u8ne {c : UInt8} (k : UInt8) (h : c ≠ k) : ((c.toNat : Int) == (k.toNat : Int)) = false := beq_eq_false_iff_ne.2 (fun e => h (UInt8.toNat_inj.1 (by omega)))
/-- findNextUnescapedOccurrence, where the mark stands behind letters. -/
theorem find_mark (x r : List UInt8) (hx : ∀ c ∈ x, c ≠ 34 ∧ c ≠ 92) (hl : x.length ≤ 1000) (hr : r.length ≤ 1000000) (w : World) :
    Calls Tryz.prog 42 #[.string (bs (x ++ 34 :: r)), .int .u8 34] w fun e w' => e = .returned (.int .i64 (x.length : Int)) ∧ w' = w := by
  have hsz : (bs (x ++ 34 :: r)).size = x.length + (r.length + 1) := by rw [bs_size]; simp
  have HI := Lib.hid (fun k h W => ix_bs (x ++ 34 :: r) k ((x ++ 34 :: r).getD k 0) (by rw [List.getD_eq_getElem?_getD, List.getElem?_eq_getElem (by simp; omega : k < (x ++ 34 :: r).length)]; rfl) W : ∀ k, k ≤ x.length → ∀ W, _)
  have HD := Lib.hid (show ∀ k, k < x.length → (x ++ 34 :: r).getD k 0 ≠ 34 ∧ (x ++ 34 :: r).getD k 0 ≠ 92 from fun k hk => by
    rw [List.getD_eq_getElem?_getD, List.getElem?_append_left hk, List.getElem?_eq_getElem hk]
    exact hx _ (List.getElem_mem hk))
  have HE := Lib.hid (show (x ++ 34 :: r).getD x.length 0 = 34 from by
    rw [List.getD_eq_getElem?_getD, List.getElem?_append_right (Nat.le_refl _), Nat.sub_self]; rfl)
  generalize x ++ 34 :: r = t at *
  generalize x.length = n at *
  generalize r.length = m at *
  clear hx
  go_enter Tryz.func42, Tryz.ntmps42
  go_wp2
  go_loopw [5] (fun v5 wr => ∃ k : Nat, v5 = .int .i64 k ∧ k ≤ n ∧ wr = w) (fun v5 _ => (n - (intOf v5)).toNat)
  case atStart => exact ⟨0, rfl, Nat.zero_le _, rfl⟩
  case round =>
    obtain ⟨k, rfl, hk, rfl⟩ := hrel
    have hi := HI.out k hk
    by_cases hlt : k < n
    · obtain ⟨d1, d2⟩ := HD.out k hlt
      generalize t.getD k 0 = c at *
      have e1 : ((c.toNat : Int) == 34) = false := u8ne 34 d1
      have e2 : ((c.toNat : Int) == 92) = false := u8ne 92 d2
      clear d1 d2
      go_wp2
      go_roundw
      case rel => exact ⟨k + 1, by go_num, by omega, trivial⟩
      case measure => simp [intOf]; omega
    · obtain rfl : k = n := by omega
      rw [HE.out] at hi
      go_wp2
      go_ret
      exact ⟨rfl, rfl⟩
/-- zzUnescape of letters. -/
theorem unesc_any (x : List UInt8) (hx : ∀ c ∈ x, c ≠ 34 ∧ c ≠ 92) (hl : x.length ≤ 1000) (w : World) :
    Calls Tryz.prog 43 #[.string (bs x)] w fun e w' => e = .returned (.string (bs x)) ∧ Below w.heap.size w w' := by
  have hsz : (bs x).size = x.length := bs_size x
  have HI := Lib.hid (fun k h W => ix_bs x k (x.getD k 0) (by rw [List.getD_eq_getElem?_getD, List.getElem?_eq_getElem h]; rfl) W : ∀ k, k < x.length → ∀ W, _)
  have HD := Lib.hid (show ∀ k, k < x.length → x.getD k 0 ≠ 92 from fun k hk => by
    rw [List.getD_eq_getElem?_getD, List.getElem?_eq_getElem hk]
    exact (hx _ (List.getElem_mem hk)).2)
  have HT := Lib.hid (show ∀ k, k < x.length → x.take k ++ [x.getD k 0] = x.take (k + 1) from fun k hk => by
    rw [List.getD_eq_getElem?_getD, List.getElem?_eq_getElem hk]
    exact List.take_append_getElem hk)
  have info5 : (Tryz.prog.info? 5).map (fun i => (i.zero, i.size, i.bytes)) = some (some (.int .u8 0), 1, 1) := by kernel_rfl
  clear hx
  go_enter Tryz.func43, Tryz.ntmps43
  go_wp2
  go_loopw [3, 4] (fun v3 v4 wr => ∃ (k : Nat), v4 = .int .i64 k ∧ k ≤ x.length ∧ Hid (wr.ownsRow w.heap.size 5 1 v3 k ((x.take k).map fun b => Value.int .u8 (b.toNat : Int))) ∧ Hid (Below w.heap.size w wr)) (fun _ v4 _ => (x.length - (intOf v4)).toNat)
  case atStart => exact ⟨0, rfl, Nat.zero_le _, Lib.hid (World.ownsRow_nil _ _ _ _), Lib.hid (Below.refl _ _)⟩
  case round =>
    obtain ⟨k, rfl, hk, HO, HB⟩ := hrel
    by_cases hlt : k < x.length
    · have hi := HI.out k hlt
      have d1 := HD.out k hlt
      have HTk := Lib.hid (HT.out k hlt)
      generalize x.getD k 0 = c at *
      have e2 : ((c.toNat : Int) == 92) = false := u8ne 92 d1
      clear d1
      go_wp2_with (at_builtin; refine app1 (w0 := w) w.heap.size rfl (.tmp 31) (.tmp 35) 22 5 (.int .u8 0) 1 1 rfl Tryz.underlying22 info5 rfl (by omega) (by omega) _ _ _ _ rfl rfl rfl (one1 rfl) HO.out HB.out HB.out.size (by omega) ?_; intro v1 w1 hown1 hb1 _ _; have HO1 := Lib.hid hown1; have HB1 := Lib.hid hb1; clear hown1 hb1)
      go_roundw
      case rel => exact ⟨k + 1, by go_num, by omega, Lib.hid (by
        rw [← HTk.out, List.map_append]
        exact HO1.out), HB1⟩
      case measure => simp [intOf]; omega
    · obtain rfl : k = x.length := by omega
      rw [List.take_length] at HO
      have hcv := str_of_rd (P := Tryz.prog) (n := x.length) (xs := x.map fun b => (b.toNat : Int)) Tryz.underlying22 Tryz.underlying5 Tryz.underlying9 (by
        have h := Rd.of_own HO.out
        rw [List.map_map]
        exact h)
      have hst : strOfNums (x.map fun b => (b.toNat : Int)) = bs x := by
        unfold strOfNums
        rw [List.map_map]
        congr 1
        rw [show ((fun n : Int => UInt8.ofNat n.toNat) ∘ fun b : UInt8 => (b.toNat : Int)) = id from by funext b; simp]
        simp
      rw [hst] at hcv
      go_wp2
      go_ret
      exact ⟨rfl, HB.out⟩
/-- parseNameAfterDot of a name in quotation marks. -/
theorem name_any (x r : List UInt8) (hx : ∀ c ∈ x, c ≠ 34 ∧ c ≠ 92) (hl : x.length ≤ 1000) (hr : r.length ≤ 1000) (b : Nat) (z : Int) (w : World) (hc : w.heap[b]? = some (.cells #[.int .i64 z] 3 (0, 0))) :
    Calls Tryz.prog 38 #[.string (bs (34 :: (x ++ 34 :: r))), .pointer (some ⟨b, 0, none⟩)] w fun e w' => e = .returned (.tuple #[.string (bs x), .string (bs r), .pointer none]) ∧ ∃ z' w1, Below w.heap.size w w1 ∧ w' = w1.setCell ⟨b, 0, none⟩ (.int .i64 z') := by
  have FM := Lib.hid (fun W => find_mark x r hx hl (by omega) W)
  have UN := Lib.hid (fun W => unesc_any x hx hl W)
  have HC := Lib.hid hc
  have h0 := fun W => ix_bs (34 :: (x ++ 34 :: r)) 0 34 rfl W
  have h1 := fun W => from_bs (34 :: (x ++ 34 :: r)) 1 (by simp) W
  have h2 := fun W => cut_bs (34 :: (x ++ 34 :: r)) 1 (x.length + 1) (by omega) (by simp) W
  have h3 := fun W => from_bs (34 :: (x ++ 34 :: r)) (x.length + 2) (by simp) W
  have e2 : ((34 :: (x ++ 34 :: r)).drop 1).take (x.length + 1 - 1) = x := by simp
  have e3 : (34 :: (x ++ 34 :: r)).drop (x.length + 2) = r := by
    rw [show x.length + 2 = (x.length + 1) + 1 by omega, List.drop_succ_cons, List.drop_append, List.drop_eq_nil_of_le (by omega)]
    simp
  rw [e2] at h2
  rw [e3] at h3
  have hne := bs_ne (34 :: (x ++ 34 :: r)) (by simp)
  clear e2 e3 hc
  have h1 : ∀ W, (Instr.slice 9 (.string (bs (34 :: (x ++ 34 :: r)))) (some (.int .i64 1)) none none).run Tryz.prog W = .ok (.string (bs (x ++ 34 :: r))) W := h1
  have h0 : ∀ W, (Instr.index 9 (.string (bs (34 :: (x ++ 34 :: r)))) (.int .i64 0)).run Tryz.prog W = .ok (.int .u8 34) W := h0
  have h2 : ∀ W, (Instr.slice 9 (.string (bs (34 :: (x ++ 34 :: r)))) (some (.int .i64 1)) (some (.int .i64 ((x.length : Int) + 1))) none).run Tryz.prog W = .ok (.string (bs x)) W := h2
  have h3 : ∀ W, (Instr.slice 9 (.string (bs (34 :: (x ++ 34 :: r)))) (some (.int .i64 ((x.length : Int) + 2))) none none).run Tryz.prog W = .ok (.string (bs r)) W := h3
  generalize bs (34 :: (x ++ 34 :: r)) = s at *
  generalize bs (x ++ 34 :: r) = s1 at *
  generalize bs x = sx at *
  generalize bs r = sr at *
  generalize x.length = n at *
  go_enter Tryz.func38, Tryz.ntmps38
  go_wp2_with (first
    | (go_at_call 42; (with_reducible refine (FM.out _).mono ?_); rintro e w1 ⟨rfl, rfl⟩)
    | (go_at_call 43; (with_reducible refine (UN.out _).mono ?_); rintro e w1 ⟨rfl, hb⟩; have HB := Lib.hid hb; have HC1 := Lib.hid ((hb.block _ (Rv.lt_of_blk HC.out)).trans HC.out); have c0 := Rv.cells1 HC1.out; have f0 := Rv.frozen1 HC1.out; clear hb))
  refine bodyPost_ret (v := .tuple #[.string sx, .string sr, .pointer none]) ?_ rfl ⟨rfl, _, w1, HB.out, rfl⟩
  simp only [results, show Tryz.f38.results = #[.tmp 4, .tmp 5, .tmp 6] by kernel_rfl]
  go_simp
end Go.Proofs.YtmelgankbegjaaaGreatDoor.Js

set_option linter.unusedVariables false
set_option linter.unusedSimpArgs false
set_option maxRecDepth 100000
set_option maxHeartbeats 4000000
namespace Go.Proofs.YtmelgankbegjaaaGreatDoor.Js
open Go.RowKit Go.Proofs.YtmelgankbegjaaaGreatDoor.B

/-- A digit's letter. -/
def dg (i : Nat) : UInt8 := UInt8.ofNat (48 + i)
theorem info5' : (Tryz.prog.info? 5).map (fun i => (i.zero, i.size, i.bytes)) = some (some (.int .u8 0), 1, 1) := by kernel_rfl
theorem str1 (W : World) (b : Nat) (x : Int) (h0 : W.cell? ⟨b, 0, none⟩ = some (.int .u8 x)) : (convert 22 9 (.slice (some ⟨b, 0, none⟩) 1 1)).run Tryz.prog W = .ok (.string ⟨#[UInt8.ofNat x.toNat]⟩) W := by
  rw [run_convert_bytes_arg W 22 5 Tryz.underlying22 Tryz.underlying5 b 0 1 1 [x] rfl
    (fun i hi => by
      obtain rfl : i = 0 := by omega
      exact h0) 9 Tryz.underlying9]
  rfl
theorem digit_any (i : Nat) (hi : i ≤ 9) (w : World) : Calls Tryz.prog 23 #[.int .i64 (i : Int)] w fun e w' => e = .returned (.string (bs [dg i])) ∧ Below w.heap.size w w' := by
  have key : ∀ (x : Int) (d : UInt8), 48 ≤ x → x ≤ 57 → d = UInt8.ofNat x.toNat → Calls Tryz.prog 23 #[.int .i64 (x - 48)] w fun e w' => e = .returned (.string (bs [d])) ∧ Below w.heap.size w w' := by
    intro x d h1 h2 hd
    have hs := fun W h => str1 W w.heap.size x h
    have hw : IntKind.u8.wrap (48 + (x - 48)) = x := by rw [IntKind.wrap_u8]; omega
    have hn := Rv.cells1 (heap_alloc_new w (.cells #[.int .u8 x] 5))
    have hs2 := hs _ hn
    have HB := Lib.hid ((Below.refl w.heap.size w).alloc (Nat.le_refl _) (.cells #[.int .u8 x] 5))
    subst hd
    clear hs
    go_enter Tryz.func23, Tryz.ntmps23
    go_wp2
    go_ret
    exact ⟨rfl, HB.out⟩
  have h := key (48 + i) (dg i) (by omega) (by omega) (by unfold dg; congr 1)
  rw [show (48 + (i : Int)) - 48 = i by omega] at h
  exact h
/-- zzIndex of one letter. -/
theorem index_at (l : List UInt8) (c : UInt8) (n : Nat) (hn : ∀ k, k < n → l[k]? ≠ some c) (hc : l[n]? = some c) (hl : l.length ≤ 1000000) (w : World) :
    Calls Tryz.prog 34 #[.string (bs l), .string (bs [c])] w fun e w' => e = .returned (.int .i64 (n : Int)) ∧ w' = w := by
  have hlt : n < l.length := (List.getElem?_eq_some_iff.1 hc).1
  have hsz : (bs l).size = l.length := bs_size l
  have hs1 : (bs [c]).size = 1 := rfl
  have HS := Lib.hid (show ∀ k, k ≤ n → ∀ W, (Instr.slice 9 (.string (bs l)) (some (.int .i64 (k : Int))) (some (.int .i64 ((k : Int) + 1))) none).run Tryz.prog W = .ok (.string (bs [l.getD k 0])) W from fun k hk W => by
    have h := cut_bs l k (k + 1) (by omega) (by omega) W
    rw [show k + 1 - k = 1 by omega, List.drop_eq_getElem_cons (by omega : k < l.length)] at h
    rw [List.getD_eq_getElem?_getD, List.getElem?_eq_getElem (by omega : k < l.length)]
    exact h)
  have HE := Lib.hid (show ∀ k, k ≤ n → ((bs [l.getD k 0]).toList == (bs [c]).toList) = decide (k = n) from fun k hk => by
    rw [bs_eq, decide_eq_decide]
    constructor
    · intro h
      rcases Nat.lt_or_ge k n with h2 | h2
      · refine absurd ?_ (hn k h2)
        injection h with h _
        rw [← h, List.getD_eq_getElem?_getD, List.getElem?_eq_getElem (by omega)]
        rfl
      · omega
    · rintro rfl
      rw [List.getD_eq_getElem?_getD, hc]
      rfl)
  generalize bs l = s at *
  generalize bs [c] = t at *
  clear hn hc
  go_enter Tryz.func34, Tryz.ntmps34
  go_wp2
  go_loopw [5] (fun v5 wr => ∃ k : Nat, v5 = .int .i64 k ∧ k ≤ n ∧ wr = w) (fun v5 _ => (n - (intOf v5)).toNat)
  case atStart => exact ⟨0, rfl, Nat.zero_le _, rfl⟩
  case round =>
    obtain ⟨k, rfl, hk, rfl⟩ := hrel
    have hle : (k : Int) + 1 ≤ (l.length : Int) := by omega
    have hsl := HS.out k hk
    have hq := HE.out k hk
    generalize bs [l.getD k 0] = sk at *
    by_cases hkn : k = n
    · subst hkn
      rw [decide_eq_true rfl] at hq
      go_wp2
      go_ret
      exact ⟨rfl, rfl⟩
    · rw [decide_eq_false hkn] at hq
      go_wp2
      go_roundw
      case rel => exact ⟨k + 1, by go_num, by omega, trivial⟩
      case measure => simp [intOf]; omega
/-- zzIndex of a letter that doesn't stand in a text of one letter. -/
theorem index_not (d c : UInt8) (hd : d ≠ c) (w : World) :
    Calls Tryz.prog 34 #[.string (bs [d]), .string (bs [c])] w fun e w' => e = .returned (.int .i64 (-1)) ∧ w' = w := by
  have hsz : (bs [d]).size = 1 := rfl
  have hs1 : (bs [c]).size = 1 := rfl
  have HS := Lib.hid (show ∀ W, (Instr.slice 9 (.string (bs [d])) (some (.int .i64 0)) (some (.int .i64 1)) none).run Tryz.prog W = .ok (.string (bs [d])) W from fun W => cut_bs [d] 0 1 (by omega) (by simp) W)
  have HE := Lib.hid (show ((bs [d]).toList == (bs [c]).toList) = false from by
    rw [bs_eq, decide_eq_false (fun h => hd (by injection h))])
  generalize bs [d] = s at *
  generalize bs [c] = t at *
  go_enter Tryz.func34, Tryz.ntmps34
  go_wp2
  go_loopw [5] (fun v5 wr => ∃ k : Nat, v5 = .int .i64 k ∧ k ≤ 1 ∧ wr = w) (fun v5 _ => (1 - (intOf v5)).toNat)
  case atStart => exact ⟨0, rfl, Nat.zero_le _, rfl⟩
  case round =>
    obtain ⟨k, rfl, hk, rfl⟩ := hrel
    by_cases h0 : k = 0
    · subst h0
      have hsl := HS.out
      have hq := HE.out
      go_wp2
      go_roundw
      case rel => exact ⟨1, by go_num, by omega, trivial⟩
      case measure => simp [intOf]
    · obtain rfl : k = 1 := by omega
      go_wp2
      go_ret
      exact ⟨rfl, rfl⟩
theorem info9 : (Tryz.prog.info? 9).map (fun i => (i.zero, i.size, i.bytes)) = some (some (.string ⟨#[]⟩), 1, 16) := by kernel_rfl
theorem split_one (d : UInt8) (hd : d ≠ 45) (w : World) :
    Calls Tryz.prog 46 #[.string (bs [d]), .string (bs [45])] w fun e w' => (∃ A c, e = .returned (.slice A 1 c)) ∧ Below w.heap.size w w' := by
  have IX := Lib.hid (fun W => index_not d 45 hd W)
  generalize bs [d] = s at *
  go_enter Tryz.func46, Tryz.ntmps46
  go_wp2
  go_loopw [5, 0] (fun v5 v0 wr => v5 = .slice none 0 0 ∧ v0 = .string s ∧ wr = w) (fun _ _ _ => 0)
  case atStart => exact ⟨rfl, rfl, rfl⟩
  case round =>
    obtain ⟨rfl, rfl, rfl⟩ := hrel
    go_wp2_with (first
      | (go_at_call 34; (with_reducible refine (IX.out _).mono ?_); rintro e w1 ⟨rfl, rfl⟩)
      | (at_builtin; refine app1 (w0 := w1) w1.heap.size rfl (.tmp 12) (.tmp 14) 23 9 (.string ⟨#[]⟩) 1 16 rfl Tryz.underlying23 info9 rfl (by omega) (by omega) _ _ _ _ rfl rfl rfl (one1 rfl) (World.ownsRow_nil _ _ _ _) (Below.refl _ _) (Nat.le_refl _) (by omega) ?_; intro v1 w2 hown1 hb1 _ _; have HB1 := Lib.hid hb1; obtain ⟨A, c, hv, _, _⟩ := (Rd.of_own hown1).shape; subst hv; clear hown1 hb1))
    go_ret
    exact ⟨⟨_, _, rfl⟩, HB1.out⟩
theorem bw_below (w : World) (e : TypeId) (s : ByteArray) : Below w.heap.size w (Lib.bytesWorld w e s) :=
  ⟨rfl, rfl, rfl, by rw [Lib.bytesWorld_size]; omega, fun k hk => Lib.bytesWorld_at_old w e s k hk⟩
/-- No digit is a space. -/
def As (w : World) : Prop := 2 < w.heap.size ∧ ∀ k : Nat, 48 ≤ k → k ≤ 57 → w.cell? ⟨2, k, none⟩ = some (.int .u8 0)
theorem As.below {w w1 : World} {B : Nat} (h : As w) (hb : Below B w w1) (hB : 2 < B) : As w1 := ⟨Nat.lt_of_lt_of_le h.1 hb.size, fun k h1 h2 => (hb.cell (p := ⟨2, k, none⟩) hB).trans (h.2 k h1 h2)⟩
/-- strings.TrimSpace of a digit. -/
theorem trim_digit (d : UInt8) (h1 : 48 ≤ d.toNat) (h2 : d.toNat ≤ 57) (w : World) (has : As w) :
    Calls Tryz.prog 45 #[.string (bs [d])] w fun e w' => e = .returned (.string (bs [d])) ∧ Below w.heap.size w w' := by
  have hcv := Lib.run_convert_string_bytes (P := Tryz.prog) w 9 22 5 (bs [d]) Tryz.underlying9 Tryz.underlying22 Tryz.underlying5
  have hB := bw_below w 5 (bs [d])
  have hc0 : (Lib.bytesWorld w 5 (bs [d])).cell? ⟨w.heap.size, 0, none⟩ = some (.int .u8 (d.toNat : Int)) := Lib.bytesWorld_cell w 5 (bs [d]) 0 (by rw [bs_size]; exact Nat.one_pos)
  have hsp := (has.below hB has.1).2 d.toNat h1 h2
  have hsz : (bs [d]).size = 1 := rfl
  rw [hsz] at hcv
  have hix := fun W => ix_bs [d] 0 d rfl W
  have hix : ∀ W, (Instr.index 9 (.string (bs [d])) (.int .i64 0)).run Tryz.prog W = .ok (.int .u8 (d.toNat : Int)) W := hix
  have hs0 : ∀ W, (Instr.slice 9 (.string (bs [d])) (some (.int .i64 0)) none none).run Tryz.prog W = .ok (.string (bs [d])) W := fun W => from_bs [d] 0 (by simp) W
  have hs1 : ∀ W, (Instr.slice 9 (.string (bs [d])) none (some (.int .i64 1)) none).run Tryz.prog W = .ok (.string (bs [d])) W := fun W => by
    rw [run_slice_string_to_if (P := Tryz.prog) W 9 (bs [d]) .i64 1 Tryz.underlying9, if_pos (by rw [hsz]; omega)]
    exact congrArg (fun s => Result.ok (Value.string s) W) (ex_bs [d] 0 1)
  have HB := Lib.hid hB
  have hsz0 := hsz
  clear hB has
  generalize Lib.bytesWorld w 5 (bs [d]) = W1 at *
  generalize bs [d] = s at *
  clear hsz
  have hsz : s.size = 1 := hsz0
  have hge : ((128 : Int) ≤ (d.toNat : Int)) = False := by simp; omega
  go_enter Tryz.func45, Tryz.ntmps45
  go_wp2
  go_loopw [10, 0] (fun v10 v0 wr => v10 = .int .i64 0 ∧ v0 = .string s ∧ wr = W1) (fun _ _ _ => 0)
  case atStart => exact ⟨rfl, rfl, rfl⟩
  case round =>
    obtain ⟨rfl, rfl, rfl⟩ := hrel
    go_wp2
    go_loopw [5] (fun v5 wr => v5 = .int .i64 0 ∧ Hid (Below w.heap.size w wr) ∧ wr.cell? ⟨2, d.toNat, none⟩ = some (.int .u8 0)) (fun _ _ => 0)
    case atStart => exact ⟨rfl, HB, hsp⟩
    case round =>
      obtain ⟨rfl, HB2, hsp2⟩ := hrel
      go_wp2
      go_ret
      exact ⟨rfl, HB2.out⟩
/-- internal/strconv.Atoi of a digit. -/
theorem atoi_inner (d : UInt8) (h1 : 48 ≤ d.toNat) (h2 : d.toNat ≤ 57) (w : World) :
    Calls Tryz.prog 62 #[.string (bs [d])] w fun e w' => e = .returned (.tuple #[.int .i64 ((d.toNat : Int) - 48), .nilIface]) ∧ Below w.heap.size w w' := by
  have hcv := Lib.run_convert_string_bytes (P := Tryz.prog) w 9 22 5 (bs [d]) Tryz.underlying9 Tryz.underlying22 Tryz.underlying5
  have HB := Lib.hid (bw_below w 5 (bs [d]))
  have hc0 : (Lib.bytesWorld w 5 (bs [d])).cell? ⟨w.heap.size, 0, none⟩ = some (.int .u8 (d.toNat : Int)) := Lib.bytesWorld_cell w 5 (bs [d]) 0 (by rw [bs_size]; exact Nat.one_pos)
  have hsz : (bs [d]).size = 1 := rfl
  rw [hsz] at hcv
  have hix : ∀ W, (Instr.index 9 (.string (bs [d])) (.int .i64 0)).run Tryz.prog W = .ok (.int .u8 (d.toNat : Int)) W := fun W => ix_bs [d] 0 d rfl W
  have hx : ∃ x : Int, (d.toNat : Int) = x ∧ (x = 48 ∨ x = 49 ∨ x = 50 ∨ x = 51 ∨ x = 52 ∨ x = 53 ∨ x = 54 ∨ x = 55 ∨ x = 56 ∨ x = 57) := ⟨_, rfl, by omega⟩
  obtain ⟨x, hxd, hx⟩ := hx
  rw [hxd] at hix hc0 ⊢
  have hsz0 := hsz
  generalize Lib.bytesWorld w 5 (bs [d]) = W1 at *
  generalize bs [d] = s at *
  clear hxd h1 h2 hsz0
  rcases hx with rfl | rfl | rfl | rfl | rfl | rfl | rfl | rfl | rfl | rfl
  · go_enter Tryz.func62, Tryz.ntmps62
    go_wp2
    go_loopw [49, 6] (fun v49 v6 wr => ((v49 = .int .i64 0 ∧ v6 = .int .i64 0) ∨ (v49 = .int .i64 1 ∧ v6 = .int .i64 0)) ∧ wr = W1) (fun v49 _ _ => (1 - intOf v49).toNat)
    case atStart => exact ⟨.inl ⟨rfl, rfl⟩, rfl⟩
    case round =>
      obtain ⟨⟨rfl, rfl⟩ | ⟨rfl, rfl⟩, rfl⟩ := hrel
      · go_wp2
        go_roundw
        case rel => exact ⟨.inr ⟨rfl, rfl⟩, trivial⟩
        case measure => simp [intOf]
      · go_wp2
        refine bodyPost_ret (v := .tuple #[.int .i64 0, .nilIface]) ?_ rfl ⟨rfl, HB.out⟩
        simp only [results, show Tryz.f62.results = #[.tmp 2, .tmp 3] by kernel_rfl]
        go_simp
  · go_enter Tryz.func62, Tryz.ntmps62
    go_wp2
    go_loopw [49, 6] (fun v49 v6 wr => ((v49 = .int .i64 0 ∧ v6 = .int .i64 0) ∨ (v49 = .int .i64 1 ∧ v6 = .int .i64 1)) ∧ wr = W1) (fun v49 _ _ => (1 - intOf v49).toNat)
    case atStart => exact ⟨.inl ⟨rfl, rfl⟩, rfl⟩
    case round =>
      obtain ⟨⟨rfl, rfl⟩ | ⟨rfl, rfl⟩, rfl⟩ := hrel
      · go_wp2
        go_roundw
        case rel => exact ⟨.inr ⟨rfl, rfl⟩, trivial⟩
        case measure => simp [intOf]
      · go_wp2
        refine bodyPost_ret (v := .tuple #[.int .i64 1, .nilIface]) ?_ rfl ⟨rfl, HB.out⟩
        simp only [results, show Tryz.f62.results = #[.tmp 2, .tmp 3] by kernel_rfl]
        go_simp
  · go_enter Tryz.func62, Tryz.ntmps62
    go_wp2
    go_loopw [49, 6] (fun v49 v6 wr => ((v49 = .int .i64 0 ∧ v6 = .int .i64 0) ∨ (v49 = .int .i64 1 ∧ v6 = .int .i64 2)) ∧ wr = W1) (fun v49 _ _ => (1 - intOf v49).toNat)
    case atStart => exact ⟨.inl ⟨rfl, rfl⟩, rfl⟩
    case round =>
      obtain ⟨⟨rfl, rfl⟩ | ⟨rfl, rfl⟩, rfl⟩ := hrel
      · go_wp2
        go_roundw
        case rel => exact ⟨.inr ⟨rfl, rfl⟩, trivial⟩
        case measure => simp [intOf]
      · go_wp2
        refine bodyPost_ret (v := .tuple #[.int .i64 2, .nilIface]) ?_ rfl ⟨rfl, HB.out⟩
        simp only [results, show Tryz.f62.results = #[.tmp 2, .tmp 3] by kernel_rfl]
        go_simp
  · go_enter Tryz.func62, Tryz.ntmps62
    go_wp2
    go_loopw [49, 6] (fun v49 v6 wr => ((v49 = .int .i64 0 ∧ v6 = .int .i64 0) ∨ (v49 = .int .i64 1 ∧ v6 = .int .i64 3)) ∧ wr = W1) (fun v49 _ _ => (1 - intOf v49).toNat)
    case atStart => exact ⟨.inl ⟨rfl, rfl⟩, rfl⟩
    case round =>
      obtain ⟨⟨rfl, rfl⟩ | ⟨rfl, rfl⟩, rfl⟩ := hrel
      · go_wp2
        go_roundw
        case rel => exact ⟨.inr ⟨rfl, rfl⟩, trivial⟩
        case measure => simp [intOf]
      · go_wp2
        refine bodyPost_ret (v := .tuple #[.int .i64 3, .nilIface]) ?_ rfl ⟨rfl, HB.out⟩
        simp only [results, show Tryz.f62.results = #[.tmp 2, .tmp 3] by kernel_rfl]
        go_simp
  · go_enter Tryz.func62, Tryz.ntmps62
    go_wp2
    go_loopw [49, 6] (fun v49 v6 wr => ((v49 = .int .i64 0 ∧ v6 = .int .i64 0) ∨ (v49 = .int .i64 1 ∧ v6 = .int .i64 4)) ∧ wr = W1) (fun v49 _ _ => (1 - intOf v49).toNat)
    case atStart => exact ⟨.inl ⟨rfl, rfl⟩, rfl⟩
    case round =>
      obtain ⟨⟨rfl, rfl⟩ | ⟨rfl, rfl⟩, rfl⟩ := hrel
      · go_wp2
        go_roundw
        case rel => exact ⟨.inr ⟨rfl, rfl⟩, trivial⟩
        case measure => simp [intOf]
      · go_wp2
        refine bodyPost_ret (v := .tuple #[.int .i64 4, .nilIface]) ?_ rfl ⟨rfl, HB.out⟩
        simp only [results, show Tryz.f62.results = #[.tmp 2, .tmp 3] by kernel_rfl]
        go_simp
  · go_enter Tryz.func62, Tryz.ntmps62
    go_wp2
    go_loopw [49, 6] (fun v49 v6 wr => ((v49 = .int .i64 0 ∧ v6 = .int .i64 0) ∨ (v49 = .int .i64 1 ∧ v6 = .int .i64 5)) ∧ wr = W1) (fun v49 _ _ => (1 - intOf v49).toNat)
    case atStart => exact ⟨.inl ⟨rfl, rfl⟩, rfl⟩
    case round =>
      obtain ⟨⟨rfl, rfl⟩ | ⟨rfl, rfl⟩, rfl⟩ := hrel
      · go_wp2
        go_roundw
        case rel => exact ⟨.inr ⟨rfl, rfl⟩, trivial⟩
        case measure => simp [intOf]
      · go_wp2
        refine bodyPost_ret (v := .tuple #[.int .i64 5, .nilIface]) ?_ rfl ⟨rfl, HB.out⟩
        simp only [results, show Tryz.f62.results = #[.tmp 2, .tmp 3] by kernel_rfl]
        go_simp
  · go_enter Tryz.func62, Tryz.ntmps62
    go_wp2
    go_loopw [49, 6] (fun v49 v6 wr => ((v49 = .int .i64 0 ∧ v6 = .int .i64 0) ∨ (v49 = .int .i64 1 ∧ v6 = .int .i64 6)) ∧ wr = W1) (fun v49 _ _ => (1 - intOf v49).toNat)
    case atStart => exact ⟨.inl ⟨rfl, rfl⟩, rfl⟩
    case round =>
      obtain ⟨⟨rfl, rfl⟩ | ⟨rfl, rfl⟩, rfl⟩ := hrel
      · go_wp2
        go_roundw
        case rel => exact ⟨.inr ⟨rfl, rfl⟩, trivial⟩
        case measure => simp [intOf]
      · go_wp2
        refine bodyPost_ret (v := .tuple #[.int .i64 6, .nilIface]) ?_ rfl ⟨rfl, HB.out⟩
        simp only [results, show Tryz.f62.results = #[.tmp 2, .tmp 3] by kernel_rfl]
        go_simp
  · go_enter Tryz.func62, Tryz.ntmps62
    go_wp2
    go_loopw [49, 6] (fun v49 v6 wr => ((v49 = .int .i64 0 ∧ v6 = .int .i64 0) ∨ (v49 = .int .i64 1 ∧ v6 = .int .i64 7)) ∧ wr = W1) (fun v49 _ _ => (1 - intOf v49).toNat)
    case atStart => exact ⟨.inl ⟨rfl, rfl⟩, rfl⟩
    case round =>
      obtain ⟨⟨rfl, rfl⟩ | ⟨rfl, rfl⟩, rfl⟩ := hrel
      · go_wp2
        go_roundw
        case rel => exact ⟨.inr ⟨rfl, rfl⟩, trivial⟩
        case measure => simp [intOf]
      · go_wp2
        refine bodyPost_ret (v := .tuple #[.int .i64 7, .nilIface]) ?_ rfl ⟨rfl, HB.out⟩
        simp only [results, show Tryz.f62.results = #[.tmp 2, .tmp 3] by kernel_rfl]
        go_simp
  · go_enter Tryz.func62, Tryz.ntmps62
    go_wp2
    go_loopw [49, 6] (fun v49 v6 wr => ((v49 = .int .i64 0 ∧ v6 = .int .i64 0) ∨ (v49 = .int .i64 1 ∧ v6 = .int .i64 8)) ∧ wr = W1) (fun v49 _ _ => (1 - intOf v49).toNat)
    case atStart => exact ⟨.inl ⟨rfl, rfl⟩, rfl⟩
    case round =>
      obtain ⟨⟨rfl, rfl⟩ | ⟨rfl, rfl⟩, rfl⟩ := hrel
      · go_wp2
        go_roundw
        case rel => exact ⟨.inr ⟨rfl, rfl⟩, trivial⟩
        case measure => simp [intOf]
      · go_wp2
        refine bodyPost_ret (v := .tuple #[.int .i64 8, .nilIface]) ?_ rfl ⟨rfl, HB.out⟩
        simp only [results, show Tryz.f62.results = #[.tmp 2, .tmp 3] by kernel_rfl]
        go_simp
  · go_enter Tryz.func62, Tryz.ntmps62
    go_wp2
    go_loopw [49, 6] (fun v49 v6 wr => ((v49 = .int .i64 0 ∧ v6 = .int .i64 0) ∨ (v49 = .int .i64 1 ∧ v6 = .int .i64 9)) ∧ wr = W1) (fun v49 _ _ => (1 - intOf v49).toNat)
    case atStart => exact ⟨.inl ⟨rfl, rfl⟩, rfl⟩
    case round =>
      obtain ⟨⟨rfl, rfl⟩ | ⟨rfl, rfl⟩, rfl⟩ := hrel
      · go_wp2
        go_roundw
        case rel => exact ⟨.inr ⟨rfl, rfl⟩, trivial⟩
        case measure => simp [intOf]
      · go_wp2
        refine bodyPost_ret (v := .tuple #[.int .i64 9, .nilIface]) ?_ rfl ⟨rfl, HB.out⟩
        simp only [results, show Tryz.f62.results = #[.tmp 2, .tmp 3] by kernel_rfl]
        go_simp
end Go.Proofs.YtmelgankbegjaaaGreatDoor.Js

set_option linter.unusedVariables false
set_option linter.unusedSimpArgs false
set_option maxRecDepth 100000
set_option maxHeartbeats 4000000
namespace Go.Proofs.YtmelgankbegjaaaGreatDoor.Js
open Go.RowKit Go.Proofs.YtmelgankbegjaaaGreatDoor.B

theorem dg_nat (i : Nat) (hi : i ≤ 9) : (dg i).toNat = 48 + i := by
  unfold dg
  rw [UInt8.toNat_ofNat']
  omega
theorem atoi_digit (i : Nat) (hi : i ≤ 9) (w : World) :
    Calls Tryz.prog 47 #[.string (bs [dg i])] w fun e w' => e = .returned (.tuple #[.int .i64 (i : Int), .nilIface]) ∧ Below w.heap.size w w' := by
  have hd := dg_nat i hi
  have AT := Lib.hid (fun W => atoi_inner (dg i) (by omega) (by omega) W)
  have e : ((dg i).toNat : Int) - 48 = i := by omega
  rw [e] at AT
  generalize bs [dg i] = s at *
  go_enter Tryz.func47, Tryz.ntmps47
  go_wp2_with (go_at_call 62; (with_reducible refine (AT.out _).mono ?_); rintro e w1 ⟨rfl, hb⟩; have HB := Lib.hid hb; clear hb)
  refine bodyPost_ret (v := .tuple #[.int .i64 (i : Int), .nilIface]) ?_ rfl ⟨rfl, HB.out⟩
  simp only [results, show Tryz.f47.results = #[.tmp 2, .tmp 3] by kernel_rfl]
  go_simp
/-- parseIndex of a digit. -/
theorem pidx_any (i : Nat) (hi : i ≤ 9) (last : Int) (hl0 : -1 ≤ last) (hl : last ≤ 100) (b : Nat) (w : World) (has : As w) :
    Calls Tryz.prog 39 #[.string (bs [dg i]), .int .i64 last, .pointer (some ⟨b, 0, none⟩)] w fun e w' => ∃ k, e = .returned (.tuple #[.pointer (some ⟨k, 0, none⟩), .pointer none]) ∧
      w'.heap[k]? = some (.cells #[.bool false, .bool (decide (last < i)), .int .i64 (if last < i then last else i)] 93 (0, 0)) ∧ w.heap.size ≤ k ∧ Below w.heap.size w w' := by
  have hd := dg_nat i hi
  have TS := Lib.hid (fun W h => trim_digit (dg i) (by omega) (by omega) W h)
  have SP : Hid (∀ W, Calls Tryz.prog 46 #[.string (bs [dg i]), .string ⟨#[45]⟩] W fun e w' => (∃ A c, e = .returned (.slice A 1 c)) ∧ Below W.heap.size W w') := Lib.hid (fun W => split_one (dg i) (fun e => by rw [e] at hd; simp at hd; omega) W)
  have AT := Lib.hid (fun W => atoi_digit i hi W)
  have hq := bs_eq [dg i] [108, 97, 115, 116]
  rw [decide_eq_false (by simp)] at hq
  have hq : ((bs [dg i]).toList == (⟨#[108, 97, 115, 116]⟩ : ByteArray).toList) = false := hq
  rw [show (⟨#[108, 97, 115, 116]⟩ : ByteArray).toList = [108, 97, 115, 116] by decide +kernel] at hq
  have HAS := Lib.hid has
  clear has hd
  generalize bs [dg i] = s at *
  by_cases hlt : last < i
  · rw [if_pos hlt, decide_eq_true hlt]
    go_enter Tryz.func39, Tryz.ntmps39
    go_wp2_with (first
      | (go_at_call 45; (with_reducible refine (TS.out _ HAS.out).mono ?_); rintro e w1 ⟨rfl, hb⟩; have HB1 := Lib.hid hb; clear hb)
      | (go_at_call 46; (with_reducible refine (SP.out w1).mono ?_); rintro e w2 ⟨⟨A, c, rfl⟩, hb⟩; have HB2 := Lib.hid (HB1.out.trans (hb.mono HB1.out.size)); clear hb)
      | (go_at_call 47; (with_reducible refine (AT.out w2).mono ?_); rintro e w3 ⟨rfl, hb⟩; have HB3 := Lib.hid (HB2.out.trans (hb.mono HB2.out.size)); clear hb))
    refine bodyPost_ret (v := .tuple #[.pointer (some ⟨w3.heap.size, 0, none⟩), .pointer none]) ?_ rfl ⟨_, rfl, heap_alloc_new _ _, HB3.out.size, HB3.out.alloc HB3.out.size _⟩
    simp only [results, show Tryz.f39.results = #[.tmp 6, .tmp 7] by kernel_rfl]
    go_simp
  · rw [if_neg hlt, decide_eq_false hlt]
    go_enter Tryz.func39, Tryz.ntmps39
    go_wp2_with (first
      | (go_at_call 45; (with_reducible refine (TS.out _ HAS.out).mono ?_); rintro e w1 ⟨rfl, hb⟩; have HB1 := Lib.hid hb; clear hb)
      | (go_at_call 46; (with_reducible refine (SP.out w1).mono ?_); rintro e w2 ⟨⟨A, c, rfl⟩, hb⟩; have HB2 := Lib.hid (HB1.out.trans (hb.mono HB1.out.size)); clear hb)
      | (go_at_call 47; (with_reducible refine (AT.out w2).mono ?_); rintro e w3 ⟨rfl, hb⟩; have HB3 := Lib.hid (HB2.out.trans (hb.mono HB2.out.size)); clear hb))
    refine bodyPost_ret (v := .tuple #[.pointer (some ⟨w3.heap.size, 0, none⟩), .pointer none]) ?_ rfl ⟨_, rfl, heap_alloc_new _ _, HB3.out.size, HB3.out.alloc HB3.out.size _⟩
    simp only [results, show Tryz.f39.results = #[.tmp 6, .tmp 7] by kernel_rfl]
    go_simp

/-- A step of a path. -/
structure Sp where
  x : ByteArray
  i : Nat
  b : Bool
/-- A step as text. -/
def seg (s : Sp) : List UInt8 := if s.b then [91, dg s.i, 93] else [46, 34] ++ s.x.data.toList ++ [34]
def segs (l : List Sp) : List UInt8 := l.flatMap seg
abbrev stv (s : Sp) : List Value := [.string s.x, .int .i64 (s.i : Int), .bool s.b]
abbrev stc (l : List Sp) : List Value := l.flatMap stv
theorem stc_len (l : List Sp) : (stc l).length = l.length * 3 := by
  induction l with
  | nil => rfl
  | cons a r ih =>
    show (stv a ++ stc r).length = _
    rw [List.length_append, ih, List.length_cons]
    simp
    omega
theorem stc_get (l : List Sp) (k : Nat) (h : k < l.length) : (stc l)[k * 3]? = some (.string l[k].x) ∧ (stc l)[k * 3 + 1]? = some (.int .i64 (l[k].i : Int)) ∧ (stc l)[k * 3 + 2]? = some (.bool l[k].b) := by
  induction l generalizing k with
  | nil => exact absurd h (by simp)
  | cons a r ih =>
    cases k with
    | zero => exact ⟨rfl, rfl, rfl⟩
    | succ k =>
      have h2 := ih k (by simpa using h)
      have e : ∀ j, (stc (a :: r))[(k + 1) * 3 + j]? = (stc r)[k * 3 + j]? := fun j => by
        show (stv a ++ stc r)[(k + 1) * 3 + j]? = _
        rw [List.getElem?_append_right (by simp; omega), show (k + 1) * 3 + j - (stv a).length = k * 3 + j by simp; omega]
      exact ⟨(e 0).trans h2.1, (e 1).trans h2.2.1, (e 2).trans h2.2.2⟩
/-- The cells of a step. -/
theorem st_at {w : World} {A : Option Addr} {n c : Nat} {l : List Sp} (h : Rd w 3 (.slice A n c) n (stc l)) (k : Nat) (hk : k < l.length) :
    ∃ b o, A = some ⟨b, o, none⟩ ∧ b < w.heap.size ∧ w.cell? ⟨b, o + k * 3, none⟩ = some (.string l[k].x) ∧ w.cell? ⟨b, o + k * 3 + 1, none⟩ = some (.int .i64 (l[k].i : Int)) ∧ w.cell? ⟨b, o + k * 3 + 2, none⟩ = some (.bool l[k].b) := by
  have hl := h.len
  rw [stc_len] at hl
  obtain ⟨b, o, c', hv, _, _, hb, hc⟩ := h.open (by omega)
  injection hv with e1 _ _
  obtain ⟨g0, g1, g2⟩ := stc_get l k hk
  exact ⟨b, o, e1, hb, hc _ _ g0, hc _ _ g1, hc _ _ g2⟩
theorem cat_bs (a b : List UInt8) (h : a.length + b.length ≤ 9223372036854775807) (W : World) : (Op.stringOp .add (bs a) (bs b)).run Tryz.prog W = .ok (.string (bs (a ++ b))) W := by
  rw [run_string_add_sum W _ _ (by rw [bs_size, bs_size]; exact h), ByteArray.mk_append_mk]
/-- JSPath. -/
theorem path_any (A : Option Addr) (c : Nat) (l : List Sp) (w : World) (h : Rd w 3 (.slice A l.length c) l.length (stc l)) (hl : l.length ≤ 4) (hd : ∀ s ∈ l, s.i ≤ 9 ∧ s.x.size ≤ 7) :
    Calls Tryz.prog 10 #[.slice A l.length c] w fun e w' => e = .returned (.string (bs (36 :: segs l))) ∧ Below w.heap.size w w' := by
  have HR := Lib.hid h
  have HD := Lib.hid hd
  clear h hd
  go_enter Tryz.func10, Tryz.ntmps10
  go_wp2
  go_loopw [3, 4] (fun v3 v4 wr => ∃ (k : Nat), v3 = .string (bs (36 :: segs (l.take k))) ∧ v4 = .int .i64 (k : Int) ∧ k ≤ l.length ∧ Hid ((segs (l.take k)).length ≤ 10 * k) ∧ Hid (Below w.heap.size w wr)) (fun _ v4 _ => (l.length - (intOf v4)).toNat)
  case atStart => exact ⟨0, rfl, rfl, Nat.zero_le _, Lib.hid (Nat.le_refl _), Lib.hid (Below.refl _ _)⟩
  case round =>
    obtain ⟨k, rfl, rfl, hk, HL, HB⟩ := hrel
    by_cases hlt : k < l.length
    · obtain ⟨b, o, rfl, hb, x0, x1, x2⟩ := st_at HR.out k hlt
      have x0 := (HB.out.cell (p := ⟨b, o + k * 3, none⟩) hb).trans x0
      have x1 := (HB.out.cell (p := ⟨b, o + k * 3 + 1, none⟩) hb).trans x1
      have x2 := (HB.out.cell (p := ⟨b, o + k * 3 + 2, none⟩) hb).trans x2
      have hlk := HL.out
      obtain ⟨d1, d2⟩ := HD.out l[k] (List.getElem_mem hlt)
      have hxl : l[k].x.data.toList.length = l[k].x.size := by rw [Array.length_toList]; rfl
      have HT := Lib.hid (show segs (l.take (k + 1)) = segs (l.take k) ++ seg l[k] from by
        rw [← List.take_append_getElem hlt, segs, List.flatMap_append]
        simp [segs])
      have DG := Lib.hid (fun W => digit_any l[k].i d1 W)
      have hxe := bs_list l[k].x
      generalize l[k] = s at *
      generalize segs (l.take k) = g at *
      cases hsb : s.b
      · rw [hsb] at x2
        have hs1 := fun W => cat_bs [46, 34] s.x.data.toList (by rw [hxl]; simp; omega) W
        rw [hxe] at hs1
        have hs2 := fun W => cat_bs ([46, 34] ++ s.x.data.toList) [34] (by simp; omega) W
        have hs3 := fun W => cat_bs (36 :: g) ([46, 34] ++ s.x.data.toList ++ [34]) (by simp; omega) W
        have hs1 : ∀ W, (Op.stringOp .add (⟨#[46, 34]⟩ : ByteArray) s.x).run Tryz.prog W = .ok (.string (bs ([46, 34] ++ s.x.data.toList))) W := hs1
        have hs2 : ∀ W, (Op.stringOp .add (bs ([46, 34] ++ s.x.data.toList)) (⟨#[34]⟩ : ByteArray)).run Tryz.prog W = .ok (.string (bs ([46, 34] ++ s.x.data.toList ++ [34]))) W := hs2
        have HF := Lib.hid (show (36 :: g) ++ ([46, 34] ++ s.x.data.toList ++ [34]) = 36 :: segs (l.take (k + 1)) ∧ (segs (l.take (k + 1))).length ≤ 10 * (k + 1) from by
          rw [HT.out, seg, hsb]
          refine ⟨by simp, ?_⟩
          simp
          omega)
        generalize bs ([46, 34] ++ s.x.data.toList) = y1 at *
        generalize bs ([46, 34] ++ s.x.data.toList ++ [34]) = y2 at *
        generalize (36 :: g) ++ ([46, 34] ++ s.x.data.toList ++ [34]) = y3 at *
        generalize bs (36 :: g) = y0 at *
        generalize s.x = sx at *
        go_wp2
        go_roundw
        case rel => exact ⟨k + 1, by rw [HF.out.1], by go_num, by omega, Lib.hid HF.out.2, HB⟩
        case measure => simp [intOf]; omega
      · rw [hsb] at x2
        have hs1 : ∀ W, (Op.stringOp .add (⟨#[91]⟩ : ByteArray) (bs [dg s.i])).run Tryz.prog W = .ok (.string (bs [91, dg s.i])) W := fun W => cat_bs [91] [dg s.i] (by simp) W
        have hs2 : ∀ W, (Op.stringOp .add (bs [91, dg s.i]) (⟨#[93]⟩ : ByteArray)).run Tryz.prog W = .ok (.string (bs [91, dg s.i, 93])) W := fun W => cat_bs [91, dg s.i] [93] (by simp) W
        have hs3 := fun W => cat_bs (36 :: g) [91, dg s.i, 93] (by simp; omega) W
        have HF := Lib.hid (show (36 :: g) ++ [91, dg s.i, 93] = 36 :: segs (l.take (k + 1)) ∧ (segs (l.take (k + 1))).length ≤ 10 * (k + 1) from by
          rw [HT.out, seg, hsb]
          refine ⟨by simp, ?_⟩
          simp
          omega)
        generalize bs [91, dg s.i] = y1 at *
        generalize bs [91, dg s.i, 93] = y2 at *
        generalize (36 :: g) ++ [91, dg s.i, 93] = y3 at *
        generalize bs (36 :: g) = y0 at *
        generalize bs [dg s.i] = yd at *
        go_wp2_with (go_at_call 23; (with_reducible refine (DG.out _).mono ?_); rintro e w1 ⟨rfl, hb1⟩; have HB1 := Lib.hid (HB.out.trans (hb1.mono HB.out.size)); clear hb1)
        go_roundw
        case rel => exact ⟨k + 1, by rw [HF.out.1], by go_num, by omega, Lib.hid HF.out.2, HB1⟩
        case measure => simp [intOf]; omega
    · obtain rfl : k = l.length := by omega
      rw [List.take_length]
      go_wp2
      go_ret
      exact ⟨rfl, HB.out⟩
end Go.Proofs.YtmelgankbegjaaaGreatDoor.Js

/- The law FnCSAsks. Conditions: the listed table of math/bits reads as listed. -/
import Derived.Test.YtbhlhgfgkiclgaaDoorSfr
set_option linter.unusedVariables false
set_option linter.unusedSimpArgs false
set_option maxRecDepth 100000
set_option maxHeartbeats 8000000
namespace Go.Proofs.YtbhlhgfgkiclgaaDoor.Set
open Go.RowKit Go.Proofs.YtbhlhgfgkiclgaaDoor.B

theorem run_tail1 (A : Option Addr) (j c : Nat) (W : World) : (Instr.slice 22 (.slice A (j + 1) c) (some (.int .i64 1)) none none).run Tryd.prog W = .ok (.slice (tlA A c 1) j (c - 1)) W :=
  run_tail A (j + 1) c 1 (by omega) W
attribute [local go_sem ↓] run_tail1

/-- The row is a slice. -/
def RdS (W : World) (v : Value) (l : List Int) : Prop := ∃ A c, v = .slice A l.length c ∧ Rd W 1 v l.length (nums l)
theorem RdS.of {W : World} {v : Value} {l : List Int} (h : Rd W 1 v l.length (nums l)) : RdS W v l := by
  obtain ⟨A, c, rfl, _⟩ := h.shape
  exact ⟨A, c, rfl, h⟩

theorem isSet_r (va : Value) (l : List Int) (w : World) (hr : Rd w 1 va l.length (nums l)) (hl : l.length ≤ 2147483647) :
    Calls Tryd.prog 7 #[va] w fun e w' => ∃ A c, e = .returned (.slice A (isL (l.take 40)).length c) ∧ Rd w' 1 (.slice A (isL (l.take 40)).length c) (isL (l.take 40)).length (nums (isL (l.take 40))) ∧ Below w.heap.size w w' := by
  refine (isSet_any va l w hr hl).mono ?_
  rintro e w' ⟨v, rfl, ho, hb⟩
  obtain ⟨A, c, rfl, _⟩ := (Rd.of_own ho).shape
  exact ⟨A, c, rfl, Rd.of_own ho, hb⟩
theorem isPut_r (va : Value) (l : List Int) (x : Int) (w : World) (hr : Rd w 1 va l.length (nums l)) (hs : Srt l) (hl : l.length ≤ 100000) :
    Calls Tryd.prog 6 #[va, .int .i64 x] w fun e w' => ∃ A c, e = .returned (.slice A (ins l x).length c) ∧ Rd w' 1 (.slice A (ins l x).length c) (ins l x).length (nums (ins l x)) ∧ Below w.heap.size w w' := by
  have h := isPut_any va l x w hr hl
  rw [putR_ins x l hs] at h
  refine h.mono ?_
  rintro e w' ⟨v, rfl, ho, hb⟩
  obtain ⟨A, c, rfl, _⟩ := (Rd.of_own ho).shape
  exact ⟨A, c, rfl, Rd.of_own ho, hb⟩
theorem isBoth_r (va vb : Value) (l m r : List Int) (b : Bool) (w : World) (hr : Rd w 1 va l.length (nums l)) (hr2 : Rd w 1 vb m.length (nums m)) (hl : l.length ≤ 100000) (hm : m.length ≤ 100000) (he : flt m b l = r) :
    Calls Tryd.prog 17 #[va, vb, .bool b] w fun e w' => ∃ A c, e = .returned (.slice A r.length c) ∧ Rd w' 1 (.slice A r.length c) r.length (nums r) ∧ Below w.heap.size w w' := by
  subst he
  refine (isBoth_any va vb l m b w hr hr2 hl hm).mono ?_
  rintro e w' ⟨v, rfl, ho, hb⟩
  obtain ⟨A, c, rfl, _⟩ := (Rd.of_own ho).shape
  exact ⟨A, c, rfl, Rd.of_own ho, hb⟩
theorem isAll_r (va vb : Value) (l m r : List Int) (w : World) (hr : Rd w 1 va l.length (nums l)) (hr2 : Rd w 1 vb m.length (nums m)) (hs : Srt l) (hl : l.length + m.length ≤ 100000) (he : uni l m = r) :
    Calls Tryd.prog 19 #[va, vb] w fun e w' => ∃ A c, e = .returned (.slice A r.length c) ∧ Rd w' 1 (.slice A r.length c) r.length (nums r) ∧ Below w.heap.size w w' := by
  subst he
  refine (isAll_any va vb l m w hr hr2 hs hl).mono ?_
  rintro e w' ⟨v, rfl, ho, hb⟩
  obtain ⟨A, c, rfl, _⟩ := ho.shape
  exact ⟨A, c, rfl, ho, hb⟩
theorem ask_r (va vb : Value) (xs ys : List Int) (w : World) (hT : Tab w) (h0 : 0 < w.heap.size) (hr : Rd w 1 va (up xs).length (nums (up xs))) (hr2 : Rd w 1 vb (up ys).length (nums (up ys))) (hx : Srt xs) (hy : Srt ys) (hxb : ∀ u ∈ xs, 0 ≤ u ∧ u ≤ 200) (hyb : ∀ u ∈ ys, 0 ≤ u ∧ u ≤ 200) :
    Calls Tryd.prog 15 #[va, vb] w fun e w' => ∃ A1 c1 A2 c2 A3 c3, e = .returned (.tuple #[.slice A1 (up (uni xs ys)).length c1, .slice A2 (up (xs.filter fun u => hasB ys u == true)).length c2, .slice A3 (up (xs.filter fun u => hasB ys u == false)).length c3, .bool (decide (xs = ys)), .bool (xs.all (hasB ys)), .bool (xs.any (hasB ys))]) ∧
      Rd w' 1 (.slice A1 (up (uni xs ys)).length c1) (up (uni xs ys)).length (nums (up (uni xs ys))) ∧
      Rd w' 1 (.slice A2 (up (xs.filter fun u => hasB ys u == true)).length c2) (up (xs.filter fun u => hasB ys u == true)).length (nums (up (xs.filter fun u => hasB ys u == true))) ∧
      Rd w' 1 (.slice A3 (up (xs.filter fun u => hasB ys u == false)).length c3) (up (xs.filter fun u => hasB ys u == false)).length (nums (up (xs.filter fun u => hasB ys u == false))) ∧ Below w.heap.size w w' := by
  refine (ask_any va vb xs ys w hT h0 hr hr2 hx hy hxb hyb).mono ?_
  rintro e w' ⟨v1, v2, v3, rfl, h1, h2, h3, hb⟩
  rw [← up_len] at h1 h2 h3
  obtain ⟨A1, c1, rfl, _⟩ := (Rd.of_own h1).shape
  obtain ⟨A2, c2, rfl, _⟩ := (Rd.of_own h2).shape
  obtain ⟨A3, c3, rfl, _⟩ := (Rd.of_own h3).shape
  exact ⟨A1, c1, A2, c2, A3, c3, rfl, Rd.of_own h1, Rd.of_own h2, Rd.of_own h3, hb⟩
theorem isSame_r (va vb : Value) (l m : List Int) (b : Bool) (w : World) (hr : Rd w 1 va l.length (nums l)) (hr2 : Rd w 1 vb m.length (nums m)) (hl : l.length ≤ 100000) (hm : m.length ≤ 100000) (he : decide (l = m) = b) :
    Calls Tryd.prog 18 #[va, vb] w fun e w' => e = .returned (.bool b) ∧ Below w.heap.size w w' := by
  subst he
  refine (isSame_any va vb l m w hr hr2 hl hm).mono ?_
  rintro e w' ⟨rfl, hd⟩
  exact ⟨rfl, hd.below _⟩
theorem eq_bb (b : Bool) (W : World) : (binOp .eql 4 (.bool b) (.bool b)).run Tryd.prog W = .ok (.bool true) W := by cases b <;> rfl
end Go.Proofs.YtbhlhgfgkiclgaaDoor.Set

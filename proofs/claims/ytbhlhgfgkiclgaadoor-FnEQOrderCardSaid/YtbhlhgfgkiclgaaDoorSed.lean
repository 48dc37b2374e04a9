/- The walks of a set made of a list, and what it is asked; the reference's lists. Conditions: the listed table of math/bits reads as listed; those written at each lemma. -/
import Derived.Test.YtbhlhgfgkiclgaaDoorSec
set_option linter.unusedVariables false
set_option linter.unusedSimpArgs false
set_option maxRecDepth 100000
set_option maxHeartbeats 2000000
namespace Go.Proofs.YtbhlhgfgkiclgaaDoor.Set
open Go.RowKit Go.Proofs.YtbhlhgfgkiclgaaDoor.B

/-- All numbers of a list put in. -/
def insAll (l : List Int) : List Int := l.foldl ins []
theorem insAll_snoc (l : List Int) (x : Int) : insAll (l ++ [x]) = ins (insAll l) x := by unfold insAll; rw [List.foldl_append]; rfl
theorem insAll_srt {l : List Int} (h : Srt l) : insAll l = l := by
  have hk : ∀ k, k ≤ l.length → insAll (l.take k) = l.take k := by
    intro k
    induction k with
    | zero => intro _; rfl
    | succ k ih =>
      intro hk
      rw [List.take_succ_eq_append_getElem (by omega), insAll_snoc, ih (by omega), ins_take h k (by omega), List.take_succ_eq_append_getElem (by omega)]
  have := hk l.length (Nat.le_refl _)
  rwa [List.take_length] at this
theorem Fv.mono {w : World} {B B1 : Nat} {s L : Value} {xs : List Int} (h : Fv w B s L xs) (hB : B1 ≤ B) : Fv w B1 s L xs := by
  obtain ⟨h1, h2, h3⟩ := h
  refine ⟨h1, h2, ?_⟩
  rcases h3 with h3 | ⟨p, h4, h5, h6⟩
  · exact .inl h3
  · exact .inr ⟨p, h4, h5, h6.mono hB⟩
theorem Fv.set {w : World} {B q j : Nat} {s L : Value} {xs : List Int} (h : Fv w B s L xs) (hq : q < B) (u : Value) : Fv (w.setCell ⟨q, j, none⟩ u) B s L xs := by
  obtain ⟨h1, h2, h3⟩ := h
  refine ⟨h1, h2, ?_⟩
  rcases h3 with h3 | ⟨p, h4, h5, h6⟩
  · exact .inl h3
  · exact .inr ⟨p, h4, h5, h6.set hq u⟩
/-- What the two cells of a set's value may be. -/
theorem Fv.shape {w : World} {B : Nat} {s L : Value} {xs : List Int} (h : Fv w B s L xs) : ∃ (n : Nat) (P : Option Addr), s = .int .u64 n ∧ L = .pointer P := by
  obtain ⟨_, _, h3⟩ := h
  rcases h3 with ⟨n, _, h1, h2, _⟩ | ⟨p, h1, h2, _⟩
  · exact ⟨n, none, h1, h2⟩
  · exact ⟨0, some ⟨p, 0, none⟩, h1, h2⟩
theorem rd_num {w : World} {A : Option Addr} {n c : Nat} {l : List Int} (h : Rd w 1 (.slice A n c) n (nums l)) (k : Nat) (hk : k < l.length) : ∃ b o, A = some ⟨b, o, none⟩ ∧ b < w.heap.size ∧ w.cell? ⟨b, o + k, none⟩ = some (.int .i64 l[k]) := by
  have hn : n = l.length := by have := h.len; simp at this; omega
  obtain ⟨b, o, c', hv, _, _, hb, hc⟩ := h.open (by omega)
  injection hv with e1 _ _
  refine ⟨b, o, e1, hb, hc k _ ?_⟩
  rw [List.getElem?_map, List.getElem?_eq_getElem hk]
  rfl
theorem take_snoc (l : List Int) (k : Nat) (h : k < l.length) : l.take (k + 1) = l.take k ++ [l[k]] := List.take_succ_eq_append_getElem h

theorem new_any (va : Value) (l : List Int) (w : World) (hT : Tab w) (hr : Rd w 1 va l.length (nums l)) (hl : l.length ≤ 100000) (hbd : ∀ u ∈ l, 0 ≤ u ∧ u ≤ 900000) :
    Calls Tryd.prog 20 #[va] w fun e w' => ∃ s L, e = .returned (.agg #[s, L]) ∧ Fv w' w.heap.size s L (insAll l) ∧ Below w.heap.size w w' := by
  obtain ⟨A, c, rfl, hlc, hcm⟩ := hr.shape
  have HR := Lib.hid hr
  have HT := Lib.hid hT
  have HD := Lib.hid hbd
  clear hr hT hbd
  go_enter Tryd.func20, Tryd.ntmps20
  go_wp2
  go_loopw [8] (fun v8 wr => ∃ k : Nat, v8 = .int .i64 k ∧ k ≤ l.length ∧ Hid (Fq wr (w.heap.size + 1) (w.heap.size + 1) 42 (insAll (l.take k))) ∧ Hid (Below (w.heap.size + 1) (w.alloc (.cells #[.int .u64 0, .pointer none] 42)) wr)) (fun v8 _ => (l.length - (intOf v8)).toNat)
  case atStart => exact ⟨0, rfl, Nat.zero_le _, Lib.hid ⟨Nat.le_refl _, _, _, by rw [← World.size_alloc w (.cells #[.int .u64 0, .pointer none] 42)]; exact heap_alloc_new _ _, List.Pairwise.nil, by simp [insAll], .inl ⟨0, by omega, rfl, rfl, bitsL_zero.symm⟩⟩, Lib.hid ((Below.refl _ _).alloc (by simp) _)⟩
  case round =>
    obtain ⟨k, rfl, hk, HF, HB⟩ := hrel
    have hbel : Below w.heap.size w wr := ((Below.refl _ _).alloc (Nat.le_refl _) _).trans (HB.out.mono (by omega))
    have hbs : w.heap.size + 1 ≤ wr.heap.size := by have := HB.out.size; simp at this; exact this
    by_cases hlt : k < l.length
    · obtain ⟨b, o, rfl, hb, hc⟩ := rd_num HR.out k hlt
      have hcw : wr.cell? ⟨b, o + k, none⟩ = some (.int .i64 l[k]) := (hbel.cell (p := ⟨b, o + k, none⟩) hb).trans hc
      have hd := HD.out _ (List.getElem_mem hlt)
      have HS := Lib.hid (by have h := insAll_snoc (l.take k) l[k]; rw [← take_snoc l k hlt] at h; exact h)
      have AD := Lib.hid (add_any (w.heap.size + 1) (w.heap.size + 1) 42 (by decide) (insAll (l.take k)) l[k] wr (tab_below HT.out hbel) hd.1 hd.2 hbs HF.out)
      clear hc hd
      generalize l[k] = y at *
      go_wp2_with (first
        | (go_at_call 36; (with_reducible refine AD.out.mono ?_); rintro e w1 ⟨rfl, hf1, hb1⟩; have HF1 := Lib.hid hf1; have HB1 := Lib.hid (HB.out.trans hb1); clear hf1 hb1))
      go_roundw
      case rel => exact ⟨k + 1, by go_num, by omega, Lib.hid (by rw [HS.out]; exact HF1.out), HB1⟩
      case measure => simp [intOf]; omega
    · obtain rfl : k = l.length := by omega
      rw [List.take_length] at HF
      obtain ⟨_, s, L, hq, hv⟩ := HF.out
      obtain ⟨n, P, rfl, rfl⟩ := hv.shape
      obtain ⟨c0, c1, f0, f1⟩ := cells_two hq
      have h2 : wr.heap[w.heap.size]? = some (.cells #[.int .u64 0, .pointer none] 42 (0, 0)) := by rw [HB.out.block _ (by omega)]; exact heap_alloc_new _ _
      obtain ⟨d0, d1, g0, g1⟩ := cells_two h2
      have HV := Lib.hid hv
      have H2 := Lib.hid h2
      have HBE := Lib.hid hbel
      clear hq h2 hbel hv
      go_wp2
      refine bodyPost_ret (v := .agg #[.int .u64 n, .pointer P]) ?_ rfl ⟨_, _, rfl, ?_, ?_⟩
      · simp only [results, show Tryd.f20.results = #[.cell 2 42] by kernel_rfl]
        go_simp
      · exact ((HV.out.set (by omega) _).set (by omega) _).mono (by omega)
      · exact (HBE.out.setCell (p := ⟨w.heap.size, 0, none⟩) (Nat.le_refl _) _).setCell (p := ⟨w.heap.size, 1, none⟩) (Nat.le_refl _) _

end Go.Proofs.YtbhlhgfgkiclgaaDoor.Set

/- The walks of sets: copies, one set joined to, met with, taken from another one. Conditions: the listed table of math/bits reads as listed; those written at each lemma. -/
import Derived.Test.YtbhlhgfgkiclgaaDoorSfb
set_option linter.unusedVariables false
set_option linter.unusedSimpArgs false
set_option maxRecDepth 100000
set_option maxHeartbeats 2000000
namespace Go.Proofs.YtbhlhgfgkiclgaaDoor.Set
open Go.RowKit Go.Proofs.YtbhlhgfgkiclgaaDoor.B

theorem new_at {X : World} {O : Obj} {k : Nat} (h : k = X.heap.size) : (X.alloc O).heap[k]? = some O := by subst h; exact heap_alloc_new _ _
def Copied (w : World) (xs : List Int) (e : Ending) (w' : World) : Prop := ∃ (n : Nat) (P : Option Addr), e = .returned (.agg #[.int .u64 n, .pointer P]) ∧ Fv w' w.heap.size (.int .u64 n) (.pointer P) xs ∧ Below w.heap.size w w'

theorem fcopy_any (B : Nat) (s L : Value) (xs : List Int) (w : World) (hv : Fv w B s L xs) :
    Calls Tryd.prog 56 #[.agg #[s, L]] w fun e w' => Copied w xs e w' := by
  obtain ⟨hsr, hbd, hv⟩ := hv
  rcases hv with ⟨n, hn, rfl, rfl, rfl⟩ | ⟨p, rfl, rfl, hp⟩
  · have HS := Lib.hid hsr
    have HD := Lib.hid hbd
    clear hsr hbd
    go_enter Tryd.func56, Tryd.ntmps56
    go_wp2
    refine bodyPost_ret (v := .agg #[.int .u64 n, .pointer none]) ?_ rfl ⟨n, none, rfl, ⟨HS.out, HD.out, .inl ⟨n, hn, rfl, rfl, rfl⟩⟩, ?_⟩
    · simp only [results, show Tryd.f56.results = #[.cell 2 42] by kernel_rfl]
      go_simp
    · repeat (first | with_reducible exact Below.refl _ _ | with_reducible apply Below.drew | with_reducible refine Below.alloc ?_ (by simp <;> omega) _ | with_reducible refine Below.setCell ?_ (by simp <;> omega) _)
  · have HS := Lib.hid hsr
    have HD := Lib.hid hbd
    have hlen := hp.len
    have p1 := ptr_ne p 0
    have CP := Lib.hid (fun W P (hW : Below w.heap.size w W) (hP : W.heap[P]? = some (.cells #[.slice none 0 0] 75 (0, 0))) (hb : w.heap.size + 2 ≤ P) (hz : w.heap.size + 2 ≤ W.heap.size) => copy_any (w.heap.size + 2) B P p xs (.slice none 0 0) W hP hb hz (hp.below hW))
    clear hsr hbd hp
    go_enter Tryd.func56, Tryd.ntmps56
    go_wp2_with (first
      | (go_at_call 65; go_loud (with_reducible refine (CP.out _ _ (by repeat (first | with_reducible exact Below.refl _ _ | with_reducible apply Below.drew | with_reducible refine Below.alloc ?_ (by simp <;> omega) _ | with_reducible refine Below.setCell ?_ (by simp <;> omega) _)) (new_at (by simp)) (by omega) (by simp <;> omega)).mono ?_); rintro e w4 ⟨rfl, hsp, hg⟩; have HP := Lib.hid hsp; have HG := Lib.hid hg; have d0 : w4.cell? ⟨w.heap.size + 1 + 1, 0, none⟩ = some (.int .u64 0) := World.grownBy.cell hg (by go_simp) (by simp); have d1 : w4.cell? ⟨w.heap.size + 1 + 1, 1, none⟩ = some (.pointer (some ⟨w.heap.size + 1 + 1 + 1, 0, none⟩)) := World.grownBy.cell hg (by go_simp) (by simp); have e0 : w4.cell? ⟨w.heap.size + 1, 0, none⟩ = some (.int .u64 0) := World.grownBy.cell hg (by go_simp) (by simp <;> omega); have e1 : w4.cell? ⟨w.heap.size + 1, 1, none⟩ = some (.pointer none) := World.grownBy.cell hg (by go_simp) (by simp <;> omega); have f0 : w4.frozen? ⟨w.heap.size + 1, 0, none⟩ = false := (World.grownBy.frozen_far hg ⟨w.heap.size + 1, 0, none⟩ (by simp <;> omega) (by simp <;> omega)).trans (by go_simp); have f1 : w4.frozen? ⟨w.heap.size + 1, 1, none⟩ = false := (World.grownBy.frozen_far hg ⟨w.heap.size + 1, 1, none⟩ (by simp <;> omega) (by simp <;> omega)).trans (by go_simp); clear hsp hg))
    refine bodyPost_ret (v := .agg #[.int .u64 0, .pointer (some ⟨w.heap.size + 1 + 1 + 1, 0, none⟩)]) ?_ rfl ⟨0, _, rfl, ?_, ?_⟩
    · simp only [results, show Tryd.f56.results = #[.cell 2 42] by kernel_rfl]
      go_simp
    · exact ⟨HS.out, HD.out, .inr ⟨_, rfl, rfl, ((HP.out.set (by omega) _).set (by omega) _).mono (by omega)⟩⟩
    · refine Below.setCell (p := ⟨w.heap.size + 1, 1, none⟩) (Below.setCell (p := ⟨w.heap.size + 1, 0, none⟩) (Below.grown ?_ HG.out (by simp <;> omega) (by intro j hj; cases hj; omega)) (by simp) _) (by simp) _
      repeat (first | with_reducible exact Below.refl _ _ | with_reducible apply Below.drew | with_reducible refine Below.alloc ?_ (by simp <;> omega) _ | with_reducible refine Below.setCell ?_ (by simp <;> omega) _)

end Go.Proofs.YtbhlhgfgkiclgaaDoor.Set

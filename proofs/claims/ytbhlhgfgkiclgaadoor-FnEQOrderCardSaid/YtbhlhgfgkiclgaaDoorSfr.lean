/- What the law FnCSAsks compares: plain laws, no program in sight. -/
import Derived.Test.YtbhlhgfgkiclgaaDoorSfq
set_option linter.unusedVariables false
set_option linter.unusedSimpArgs false
set_option maxRecDepth 100000
set_option maxHeartbeats 4000000
namespace Go.Proofs.YtbhlhgfgkiclgaaDoor.Set
open Go.RowKit Go.Proofs.YtbhlhgfgkiclgaaDoor.B

theorem mem_up (xs : List Int) (u : Int) : u ∈ up xs ↔ u - 1 ∈ xs := by
  unfold up
  rw [List.mem_map]
  constructor
  · rintro ⟨v, hv, rfl⟩; rwa [show v + 1 - 1 = v by omega]
  · intro h; exact ⟨u - 1, h, by omega⟩
theorem srt_up {xs : List Int} (h : Srt xs) : Srt (up xs) := by
  unfold up Srt
  rw [List.pairwise_map]
  exact List.Pairwise.imp (fun h => by omega) h
theorem uni_up {xs ys : List Int} (hx : Srt xs) (hy : Srt ys) : uni (up xs) (up ys) = up (uni xs ys) := by
  refine srt_ext (srt_uni (srt_up hx) _).1 (srt_up (srt_uni hx ys).1) fun u => ?_
  rw [(srt_uni (srt_up hx) _).2, mem_up, mem_up, mem_up, (srt_uni hx ys).2]
theorem flt_up {xs ys : List Int} (hy : Srt ys) (b : Bool) : flt (up ys) b (up xs) = up (xs.filter fun u => hasB ys u == b) := by
  unfold flt up
  rw [List.filter_map]
  congr 1
  apply List.filter_congr
  intro u hu
  simp only [Function.comp]
  congr 1
  rw [Bool.eq_iff_iff, decide_eq_true_iff, hasB_iff hy]
  have := mem_up ys (u + 1)
  rw [show u + 1 - 1 = u by omega] at this
  exact this
theorem flt_nil (l : List Int) : flt [] false l = l := by
  unfold flt
  rw [List.filter_eq_self]
  intro u _
  simp
theorem eq_up (xs ys : List Int) : decide (up xs = up ys) = decide (xs = ys) := by
  rw [Bool.eq_iff_iff, decide_eq_true_iff, decide_eq_true_iff]
  constructor
  · intro h; rw [← up_down xs, h, up_down]
  · intro h; rw [h]
theorem sub_len {xs ys : List Int} : ((((up (xs.filter fun u => hasB ys u == false)).length : Nat) : Int) == 0) = xs.all (hasB ys) := by
  rw [up_len, Bool.eq_iff_iff, beq_iff_eq, List.all_eq_true]
  constructor
  · intro h u hu
    have h2 : xs.filter (fun u => hasB ys u == false) = [] := List.eq_nil_of_length_eq_zero (by omega)
    rw [List.filter_eq_nil_iff] at h2
    have h3 := h2 u hu
    revert h3
    cases hasB ys u <;> simp
  · intro h
    have h2 : xs.filter (fun u => hasB ys u == false) = [] := by
      rw [List.filter_eq_nil_iff]
      intro u hu
      rw [h u hu]
      simp
    rw [h2]; rfl
theorem int_len {xs ys : List Int} : decide (0 < (up (xs.filter fun u => hasB ys u == true)).length) = xs.any (hasB ys) := by
  rw [up_len, Bool.eq_iff_iff, decide_eq_true_iff, List.any_eq_true, List.length_pos_iff_exists_mem]
  constructor
  · rintro ⟨u, hu⟩
    rw [List.mem_filter] at hu
    exact ⟨u, hu.1, by simpa using hu.2⟩
  · rintro ⟨u, hu, h⟩
    exact ⟨u, List.mem_filter.2 ⟨hu, by rw [h]; rfl⟩⟩
/-- Where the list from k on is what is not below x. -/
theorem nx_up {ys : List Int} (x : Int) (k : Nat) (hk : k ≤ ys.length) (h1 : ∀ u ∈ (up ys).take k, u < x) (h2 : ∀ h : k < ys.length, x ≤ ys[k] + 1) : nx ys (x - 1) = ys[k]? := by
  unfold nx
  rw [lo_eq ys (x - 1) k hk (fun j hj hjk => ?_) (fun h => by have := h2 h; omega)]
  have h3 : ys[j] + 1 ∈ (up ys).take k := by
    unfold up
    rw [← List.map_take]
    refine List.mem_map.2 ⟨ys[j], ?_, rfl⟩
    exact List.mem_take_iff_getElem.2 ⟨j, by omega, rfl⟩
  have := h1 _ h3
  omega
theorem cn_some {ys : List Int} {x v : Int} (h : nx ys (x - 1) = some v) (h0 : 0 ≤ v) (h1 : v ≤ 200) : cn ys x = v + 1 := by
  unfold cn
  rw [h]
  show IntKind.u16.wrap (wrap64 (v + 1)) = v + 1
  have : wrap64 (v + 1) = v + 1 := by unfold wrap64; omega
  rw [this, IntKind.wrap_u16]
  omega
theorem up_get (ys : List Int) (k : Nat) (h : k < (up ys).length) (h2 : k < ys.length) : (up ys)[k] = ys[k] + 1 := by
  exact List.getElem_map _
end Go.Proofs.YtbhlhgfgkiclgaaDoor.Set

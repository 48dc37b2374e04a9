/- What the law FnEQOrder compares: plain laws, no program in sight. -/
import Derived.Test.YtbhlhgfgkiclgaaDoorSgk
set_option linter.unusedVariables false
set_option linter.unusedSimpArgs false
set_option maxRecDepth 100000
namespace Go.Proofs.YtbhlhgfgkiclgaaDoor.Set
open Go.RowKit Go.Proofs.YtbhlhgfgkiclgaaDoor.B

theorem up_inj {a b : List Int} (h : up a = up b) : a = b := by rw [← up_down a, h, up_down]
theorem count_up (s : List Int) : ∀ L : List (List Int), (L.map up).count (up s) = L.count s
  | [] => rfl
  | t :: L => by
    rw [List.map_cons, List.count_cons, List.count_cons, count_up s L]
    congr 1
    by_cases h : t = s
    · subst h; simp
    · have h2 : up t ≠ up s := fun e => h (up_inj e)
      simp [h, h2]
theorem upB_map (ns : List Nat) : ns.map upB = (ns.map bitsL).map up := by rw [List.map_map]; rfl
/-- The partitions of two lists of sets with the same members are the same sets, in some order. -/
theorem eqd_same {xss yss : List (List Int)} {ns ms : List Nat} (hp : Part (ns.map bitsL)) (hq : Part (ms.map bitsL)) (hc : ∀ u v, Con (ns.map bitsL) u v ↔ Con xss u v) (hd : ∀ u v, Con (ms.map bitsL) u v ↔ Con yss u v) (hm : ∀ s, s ∈ xss ↔ s ∈ yss) :
    (ns.map upB).length = (ms.map upB).length ∧ ∀ s ∈ ns.map upB, (ms.map upB).count s = 1 := by
  have h := part_perm hp hq (fun u v => by
    rw [hc, hd]
    exact ⟨Con.sub fun s hs => (hm s).1 hs, Con.sub fun s hs => (hm s).2 hs⟩)
  refine ⟨by simpa using h.1, fun s hs => ?_⟩
  rw [upB_map] at hs ⊢
  obtain ⟨t, ht, rfl⟩ := List.mem_map.1 hs
  rw [count_up]
  exact h.2 t ht
theorem upB_good (ns : List Nat) : ∀ s ∈ ns.map upB, Srt s ∧ s.length ≤ 100000 := fun s hs => by
  obtain ⟨n, _, rfl⟩ := List.mem_map.1 hs
  have h : (bitsL n).length ≤ 64 := srt_len (srt_bitsL n) 63 (fun u hu => by have := nn_bitsL n u hu; omega)
  exact ⟨srt_up (srt_bitsL n), by unfold upB; rw [up_len]; omega⟩
theorem con_mem {L : List (List Int)} {u v : Int} (h : Con L u v) : ∃ s, s ∈ L := by
  induction h with
  | base hs _ _ => exact ⟨_, hs⟩
  | trans _ _ h1 _ => exact h1
/-- A list of sets that has a number gives a partition that has a set. -/
theorem eqd_pos {xss : List (List Int)} {ns : List Nat} (hc : ∀ u v, Con (ns.map bitsL) u v ↔ Con xss u v) (hx : ∀ xs ∈ xss, Good30 xs) (hne : xss ≠ []) : 0 < ns.length := by
  rcases xss with _ | ⟨xs, r⟩
  · exact absurd rfl hne
  · have hg := (hx xs List.mem_cons_self).2.1
    rcases e : xs with _ | ⟨u, t⟩
    · exact absurd e hg
    · have hu : u ∈ xs := by rw [e]; exact List.mem_cons_self
      have h := (hc u u).2 (.base List.mem_cons_self hu hu)
      rcases ns with _ | ⟨n, ns⟩
      · obtain ⟨s, hs⟩ := con_mem h
        cases hs
      · simp
end Go.Proofs.YtbhlhgfgkiclgaaDoor.Set

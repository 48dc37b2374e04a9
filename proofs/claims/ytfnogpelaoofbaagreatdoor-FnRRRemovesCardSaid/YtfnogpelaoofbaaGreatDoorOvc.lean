/- Ranges with values, made of whatever positions. Conditions: those written at each lemma. -/
import Derived.Test.YtfnogpelaoofbaaGreatDoorOvb
set_option linter.unusedVariables false
set_option linter.unusedSimpArgs false
set_option maxRecDepth 100000
set_option maxHeartbeats 4000000
namespace Go.Proofs.YtfnogpelaoofbaaGreatDoor.Rg
open Go.RowKit Go.Proofs.YtfnogpelaoofbaaGreatDoor.B Go.Proofs.YtfnogpelaoofbaaGreatDoor.Sp
/-- A position as the law makes it. -/
abbrev Pos (k x : Int) : Prop := 0 ≤ k ∧ k ≤ 4 ∧ -20 ≤ x ∧ x ≤ 20 ∧ (k = 2 ∨ k = 3 ∨ x = 0)
theorem rem_pos (k : Int) (m : Nat) (hm : 0 < m) (hm2 : m < 1000) : 0 ≤ (wrap64 (k.tmod m + m)).tmod m ∧ (wrap64 (k.tmod m + m)).tmod m < m := by
  have h1 := Int.natAbs_tmod k m
  rw [Int.natAbs_natCast] at h1
  have h2 := Nat.mod_lt k.natAbs hm
  have h3 : wrap64 (k.tmod m + m) = k.tmod m + m := by
    unfold wrap64
    omega
  rw [h3]
  have h4 : 0 ≤ k.tmod m + m := by omega
  exact ⟨Int.tmod_nonneg _ h4, Int.tmod_lt_of_pos _ (by omega)⟩
/-- What a position's kind and key become. -/
def rcK (k : Int) : Int := (wrap64 (k.tmod 5 + 5)).tmod 5
def rcX (k x : Int) : Int := if rcK k = 2 ∨ rcK k = 3 then (wrap64 (x.tmod 41 + 41)).tmod 41 - 20 else 0
theorem rc_pos (k x : Int) : Pos (rcK k) (rcX k x) := by
  have P := rem_pos k 5 (by decide) (by decide)
  have Q := rem_pos x 41 (by decide) (by decide)
  have e : rcK k = (wrap64 (k.tmod (5 : Nat) + (5 : Nat))).tmod (5 : Nat) := rfl
  have e2 : rcX k x = if rcK k = 2 ∨ rcK k = 3 then (wrap64 (x.tmod (41 : Nat) + (41 : Nat))).tmod (41 : Nat) - 20 else 0 := rfl
  rw [e2]
  rw [← e] at P
  generalize (wrap64 (x.tmod (41 : Nat) + (41 : Nat))).tmod (41 : Nat) = Y at *
  generalize rcK k = K at *
  refine ⟨by omega, by omega, ?_, ?_, ?_⟩ <;> by_cases h : K = 2 ∨ K = 3 <;> simp [h] <;> omega
theorem rgcut_any (k x : Int) (w : World) : Calls Tryz.prog 44 #[.int .i64 k, .int .i64 x] w fun e w' => e = .returned (cuV (rcK k) (rcX k x)) ∧ Below w.heap.size w w' := by
  have P := rem_pos k 5 (by decide) (by decide)
  have Q := rem_pos x 41 (by decide) (by decide)
  have R : wrap64 ((wrap64 (x.tmod 41 + 41)).tmod 41 - 20) = (wrap64 (x.tmod 41 + 41)).tmod 41 - 20 := by
    have Q2 : 0 ≤ (wrap64 (x.tmod 41 + 41)).tmod 41 ∧ (wrap64 (x.tmod 41 + 41)).tmod 41 < 41 := Q
    generalize (wrap64 (x.tmod 41 + 41)).tmod 41 = y at *
    unfold wrap64
    omega
  have PH : Hid (0 ≤ (wrap64 (k.tmod 5 + 5)).tmod 5 ∧ (wrap64 (k.tmod 5 + 5)).tmod 5 < 5) := Lib.hid P
  have QH : Hid (0 ≤ (wrap64 (x.tmod 41 + 41)).tmod 41 ∧ (wrap64 (x.tmod 41 + 41)).tmod 41 < 41) := Lib.hid Q
  have RH := Lib.hid R
  clear P Q R
  obtain ⟨Z, hZ⟩ : ∃ Z, rcX k x = Z := ⟨_, rfl⟩
  rw [hZ]
  unfold rcX rcK at hZ
  unfold rcK
  have HZ := Lib.hid hZ
  clear hZ
  go_enter Tryz.func44, Tryz.ntmps44
  go_wp2
  all_goals
    have P := PH.out
    have Q := QH.out
    have R := RH.out
    have hZ := HZ.out
    clear PH QH RH HZ
    try rw [R]
    generalize (wrap64 (k.tmod 5 + 5)).tmod 5 = K at *
    generalize (wrap64 (x.tmod 41 + 41)).tmod 41 = Y at *
  · rename_i h
    have h2 : K = 2 := by simpa using h
    subst h2
    rw [if_pos (.inl rfl)] at hZ
    subst hZ
    refine bodyPost_ret (v := cuV 2 (Y - 20)) ?_ rfl ⟨rfl, ?_⟩
    · simp only [results, show Tryz.f44.results = #[.cell 4 52] by kernel_rfl]; go_simp
    · go_grown
  · rename_i h0 h
    have h2 : K = 2 ∨ K = 3 := by simpa using h
    have h3 : K ≠ 2 := by simpa using h0
    have h4 : K = 3 := by omega
    subst h4
    rw [if_pos (.inr rfl)] at hZ
    subst hZ
    refine bodyPost_ret (v := cuV 3 (Y - 20)) ?_ rfl ⟨rfl, ?_⟩
    · simp only [results, show Tryz.f44.results = #[.cell 4 52] by kernel_rfl]; go_simp
    · go_grown
  · rename_i h0 h
    have h2 : ¬ (K = 2 ∨ K = 3) := by simpa using h
    rw [if_neg h2] at hZ
    subst hZ
    refine bodyPost_ret (v := cuV K 0) ?_ rfl ⟨rfl, ?_⟩
    · simp only [results, show Tryz.f44.results = #[.cell 4 52] by kernel_rfl]; go_simp
    · go_grown
end Go.Proofs.YtfnogpelaoofbaaGreatDoor.Rg

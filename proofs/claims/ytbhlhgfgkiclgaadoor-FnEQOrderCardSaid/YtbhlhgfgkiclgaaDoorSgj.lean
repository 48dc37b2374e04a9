/- The walks of zzFits7 and of eqSets. Conditions: those written at each lemma. -/
import Derived.Test.YtbhlhgfgkiclgaaDoorSgi
set_option linter.unusedVariables false
set_option linter.unusedSimpArgs false
set_option maxRecDepth 100000
set_option maxHeartbeats 8000000
namespace Go.Proofs.YtbhlhgfgkiclgaaDoor.Set
open Go.RowKit Go.Proofs.YtbhlhgfgkiclgaaDoor.B

/-- What zzFits7 hands back. -/
def Fits (ls : List (List Int)) (w : World) (e : Ending) (w' : World) : Prop := w = w' ∧ ∃ b : Bool, e = .returned (.bool b) ∧ (b = true → ls.length ≤ 2147483647 ∧ ∀ l ∈ ls, l.length ≤ 2147483647)
theorem fits_any (v : Value) (ls : List (List Int)) (w : World) (hr : RL w v ls) :
    Calls Tryd.prog 11 #[v] w fun e w' => Fits ls w e w' := by
  obtain ⟨vs1, A1, c1, rfl, hrd1, hall1⟩ := hr
  have hmx := hrd1.le
  have G1 := Lib.hid (fun k hk => RL.get hrd1 hall1 k hk)
  clear hrd1 hall1
  by_cases hbig : ls.length ≤ 2147483647
  · go_enter Tryd.func11, Tryd.ntmps11
    go_wp2
    go_loop [10] (fun v10 => ∃ k : Nat, v10 = .int .i64 k ∧ k ≤ ls.length ∧ Hid (∀ l ∈ ls.take k, l.length ≤ 2147483647)) (fun v10 => (ls.length - (intOf v10)).toNat)
    case atStart => exact ⟨0, rfl, Nat.zero_le _, Lib.hid (by simp)⟩
    case round =>
      obtain ⟨k, rfl, hk, HX⟩ := hrel
      by_cases hlt : k < ls.length
      · obtain ⟨b, o, A3, c3, rfl, hb, hc, hR⟩ := G1.out k hlt
        have hle := hR.le
        have HT := Lib.hid (show ls.take (k + 1) = ls.take k ++ [ls[k]] from List.take_succ_eq_append_getElem hlt)
        clear hR hb
        generalize ls[k] = s at *
        by_cases hs : s.length ≤ 2147483647
        · go_wp2
          go_round
          case rel => exact ⟨k + 1, by go_num, by omega, Lib.hid (fun l hl => by
            rw [HT.out, List.mem_append] at hl
            rcases hl with h | h
            · exact HX.out l h
            · rw [List.mem_singleton.1 h]; exact hs)⟩
          case measure => simp [intOf]; omega
        · go_wp2
          go_ret
          exact ⟨rfl, false, rfl, fun h => by cases h⟩
      · obtain rfl : k = ls.length := by omega
        go_wp2
        go_ret
        exact ⟨rfl, true, rfl, fun _ => ⟨hbig, by have h := HX.out; rwa [List.take_length] at h⟩⟩
  · go_enter Tryd.func11, Tryd.ntmps11
    go_wp2
    go_ret
    exact ⟨rfl, false, rfl, fun h => by cases h⟩
end Go.Proofs.YtbhlhgfgkiclgaaDoor.Set

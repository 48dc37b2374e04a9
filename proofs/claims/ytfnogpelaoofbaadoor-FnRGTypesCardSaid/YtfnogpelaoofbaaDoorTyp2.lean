/- The types of ranges: the walk of FnRGTypes, the other order. Conditions: those written at each lemma. -/
import Derived.Test.YtfnogpelaoofbaaDoorProg
import Derived.Test.YtfnogpelaoofbaaDoorBase
import Derived.Test.YtfnogpelaoofbaaDoorTyp
import Derived.Deep.Cut
set_option linter.unusedVariables false
set_option linter.unusedSimpArgs false
set_option maxRecDepth 100000
set_option maxHeartbeats 4000000
namespace Go.Proofs.YtfnogpelaoofbaaDoor.Rg
open Go.RowKit Go.Proofs.YtfnogpelaoofbaaDoor.B

theorem types_gt (kind one two : Int) (w : World) (hk : 0 ≤ kind) (hk2 : kind ≤ 255) (h1 : -128 ≤ one) (h2 : one ≤ 127) (h3 : -128 ≤ two) (h4 : two ≤ 127)
    (hab : two.tmod 21 < one.tmod 21) :
    Calls Tryd.prog 3 #[.int .u8 kind, .int .i8 one, .int .i8 two] w fun e w' => e = .returned (.bool true) ∧ Below w.heap.size w w' := by
  have B1 : ∀ x W, _ := below_cl
  have B2 : ∀ x W, _ := above_cl
  have q1 : -20 ≤ one.tmod 21 ∧ one.tmod 21 ≤ 20 := by have := Int.natAbs_tmod one 21; rw [show Int.natAbs 21 = 21 from rfl] at this; omega
  have q2 : -20 ≤ two.tmod 21 ∧ two.tmod 21 ≤ 20 := by have := Int.natAbs_tmod two 21; rw [show Int.natAbs 21 = 21 from rfl] at this; omega
  have hS : SL w.heap.size (w.alloc (.cells #[.int .i64 4, .int .i64 0] 24)).drew := by
    refine ⟨?_, ?_, ?_⟩ <;> first | (go_simp; done) | (go_simp; omega)
  have hb0 : Below w.heap.size w (w.alloc (.cells #[.int .i64 4, .int .i64 0] 24)).drew := ((Below.refl w.heap.size w).alloc (Nat.le_refl _) _).drew
  have hbl := Lib.hid hb0
  clear hb0
  have hkk : kind % 11 = 0 ∨ kind % 11 = 1 ∨ kind % 11 = 2 ∨ kind % 11 = 3 ∨ kind % 11 = 4 ∨ kind % 11 = 5 ∨ kind % 11 = 6 ∨ kind % 11 = 7 ∨ kind % 11 = 8 ∨ kind % 11 = 9 ∨ kind % 11 = 10 := by omega
  have hkd := Lib.hid hkk
  clear hkk
  go_enter Tryd.func3, Tryd.ntmps3
  go_upto_region 7 with fail
  generalize two.tmod 21 = a at *
  generalize one.tmod 21 = b at *
  go_region_held3 (fun W => SL w.heap.size W ∧ Below w.heap.size w W) (first | (refine ⟨?_, ?_⟩ <;> assumption) | exact ⟨hS, hbl.out⟩ | (refine keepB hb1 ?_; assumption) | (refine allocB _ ?_; assumption)) (first
      | (go_at_call 8; (with_reducible refine (B1 _ _).mono ?_); rintro e w1 ⟨rfl, hb1⟩)
      | (go_at_call 9; (with_reducible refine (B2 _ _).mono ?_); rintro e w1 ⟨rfl, hb1⟩))
  rename_i hHd
  have hX := Lib.hid hHd.2
  clear hHd hb1
  rcases hkd.out with hk1 | hk1 | hk1 | hk1 | hk1 | hk1 | hk1 | hk1 | hk1 | hk1 | hk1
  all_goals
    go_wp2_with (go_at_call 10; refine (rgtype_any _ _ _ _ _ (by decide) (by decide) (by decide) (by decide) (by simp [ctOf, ty])).mono ?_; rintro e w5 ⟨rfl, hb5⟩; simp only [ctOf, ty])
    go_ret
    exact ⟨rfl, hX.out.trans (hb5.mono hX.out.size)⟩

end Go.Proofs.YtfnogpelaoofbaaDoor.Rg

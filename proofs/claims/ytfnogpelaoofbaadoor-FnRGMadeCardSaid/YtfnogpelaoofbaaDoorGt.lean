/- FnRGMade: the walk where the first key is the greater one. Conditions: those written at each lemma. -/
import Derived.Test.YtfnogpelaoofbaaDoorLaw
import Derived.Deep.Cut
set_option linter.unusedVariables false
set_option linter.unusedSimpArgs false
set_option maxRecDepth 100000
set_option maxHeartbeats 8000000
namespace Go.Proofs.YtfnogpelaoofbaaDoor.Rg
open Go.RowKit Go.Proofs.YtfnogpelaoofbaaDoor.B Go.Proofs.YtfnogpelaoofbaaDoor.Sp

theorem made_gt (kind one two : Int) (w : World) (hk : 0 ≤ kind) (hk2 : kind ≤ 255) (h1 : -128 ≤ one) (h2 : one ≤ 127) (h3 : -128 ≤ two) (h4 : two ≤ 127)
    (hab : two.tmod 21 < one.tmod 21) :
    Calls Tryd.prog 4 #[.int .u8 kind, .int .i8 one, .int .i8 two] w fun e w' => e = .returned (.bool true) ∧ Below w.heap.size w w' := by
  have q1 : -20 ≤ one.tmod 21 ∧ one.tmod 21 ≤ 20 := by have := Int.natAbs_tmod one 21; rw [show Int.natAbs 21 = 21 from rfl] at this; omega
  have q2 : -20 ≤ two.tmod 21 ∧ two.tmod 21 ≤ 20 := by have := Int.natAbs_tmod two 21; rw [show Int.natAbs 21 = 21 from rfl] at this; omega
  have hkk : 0 ≤ kind % 12 ∧ kind % 12 ≤ 11 := by omega
  have hm := Lib.hid hkk
  clear hkk
  have N0 := Lib.hid (startN w)
  go_enter Tryd.func4, Tryd.ntmps4
  go_upto_region 6 with fail
  generalize two.tmod 21 = a at *
  generalize one.tmod 21 = b at *
  go_region_held3 (fun W => SN w.heap.size w W) (first | exact N0.out | assumption | (refine keepN hb1 ?_; assumption) | (refine allocN _ ?_; assumption)) (first
      | (go_at_call 11; (with_reducible refine (below_m _ _).mono ?_); rintro e w1 ⟨rfl, hb1⟩)
      | (go_at_call 12; (with_reducible refine (above_m _ _).mono ?_); rintro e w1 ⟨rfl, hb1⟩))
  rename_i hHd
  have F0 := Lib.hid (start12 a b (kind % 12) hm.out.1 hm.out.2 w1)
  have bW := Lib.hid hHd.2.2.2.2.2
  clear hHd
  have M := fun W => made_any (kind % 12) a b W hm.out.1 hm.out.2
  have okm := Lib.hid (md_ok (kind % 12) a b hm.out.1 hm.out.2 q2 q1)
  have E := fun W => rgempty_plc _ _ _ _ W okm.out
  have N := fun W => none_any _ _ _ _ W okm.out
  have Sm := fun W => same_any _ _ _ _ _ _ _ _ W okm.out okm.out
  have Sm2 := fun W => same_any 2 3 3 5 2 3 3 5 W (by decide) (by decide)
  have M4 := fun W => made4 3 5 W
  simp only [Ct.kind, Ct.key] at M4
  simp only [same_self] at Sm Sm2
  have ix := idx12 w1.heap.size (kind % 12) hm.out.1 hm.out.2
  generalize mdK1 (kind % 12) = K1 at *
  generalize mdX1 a (kind % 12) = X1 at *
  generalize mdK2 (kind % 12) = K2 at *
  generalize mdX2 a b (kind % 12) = X2 at *
  generalize decide (plc K2 X2 ≤ plc K1 X1) = nb at *
  have hbb := eq_bool nb
  generalize 4 * (kind % 12).toNat = o at *
  go_wp2_with (first
    | (go_at_call 13; (with_reducible refine (M _).mono ?_); rintro e w2 ⟨rfl, hb2⟩
       have F1 := Lib.hid (keep4 hb2 F0.out)
       have bW2 := Lib.hid (bW.out.trans (hb2.mono bW.out.size))
       have st := Lib.hid (startO K1 X1 K2 X2 w2)
       have F2 := Lib.hid (keep4 st.out.2 F1.out)
       clear hb2)
    | (go_at_call 14; (with_reducible refine (E _).mono ?_); rintro e w3 ⟨rfl, hb3⟩
       have F3 := Lib.hid (keep4 hb3 F2.out)
       have O3 := Lib.hid (keepO hb3 st.out.1)
       have bW3 := Lib.hid ((bW2.out.trans (st.out.2.mono bW2.out.size)).trans (hb3.mono (Nat.le_trans bW2.out.size st.out.2.size)))
       clear hb3))
  have G10 := Lib.hid (show S10 w1.heap.size w2.heap.size o K1 X1 K2 X2 w w3.drew from ⟨O3.out, F3.out, bW3.out.size, bW3.out.drew⟩)
  go_region_held3 (fun W => S10 w1.heap.size w2.heap.size o K1 X1 K2 X2 w W) (first | exact G10.out | assumption | (refine keep10 hb ?_; assumption)) (first
    | (go_at_call 15; (with_reducible refine (Sm _).mono ?_); rintro e w4 ⟨rfl, hb⟩)
    | (go_at_call 15; (with_reducible refine (Sm2 _).mono ?_); rintro e w4 ⟨rfl, hb⟩)
    | (go_at_call 16; (with_reducible refine (N _).mono ?_); rintro e w4 ⟨rfl, hb⟩)
    | (go_at_call 13; (with_reducible refine (M4 _).mono ?_); rintro e w4 ⟨rfl, hb⟩)
    | (go_at_call 11; (with_reducible refine (below_m _ _).mono ?_); rintro e w4 ⟨rfl, hb⟩)
    | (go_at_call 12; (with_reducible refine (above_m _ _).mono ?_); rintro e w4 ⟨rfl, hb⟩))
  rename_i hE
  go_wp2
  go_ret
  exact ⟨rfl, hE.2.2.2⟩
end Go.Proofs.YtfnogpelaoofbaaDoor.Rg

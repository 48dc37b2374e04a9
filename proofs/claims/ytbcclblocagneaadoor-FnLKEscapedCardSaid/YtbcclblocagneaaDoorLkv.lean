/- The parts of a pattern and what they answer; a text's characters are read. Conditions: the listed tables of unicode/utf8 read as listed; those written at each lemma. -/
import Derived.Test.YtbcclblocagneaaDoorUtf
import Derived.Test.YtbcclblocagneaaDoorLku
import Derived.Test.YtbcclblocagneaaDoorLkp
import Derived.Test.YtbcclblocagneaaDoorBase
import Derived.Handy
set_option linter.unusedVariables false
set_option linter.unusedSimpArgs false
set_option maxRecDepth 100000
set_option maxHeartbeats 4000000
namespace Go.Proofs.YtbcclblocagneaaDoor.Lk
open Go.RowKit Go.Proofs.YtbcclblocagneaaDoor.B

abbrev Tab (w : World) : Prop := Lib.Utf8Tabs 4 5 w
theorem tab_below {w w1 : World} (h : Tab w) (hb : Below w.heap.size w w1) : Tab w1 := ⟨fun c hc => cell_below hb (h.1 c hc), fun i hi => ⟨cell_below hb (h.2 i hi).1, cell_below hb (h.2 i hi).2⟩⟩
theorem tab_from {w W w1 : World} (h : Tab w) (hb : Below w.heap.size w W) (hb1 : Below W.heap.size W w1) : Tab w1 := tab_below h (hb.trans (hb1.mono hb.size))
abbrev wf : Value := .func (.func 53) #[] #[]
def Nd.v : Nd → Value
  | .one r => .iface 104 (.agg #[.int .i32 r, .int .i32 r])
  | .any => .iface 105 (.agg #[])
theorem weight_any (r : Int) (w : World) : Calls Tryd.prog 53 #[.int .i32 r] w fun e w' => e = .returned (.int .i32 r) ∧ w = w' := by
  go_enter Tryd.func53, Tryd.ntmps53
  go_wp2
  go_ret
  exact ⟨rfl, rfl⟩
theorem anyMatch (r : Int) (w : World) : Calls Tryd.prog 107 #[.agg #[], wf, .int .i32 r] w fun e w' => e = .returned (.tuple #[.bool true, .bool false]) ∧ Below w.heap.size w w' := by
  go_enter Tryd.func107, Tryd.ntmps107
  go_wp2
  go_ret2
  exact ⟨rfl, by go_grown⟩
theorem anyNext (r : Int) (w : World) : Calls Tryd.prog 108 #[.agg #[], wf, .int .i32 r] w fun e w' => e = .returned (.bool true) ∧ Below w.heap.size w w' := by
  go_enter Tryd.func108, Tryd.ntmps108
  go_wp2
  go_ret
  exact ⟨rfl, by go_grown⟩
theorem oneNext (r0 r : Int) (w : World) : Calls Tryd.prog 106 #[.agg #[.int .i32 r0, .int .i32 r0], wf, .int .i32 r] w fun e w' => e = .returned (.bool false) ∧ Below w.heap.size w w' := by
  go_enter Tryd.func106, Tryd.ntmps106
  go_wp2
  go_ret
  exact ⟨rfl, by go_grown⟩
theorem oneMatch (r0 r : Int) (w : World) (h0 : 0 < r0) : Calls Tryd.prog 105 #[.agg #[.int .i32 r0, .int .i32 r0], wf, .int .i32 r] w fun e w' => e = .returned (.tuple #[.bool (decide (r = r0)), .bool (decide (r = r0))]) ∧ Below w.heap.size w w' := by
  have hd : decide (r0 < 0) = false := by simp; omega
  rcases bq r r0 with ⟨h1, h2, h3⟩ | ⟨h1, h2, h3⟩
  all_goals
    first | rw [decide_eq_true h3] | rw [decide_eq_false h3]
    clear h3
    have HX : Hid (Below w.heap.size w (w.alloc (.cells #[.int .i32 r0, .int .i32 r0] 104))) := Lib.hid (by go_grown)
    go_enter Tryd.func105, Tryd.ntmps105
    go_wp2
    go_quiet ((go_at_call 53; exact Calls.quiet_of_same ((weight_any _ _).mono fun _ _ h => ⟨h.1, h.2.symm⟩)))
    go_wp2
    go_ret2
    exact ⟨rfl, below_drewN HX.out _⟩
/-- The character number i of a text is read. -/
theorem dec_at (T : List Int) (i : Nat) (w : World) (hT : Tab w) (hab : ∀ r ∈ T, r ∈ AB) (hi : i < T.length) :
    Calls Tryd.prog 65 #[.string (str (T.drop i))] w fun e w' => e = .returned (.tuple #[.int .i32 T[i], .int .i64 (enc T[i]).length]) ∧ Below w.heap.size w w' := by
  have h := Tryd.utf8_DecodeRuneInString (str (T.drop i)) w hT
  have hr := hab _ (List.getElem_mem hi)
  have e : T.drop i = T[i] :: T.drop (i + 1) := List.drop_eq_getElem_cons hi
  have hd : Lib.decodeGo (str (T.drop i)) = (T[i].toNat, (enc T[i]).length) := by
    unfold Lib.decodeGo
    rw [e, if_neg (str_pos _ _)]
    exact decode_str _ _ hr
  rw [hd] at h
  have h2 := (ab_pos hr).1
  have h3 : ((T[i].toNat : Nat) : Int) = T[i] := by omega
  simp only [h3] at h
  exact h
end Go.Proofs.YtbcclblocagneaaDoor.Lk

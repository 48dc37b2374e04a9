/- The row of the law FnRRMeets: for every input the call returns true, and the arguments read as they did. Conditions: those of the given statement alone. -/
import Derived.Test.YtfnogpelaoofbaaDoorRows
import Derived.Test.YtfnogpelaoofbaaDoorRrg
import Derived.WalkKit
import Derived.ProofKit
import Derived.OpenShut
import Derived.ShutString
import Derived.ChangeOld
import Derived.Below
import Derived.Carry
import Derived.LaidMore
import Derived.MakeChecks
import Derived.Stop.Joined
import Derived.OpenVars
import Derived.ChangeVars
import Derived.SevenTiedAt
import Derived.Test.YtfnogpelaoofbaaDoorCards
import Derived.Test.YtfnogpelaoofbaaDoorTie
namespace Go.Proofs.YtfnogpelaoofbaaDoor.fnRRMeets
open Go.ChangeShapes Go.WideShapes Go.ChangeAt Go.RowKit B
open Go.ChangeMaps (open_string shut_string)
set_option linter.unusedVariables false
theorem own : ownKnob Tryd.prog.godebug = none := by kernel_rfl
theorem laidOut : laidOutB Tryd.prog = true := by kernel_rfl
set_option maxRecDepth 100000 in
theorem door_met (os : Os) (args : Array Value) : laidMetH Tryd.prog Rows.fnRRMeetsRow.laid ((World.doorLaid Tryd.prog 400 os).forCall (fun _ _ => 0) ⟨#[], args, []⟩).memory :=
  laidMetH_of_parts3 (fuel := 8) (laidMet_of_run' 8 (by kernel_rfl) (by kernel_rfl)) (by kernel_rfl) (by kernel_rfl)
set_option maxRecDepth 100000 in
theorem lifted (os : Os) (started : os.Started) (H : Type) (enc : TypeId × Value → H) :
    ReturnsInHanded {} Tryd.checked os 7 .any (fun w args => (Rows.fnRRMeetsSpec.pre enc Tryd.prog Tryd.f7 Rows.fnRRMeetsRow.domain false w args ∧ laidMetH Tryd.prog Rows.fnRRMeetsRow.laid w) ∧ sizedMet enc Tryd.prog Tryd.f7 (OpenSpec.ofChange Rows.fnRRMeetsSpec) false w args) (Rows.fnRRMeetsSpec.post enc Tryd.prog Tryd.f7 false true false false) := by
  refine returnsInHanded_of_change_and (C := Tryd.checked) (X := fun w _ => laidMetH Tryd.prog Rows.fnRRMeetsRow.laid w) (fun _ _ _ hh h => h.of_heap hh) own started (by kernel_rfl) Tryd.func7
    (ChangeSpec.witness_shaped (enc := enc) (C := Tryd.checked) (os := os) (X := fun w _ => laidMetH Tryd.prog Rows.fnRRMeetsRow.laid w) false (World.doorLaid Tryd.prog 400 os) #[.slice none 0 0, .int .u8 0] 8 rfl (World.shaped_of_RefB (by kernel_rfl) (by kernel_rfl)) (by kernel_rfl) (by kernel_rfl) (by kernel_rfl) (door_met os _)) ?_
  intro W base args ds gs before hval0 hW hcnd _ hL _
  have hval : ∀ (j : Nat) t v, Tryd.f7.params[j]? = some t → args[j]? = some v → Value.okWide Tryd.prog W .any base t v := hval0
  have hW' := hW
  obtain ⟨p, q, hA0, hV, rfl, hfz, hnd⟩ := hW
  have hA : DataW.TrodAll enc Tryd.prog W 0 (fun _ => true) true Tryd.f7.params.toList args.toList ds p := hA0
  rw [Tryd.params7] at hA hval
  obtain ⟨v0, vs0, d0, ds0, p0, q0, hargs, rfl, rfl, h0, r0⟩ := trodAll_cons hA
  obtain ⟨v1, vs1, d1, ds1, p1, q1, rfl, rfl, rfl, h1, r1⟩ := trodAll_cons r0
  obtain ⟨rfl, rfl, rfl⟩ := trodAll_nil r1
  obtain rfl : args = #[v0, v1] := by cases args; simp_all
  have hV2 := hV
  obtain ⟨gg, gt, gcs, gfuel, gd, gp, rfl, _, _, _, _, rfl⟩ := trodVars_one hV
  have lt0 : ∀ x ∈ p0, x.block < W.heap.size := by obtain ⟨m, hm⟩ := h0; exact DataW.trod_lt m _ _ _ hm
  have w0 := hval 0 46 v0 rfl rfl
  obtain ⟨a1, rfl, rfl, rfl, w1⟩ := open_int Tryd.underlying5 (hval 1 5 v1 rfl rfl) h1
  clear hA0 hval0
  refine (Rg.law7_raw v0 a1 W w0 h0 w1 ((fun _ => trivial) hL)).mono fun e W' ⟨he, bel⟩ => ?_
  subst he
  exact ⟨_, rfl, _, _, _, [], _, _, hW', trodAll_mk1 (shut_bool Tryd.underlying4 _), (trodAll_cons_mk (Below.trod laidOut (by kernel_rfl) (of_decide_eq_true (by kernel_rfl)) h0 bel lt0) (trodAll_cons_mk (shut_int Tryd.underlying5 w1) trodAll_mk0)), (Below.trodVars laidOut bel (by kernel_rfl) hV2), bel.frame _, fun h => by cases h⟩
theorem over : Rows.fnRRMeetsRow.holds Tryd.pinned (OpenSpec.ofChange Rows.fnRRMeetsSpec) :=
  OpenClaim.holds_of_wide 7 Tryd.f7 rfl rfl rfl rfl rfl rfl rfl ⟨rfl, rfl, rfl, rfl, rfl⟩ rfl rfl rfl rfl rfl (by kernel_rfl) Tryd.func7 (by kernel_rfl)
    (of_decide_eq_true (by kernel_rfl)) (by unfold Func.isWrapper; first | (rw [if_pos (by decide +kernel)]; kernel_rfl) | (rw [if_neg (by decide +kernel)]; exact ⟨rfl, rfl⟩))
    (fun os started H enc _ => lifted os started H enc)
theorem proved : Rows.FnRRMeetsSaid := over
end Go.Proofs.YtfnogpelaoofbaaDoor.fnRRMeets
namespace Go.Proofs.YtfnogpelaoofbaaDoor
/-- The tied card. -/
theorem fnRRMeets_holds : Rows.FnRRMeetsCardSaid :=
  Claim7.holds_tied_plain_at .later [] [.data] true (true, "e1729c75eb2e9304c05f7c19781cb411427190bfa939e8a912180365570aaef8") true
    fnRRMeets.proved (fun _ h => by cases h) (by kernel_rfl) (fun _ h => by cases h) fnRRMeets_row_tie rfl ⟨rfl, rfl⟩ (by kernel_rfl) rfl
    (fun f fn hf hfn => by
      obtain rfl : f = 7 := Option.some.inj ((show Tryd.prog.funcNamed "given.example/pub-abaculus/laws.FnRRMeets" = some 7 by kernel_rfl).symm.trans hf) |>.symm
      obtain rfl : fn = Tryd.f7 := (Option.some.inj (Tryd.func7.symm.trans hfn)).symm
      exact ⟨by kernel_rfl, fun j t ht => by
        rw [Tryd.params7] at ht
        have hm : t ∈ [46, 5] := by simpa using Array.mem_of_getElem? ht
        have hall : ([46, 5].all fun u => !Tryd.prog.wantsStandIn u) = true := by kernel_rfl
        exact (show Tryd.prog.wantsStandIn t = false by simpa using List.all_eq_true.1 hall t hm)⟩)
    (by kernel_rfl)
end Go.Proofs.YtfnogpelaoofbaaDoor

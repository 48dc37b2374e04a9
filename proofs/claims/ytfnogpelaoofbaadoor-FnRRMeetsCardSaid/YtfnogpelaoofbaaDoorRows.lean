/-
  NARROWER THAN 'FOR EVERY INPUT', by the rows' own cells (each row's printed sentence says how): FnRGTypes: laid · FnRGMade: laid · FnRGMeets: laid · FnRGSubtract: laid · FnRRMeets: laid.
  DERIVED. THE GIVEN ROWS OF THIS SEAT. 5 by the template 'for every input the law returns true; each argument reads behind the call as it read before'; 0 by the template 'total and deterministic' (their statements: YtfnogpelaoofbaaDoorTotals.lean).
  GIVEN WITH THE SEED: the statements are not yours to turn. If you find one false, say at which input.
  Laid BY PROGRAM, IN A SANDBOX (cutbox-rows.mjs): the forced cells as the released guide's own fill.sh prints them over the translation 441397d70c0b499f… (all of the seat's roots in one cut). By AI agents, Wed Nov 11 2026. No macro, syntax, notation, axiom, sorry.
-/
import Derived.Test.YtfnogpelaoofbaaDoorChecked
import GoSem.Claim
import GoSem.ClaimJoined
import GoSem.ClaimMapViews
import Derived.JoinedTies
import Derived.KernelRfl
namespace Go.Proofs.YtfnogpelaoofbaaDoor
/- THE CELL 'sum', in the pinned program and in every row, IS THE sha256 OF THE DUMP (.gsa) THAT YtfnogpelaoofbaaDoorProg.lean LOADS. Nothing in Lean hashes anything: it is a label: what it is worth is what the hold of that sum in a sandbox is worth. -/
noncomputable def Tryd.pinned : Pinned := { name := "ytfnogpelaoofbaadoor", sum := "441397d70c0b499f03755863629e7e2e127a7bea0a728a6114ff85556d260e1e", checked := Tryd.checked }
namespace Rows
def none {H : Type} : Left H := { results := [], args := [] }

/- WHAT THE LISTED PACKAGE-LEVEL VARIABLES READ AS WHEN THE CALL BEGINS. Each datum BY PROGRAM (the guide's laid-datum.mjs) off the statement by which the dump's own 'gosem.cut.vars' lays the variable. In a bare row this is a premise. The card (YtfnogpelaoofbaaDoorCards.lean) ties it to the program's text. -/
def laid_given_example_pub_abaculus_impl_whole {H : Type} : DataW H := .agg []

/-- 'laws.FnRGTypes': WHATEVER THE INPUT: true; the input reads as it did. -/
def fnRGTypesSpec : ChangeSpec := { name := "fnRGTypes", vars := ["given.example/pub-abaculus/impl.whole"], fn := fun _ => fun
  | [d1, d2, d3, g1] => { results := [.lit (.bool true)], args := [d1, d2, d3], vars := [g1] }
  | _ => none }
def fnRGTypesRow : OpenClaim := { program := "ytfnogpelaoofbaadoor", sum := "441397d70c0b499f03755863629e7e2e127a7bea0a728a6114ff85556d260e1e", func := "given.example/pub-abaculus/laws.FnRGTypes", spec := "fnRGTypes", unfollowed := true, recurses := true, named := ["given.example/pub-abaculus/impl.whole"], apart := false, laid := [("given.example/pub-abaculus/impl.whole", laid_given_example_pub_abaculus_impl_whole)] }
def FnRGTypesSaid : Prop := fnRGTypesRow.holds Tryd.pinned (OpenSpec.ofChange fnRGTypesSpec)

/-- ITS FALSE NEIGHBOUR: 'it returns false'. Refute it at one input. -/
def fnRGTypesWrong : ChangeSpec := { name := "fnRGTypes", vars := ["given.example/pub-abaculus/impl.whole"], fn := fun _ => fun
  | [d1, d2, d3, g1] => { results := [.lit (.bool false)], args := [d1, d2, d3], vars := [g1] }
  | _ => none }
def FnRGTypesWrongFalsely : Prop := fnRGTypesRow.holds Tryd.pinned (OpenSpec.ofChange fnRGTypesWrong)

/-- 'laws.FnRGMade': WHATEVER THE INPUT: true; the input reads as it did. -/
def fnRGMadeSpec : ChangeSpec := { name := "fnRGMade", vars := ["given.example/pub-abaculus/impl.whole"], fn := fun _ => fun
  | [d1, d2, d3, g1] => { results := [.lit (.bool true)], args := [d1, d2, d3], vars := [g1] }
  | _ => none }
def fnRGMadeRow : OpenClaim := { program := "ytfnogpelaoofbaadoor", sum := "441397d70c0b499f03755863629e7e2e127a7bea0a728a6114ff85556d260e1e", func := "given.example/pub-abaculus/laws.FnRGMade", spec := "fnRGMade", unfollowed := true, recurses := true, named := ["given.example/pub-abaculus/impl.whole"], apart := false, laid := [("given.example/pub-abaculus/impl.whole", laid_given_example_pub_abaculus_impl_whole)] }
def FnRGMadeSaid : Prop := fnRGMadeRow.holds Tryd.pinned (OpenSpec.ofChange fnRGMadeSpec)

/-- ITS FALSE NEIGHBOUR: 'it returns false'. Refute it at one input. -/
def fnRGMadeWrong : ChangeSpec := { name := "fnRGMade", vars := ["given.example/pub-abaculus/impl.whole"], fn := fun _ => fun
  | [d1, d2, d3, g1] => { results := [.lit (.bool false)], args := [d1, d2, d3], vars := [g1] }
  | _ => none }
def FnRGMadeWrongFalsely : Prop := fnRGMadeRow.holds Tryd.pinned (OpenSpec.ofChange fnRGMadeWrong)

/-- 'laws.FnRGMeets': WHATEVER THE INPUT: true; the input reads as it did. -/
def fnRGMeetsSpec : ChangeSpec := { name := "fnRGMeets", vars := ["given.example/pub-abaculus/impl.whole"], fn := fun _ => fun
  | [d1, d2, g1] => { results := [.lit (.bool true)], args := [d1, d2], vars := [g1] }
  | _ => none }
def fnRGMeetsRow : OpenClaim := { program := "ytfnogpelaoofbaadoor", sum := "441397d70c0b499f03755863629e7e2e127a7bea0a728a6114ff85556d260e1e", func := "given.example/pub-abaculus/laws.FnRGMeets", spec := "fnRGMeets", unfollowed := true, recurses := true, named := ["given.example/pub-abaculus/impl.whole"], apart := false, laid := [("given.example/pub-abaculus/impl.whole", laid_given_example_pub_abaculus_impl_whole)] }
def FnRGMeetsSaid : Prop := fnRGMeetsRow.holds Tryd.pinned (OpenSpec.ofChange fnRGMeetsSpec)

/-- ITS FALSE NEIGHBOUR: 'it returns false'. Refute it at one input. -/
def fnRGMeetsWrong : ChangeSpec := { name := "fnRGMeets", vars := ["given.example/pub-abaculus/impl.whole"], fn := fun _ => fun
  | [d1, d2, g1] => { results := [.lit (.bool false)], args := [d1, d2], vars := [g1] }
  | _ => none }
def FnRGMeetsWrongFalsely : Prop := fnRGMeetsRow.holds Tryd.pinned (OpenSpec.ofChange fnRGMeetsWrong)

/-- 'laws.FnRGSubtract': WHATEVER THE INPUT: true; the input reads as it did. -/
def fnRGSubtractSpec : ChangeSpec := { name := "fnRGSubtract", vars := ["given.example/pub-abaculus/impl.whole"], fn := fun _ => fun
  | [d1, d2, g1] => { results := [.lit (.bool true)], args := [d1, d2], vars := [g1] }
  | _ => none }
def fnRGSubtractRow : OpenClaim := { program := "ytfnogpelaoofbaadoor", sum := "441397d70c0b499f03755863629e7e2e127a7bea0a728a6114ff85556d260e1e", func := "given.example/pub-abaculus/laws.FnRGSubtract", spec := "fnRGSubtract", unfollowed := true, recurses := true, named := ["given.example/pub-abaculus/impl.whole"], apart := false, laid := [("given.example/pub-abaculus/impl.whole", laid_given_example_pub_abaculus_impl_whole)] }
def FnRGSubtractSaid : Prop := fnRGSubtractRow.holds Tryd.pinned (OpenSpec.ofChange fnRGSubtractSpec)

/-- ITS FALSE NEIGHBOUR: 'it returns false'. Refute it at one input. -/
def fnRGSubtractWrong : ChangeSpec := { name := "fnRGSubtract", vars := ["given.example/pub-abaculus/impl.whole"], fn := fun _ => fun
  | [d1, d2, g1] => { results := [.lit (.bool false)], args := [d1, d2], vars := [g1] }
  | _ => none }
def FnRGSubtractWrongFalsely : Prop := fnRGSubtractRow.holds Tryd.pinned (OpenSpec.ofChange fnRGSubtractWrong)

/-- 'laws.FnRRMeets': WHATEVER THE INPUT: true; the input reads as it did. -/
def fnRRMeetsSpec : ChangeSpec := { name := "fnRRMeets", vars := ["given.example/pub-abaculus/impl.whole"], fn := fun _ => fun
  | [d1, d2, g1] => { results := [.lit (.bool true)], args := [d1, d2], vars := [g1] }
  | _ => none }
def fnRRMeetsRow : OpenClaim := { program := "ytfnogpelaoofbaadoor", sum := "441397d70c0b499f03755863629e7e2e127a7bea0a728a6114ff85556d260e1e", func := "given.example/pub-abaculus/laws.FnRRMeets", spec := "fnRRMeets", unfollowed := true, recurses := true, named := ["given.example/pub-abaculus/impl.whole"], apart := false, laid := [("given.example/pub-abaculus/impl.whole", laid_given_example_pub_abaculus_impl_whole)] }
def FnRRMeetsSaid : Prop := fnRRMeetsRow.holds Tryd.pinned (OpenSpec.ofChange fnRRMeetsSpec)

/-- ITS FALSE NEIGHBOUR: 'it returns false'. Refute it at one input. -/
def fnRRMeetsWrong : ChangeSpec := { name := "fnRRMeets", vars := ["given.example/pub-abaculus/impl.whole"], fn := fun _ => fun
  | [d1, d2, g1] => { results := [.lit (.bool false)], args := [d1, d2], vars := [g1] }
  | _ => none }
def FnRRMeetsWrongFalsely : Prop := fnRRMeetsRow.holds Tryd.pinned (OpenSpec.ofChange fnRRMeetsWrong)

/- THE SECOND FORM. 'bulk': how many values and letters a reading holds, each counted each time it is reached (what is shared counts as often as it is met; a slice's spare places count too). A statement '..UptoSaid' is the law's where the arguments, and the package variables that the reading takes, are together of bulk at most 1048576: NARROWER than '..Said'. Prove '..Said' where nothing that the law and all that it calls make is longer than what came in: it says more and counts as full. Else prove '..UptoSaid'. A law counts once. -/
mutual
def uptoBulk {H : Type} : DataW H → Nat
  | .lit (.string bytes) => bytes.length + 1
  | .lit _ => 1
  | .nil => 1
  | .ptr d => uptoBulk d + 1
  | .slice elems spare => uptoBulkAll elems + uptoBulkAll spare + 1
  | .agg parts => uptoBulkAll parts + 1
  | .iface _ d => uptoBulk d + 1
  | .map entries => uptoBulkEntries entries + 1
  | .held _ => 1
def uptoBulkAll {H : Type} : List (DataW H) → Nat
  | [] => 0
  | d :: r => uptoBulk d + uptoBulkAll r
def uptoBulkEntries {H : Type} : List (Lit × DataW H) → Nat
  | [] => 0
  | x :: r => uptoBulkEntry x + uptoBulkEntries r
def uptoBulkEntry {H : Type} : Lit × DataW H → Nat
  | (.string bytes, d) => bytes.length + uptoBulk d + 1
  | (_, d) => uptoBulk d + 1
 end
def uptoSmall : (H : Type) → List (DataW H) → Bool := fun _ ds => decide (uptoBulkAll ds ≤ 1048576)
def OpenSpec.upto (s : _root_.Go.ChangeSpec) : _root_.Go.OpenSpec := { _root_.Go.OpenSpec.ofChange s with cond := some uptoSmall }

/-- 'laws.FnRGTypes', WHERE WHAT IT READS IS OF BULK AT MOST 1048576: true; the input reads as it did. -/
def fnRGTypesUptoRow : OpenClaim := { program := "ytfnogpelaoofbaadoor", sum := "441397d70c0b499f03755863629e7e2e127a7bea0a728a6114ff85556d260e1e", func := "given.example/pub-abaculus/laws.FnRGTypes", spec := "fnRGTypes", unfollowed := true, recurses := true, named := ["given.example/pub-abaculus/impl.whole"], apart := false, laid := [("given.example/pub-abaculus/impl.whole", laid_given_example_pub_abaculus_impl_whole)], narrowed := true }
def FnRGTypesUptoSaid : Prop := fnRGTypesUptoRow.holds Tryd.pinned (OpenSpec.upto fnRGTypesSpec)

/-- 'laws.FnRGMade', WHERE WHAT IT READS IS OF BULK AT MOST 1048576: true; the input reads as it did. -/
def fnRGMadeUptoRow : OpenClaim := { program := "ytfnogpelaoofbaadoor", sum := "441397d70c0b499f03755863629e7e2e127a7bea0a728a6114ff85556d260e1e", func := "given.example/pub-abaculus/laws.FnRGMade", spec := "fnRGMade", unfollowed := true, recurses := true, named := ["given.example/pub-abaculus/impl.whole"], apart := false, laid := [("given.example/pub-abaculus/impl.whole", laid_given_example_pub_abaculus_impl_whole)], narrowed := true }
def FnRGMadeUptoSaid : Prop := fnRGMadeUptoRow.holds Tryd.pinned (OpenSpec.upto fnRGMadeSpec)

/-- 'laws.FnRGMeets', WHERE WHAT IT READS IS OF BULK AT MOST 1048576: true; the input reads as it did. -/
def fnRGMeetsUptoRow : OpenClaim := { program := "ytfnogpelaoofbaadoor", sum := "441397d70c0b499f03755863629e7e2e127a7bea0a728a6114ff85556d260e1e", func := "given.example/pub-abaculus/laws.FnRGMeets", spec := "fnRGMeets", unfollowed := true, recurses := true, named := ["given.example/pub-abaculus/impl.whole"], apart := false, laid := [("given.example/pub-abaculus/impl.whole", laid_given_example_pub_abaculus_impl_whole)], narrowed := true }
def FnRGMeetsUptoSaid : Prop := fnRGMeetsUptoRow.holds Tryd.pinned (OpenSpec.upto fnRGMeetsSpec)

/-- 'laws.FnRGSubtract', WHERE WHAT IT READS IS OF BULK AT MOST 1048576: true; the input reads as it did. -/
def fnRGSubtractUptoRow : OpenClaim := { program := "ytfnogpelaoofbaadoor", sum := "441397d70c0b499f03755863629e7e2e127a7bea0a728a6114ff85556d260e1e", func := "given.example/pub-abaculus/laws.FnRGSubtract", spec := "fnRGSubtract", unfollowed := true, recurses := true, named := ["given.example/pub-abaculus/impl.whole"], apart := false, laid := [("given.example/pub-abaculus/impl.whole", laid_given_example_pub_abaculus_impl_whole)], narrowed := true }
def FnRGSubtractUptoSaid : Prop := fnRGSubtractUptoRow.holds Tryd.pinned (OpenSpec.upto fnRGSubtractSpec)

/-- 'laws.FnRRMeets', WHERE WHAT IT READS IS OF BULK AT MOST 1048576: true; the input reads as it did. -/
def fnRRMeetsUptoRow : OpenClaim := { program := "ytfnogpelaoofbaadoor", sum := "441397d70c0b499f03755863629e7e2e127a7bea0a728a6114ff85556d260e1e", func := "given.example/pub-abaculus/laws.FnRRMeets", spec := "fnRRMeets", unfollowed := true, recurses := true, named := ["given.example/pub-abaculus/impl.whole"], apart := false, laid := [("given.example/pub-abaculus/impl.whole", laid_given_example_pub_abaculus_impl_whole)], narrowed := true }
def FnRRMeetsUptoSaid : Prop := fnRRMeetsUptoRow.holds Tryd.pinned (OpenSpec.upto fnRRMeetsSpec)

end Rows
end Go.Proofs.YtfnogpelaoofbaaDoor

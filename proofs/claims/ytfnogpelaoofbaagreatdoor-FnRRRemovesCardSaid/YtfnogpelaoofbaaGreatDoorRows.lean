/-
  NARROWER THAN 'FOR EVERY INPUT', by the rows' own cells (each row's printed sentence says how): FnRRRemoves: laid · FnRRBoth: laid · FnRTRuns: laid.
  DERIVED. THE GIVEN ROWS OF THIS SEAT. 3 by the template 'for every input the law returns true; each argument reads behind the call as it read before'; 0 by the template 'total and deterministic' (their statements: YtfnogpelaoofbaaGreatDoorTotals.lean).
  GIVEN WITH THE SEED: the statements are not yours to turn. If you find one false, say at which input.
  Laid BY PROGRAM, IN A SANDBOX (cutbox-rows.mjs): the forced cells as the released guide's own fill.sh prints them over the translation 080bfc702c1553a6… (all of the seat's roots in one cut). By AI agents, Wed Nov 11 2026. No macro, syntax, notation, axiom, sorry.
-/
import Derived.Test.YtfnogpelaoofbaaGreatDoorChecked
import GoSem.Claim
import GoSem.ClaimJoined
import GoSem.ClaimMapViews
import Derived.JoinedTies
import Derived.KernelRfl
namespace Go.Proofs.YtfnogpelaoofbaaGreatDoor
/- THE CELL 'sum', in the pinned program and in every row, IS THE sha256 OF THE DUMP (.gsa) THAT YtfnogpelaoofbaaGreatDoorProg.lean LOADS. Nothing in Lean hashes anything: it is a label: what it is worth is what the hold of that sum in a sandbox is worth. -/
noncomputable def Tryz.pinned : Pinned := { name := "ytfnogpelaoofbaagreatdoor", sum := "080bfc702c1553a669101da7e5471cad0993159727cb82ab8637acce08b59c1b", checked := Tryz.checked }
namespace Rows
def none {H : Type} : Left H := { results := [], args := [] }

/- WHAT THE LISTED PACKAGE-LEVEL VARIABLES READ AS WHEN THE CALL BEGINS. Each datum BY PROGRAM (the guide's laid-datum.mjs) off the statement by which the dump's own 'gosem.cut.vars' lays the variable. In a bare row this is a premise. The card (YtfnogpelaoofbaaGreatDoorCards.lean) ties it to the program's text. -/
def laid_given_example_pub_abaculus_impl_whole {H : Type} : DataW H := .agg []

/-- 'laws.FnRRRemoves': WHATEVER THE INPUT: true; the input reads as it did. -/
def fnRRRemovesSpec : ChangeSpec := { name := "fnRRRemoves", vars := ["given.example/pub-abaculus/impl.whole"], fn := fun _ => fun
  | [d1, d2, d3, g1] => { results := [.lit (.bool true)], args := [d1, d2, d3], vars := [g1] }
  | _ => none }
def fnRRRemovesRow : OpenClaim := { program := "ytfnogpelaoofbaagreatdoor", sum := "080bfc702c1553a669101da7e5471cad0993159727cb82ab8637acce08b59c1b", func := "given.example/pub-abaculus/laws.FnRRRemoves", spec := "fnRRRemoves", unfollowed := true, recurses := true, named := ["given.example/pub-abaculus/impl.whole"], apart := false, laid := [("given.example/pub-abaculus/impl.whole", laid_given_example_pub_abaculus_impl_whole)] }
def FnRRRemovesSaid : Prop := fnRRRemovesRow.holds Tryz.pinned (OpenSpec.ofChange fnRRRemovesSpec)

/-- ITS FALSE NEIGHBOUR: 'it returns false'. Refute it at one input. -/
def fnRRRemovesWrong : ChangeSpec := { name := "fnRRRemoves", vars := ["given.example/pub-abaculus/impl.whole"], fn := fun _ => fun
  | [d1, d2, d3, g1] => { results := [.lit (.bool false)], args := [d1, d2, d3], vars := [g1] }
  | _ => none }
def FnRRRemovesWrongFalsely : Prop := fnRRRemovesRow.holds Tryz.pinned (OpenSpec.ofChange fnRRRemovesWrong)

/-- 'laws.FnRRBoth': WHATEVER THE INPUT: true; the input reads as it did. -/
def fnRRBothSpec : ChangeSpec := { name := "fnRRBoth", vars := ["given.example/pub-abaculus/impl.whole"], fn := fun _ => fun
  | [d1, d2, d3, g1] => { results := [.lit (.bool true)], args := [d1, d2, d3], vars := [g1] }
  | _ => none }
def fnRRBothRow : OpenClaim := { program := "ytfnogpelaoofbaagreatdoor", sum := "080bfc702c1553a669101da7e5471cad0993159727cb82ab8637acce08b59c1b", func := "given.example/pub-abaculus/laws.FnRRBoth", spec := "fnRRBoth", unfollowed := true, recurses := true, named := ["given.example/pub-abaculus/impl.whole"], apart := false, laid := [("given.example/pub-abaculus/impl.whole", laid_given_example_pub_abaculus_impl_whole)] }
def FnRRBothSaid : Prop := fnRRBothRow.holds Tryz.pinned (OpenSpec.ofChange fnRRBothSpec)

/-- ITS FALSE NEIGHBOUR: 'it returns false'. Refute it at one input. -/
def fnRRBothWrong : ChangeSpec := { name := "fnRRBoth", vars := ["given.example/pub-abaculus/impl.whole"], fn := fun _ => fun
  | [d1, d2, d3, g1] => { results := [.lit (.bool false)], args := [d1, d2, d3], vars := [g1] }
  | _ => none }
def FnRRBothWrongFalsely : Prop := fnRRBothRow.holds Tryz.pinned (OpenSpec.ofChange fnRRBothWrong)

/-- 'laws.FnRTRuns': WHATEVER THE INPUT: true; the input reads as it did. -/
def fnRTRunsSpec : ChangeSpec := { name := "fnRTRuns", vars := ["given.example/pub-abaculus/impl.whole"], fn := fun _ => fun
  | [d1, d2, d3, g1] => { results := [.lit (.bool true)], args := [d1, d2, d3], vars := [g1] }
  | _ => none }
def fnRTRunsRow : OpenClaim := { program := "ytfnogpelaoofbaagreatdoor", sum := "080bfc702c1553a669101da7e5471cad0993159727cb82ab8637acce08b59c1b", func := "given.example/pub-abaculus/laws.FnRTRuns", spec := "fnRTRuns", unfollowed := true, recurses := true, named := ["given.example/pub-abaculus/impl.whole"], apart := false, laid := [("given.example/pub-abaculus/impl.whole", laid_given_example_pub_abaculus_impl_whole)] }
def FnRTRunsSaid : Prop := fnRTRunsRow.holds Tryz.pinned (OpenSpec.ofChange fnRTRunsSpec)

/-- ITS FALSE NEIGHBOUR: 'it returns false'. Refute it at one input. -/
def fnRTRunsWrong : ChangeSpec := { name := "fnRTRuns", vars := ["given.example/pub-abaculus/impl.whole"], fn := fun _ => fun
  | [d1, d2, d3, g1] => { results := [.lit (.bool false)], args := [d1, d2, d3], vars := [g1] }
  | _ => none }
def FnRTRunsWrongFalsely : Prop := fnRTRunsRow.holds Tryz.pinned (OpenSpec.ofChange fnRTRunsWrong)

/- THE SECOND FORM. 'bulk': how many values and letters a reading holds, each counted each time it is reached (what is shared counts as often as it is met; a slice's spare places count too). A statement '..UptoSaid' is the law's where the arguments, and the package variables that the reading takes, are together of bulk at most 1048576: NARROWER than '..Said'. Prove '..Said' where nothing that the law and all that it calls make is longer than what came in: it says more and counts as full. Else prove '..UptoSaid'. A law counts once. -/
mutual
def uptoBulk {H : Type} : DataW H → Nat
  | .lit (.string bytes) => bytes.length + 1
  | .lit _ => 1
  | .nil => 1
  | .ptr d => uptoBulk d + 1
  | .slice elems spare => uptoBulkAll elems + uptoBulkAll spare + 1
  | .agg parts => uptoBulkAll parts + 1
  | .iface _ d => uptoBulk d + 1
  | .map entries => uptoBulkEntries entries + 1
  | .held _ => 1
def uptoBulkAll {H : Type} : List (DataW H) → Nat
  | [] => 0
  | d :: r => uptoBulk d + uptoBulkAll r
def uptoBulkEntries {H : Type} : List (Lit × DataW H) → Nat
  | [] => 0
  | x :: r => uptoBulkEntry x + uptoBulkEntries r
def uptoBulkEntry {H : Type} : Lit × DataW H → Nat
  | (.string bytes, d) => bytes.length + uptoBulk d + 1
  | (_, d) => uptoBulk d + 1
 end
def uptoSmall : (H : Type) → List (DataW H) → Bool := fun _ ds => decide (uptoBulkAll ds ≤ 1048576)
def OpenSpec.upto (s : _root_.Go.ChangeSpec) : _root_.Go.OpenSpec := { _root_.Go.OpenSpec.ofChange s with cond := some uptoSmall }

/-- 'laws.FnRRRemoves', WHERE WHAT IT READS IS OF BULK AT MOST 1048576: true; the input reads as it did. -/
def fnRRRemovesUptoRow : OpenClaim := { program := "ytfnogpelaoofbaagreatdoor", sum := "080bfc702c1553a669101da7e5471cad0993159727cb82ab8637acce08b59c1b", func := "given.example/pub-abaculus/laws.FnRRRemoves", spec := "fnRRRemoves", unfollowed := true, recurses := true, named := ["given.example/pub-abaculus/impl.whole"], apart := false, laid := [("given.example/pub-abaculus/impl.whole", laid_given_example_pub_abaculus_impl_whole)], narrowed := true }
def FnRRRemovesUptoSaid : Prop := fnRRRemovesUptoRow.holds Tryz.pinned (OpenSpec.upto fnRRRemovesSpec)

/-- 'laws.FnRRBoth', WHERE WHAT IT READS IS OF BULK AT MOST 1048576: true; the input reads as it did. -/
def fnRRBothUptoRow : OpenClaim := { program := "ytfnogpelaoofbaagreatdoor", sum := "080bfc702c1553a669101da7e5471cad0993159727cb82ab8637acce08b59c1b", func := "given.example/pub-abaculus/laws.FnRRBoth", spec := "fnRRBoth", unfollowed := true, recurses := true, named := ["given.example/pub-abaculus/impl.whole"], apart := false, laid := [("given.example/pub-abaculus/impl.whole", laid_given_example_pub_abaculus_impl_whole)], narrowed := true }
def FnRRBothUptoSaid : Prop := fnRRBothUptoRow.holds Tryz.pinned (OpenSpec.upto fnRRBothSpec)

/-- 'laws.FnRTRuns', WHERE WHAT IT READS IS OF BULK AT MOST 1048576: true; the input reads as it did. -/
def fnRTRunsUptoRow : OpenClaim := { program := "ytfnogpelaoofbaagreatdoor", sum := "080bfc702c1553a669101da7e5471cad0993159727cb82ab8637acce08b59c1b", func := "given.example/pub-abaculus/laws.FnRTRuns", spec := "fnRTRuns", unfollowed := true, recurses := true, named := ["given.example/pub-abaculus/impl.whole"], apart := false, laid := [("given.example/pub-abaculus/impl.whole", laid_given_example_pub_abaculus_impl_whole)], narrowed := true }
def FnRTRunsUptoSaid : Prop := fnRTRunsUptoRow.holds Tryz.pinned (OpenSpec.upto fnRTRunsSpec)

end Rows
end Go.Proofs.YtfnogpelaoofbaaGreatDoor

/-
  NARROWER THAN 'FOR EVERY INPUT', by the rows' own cells (each row's printed sentence says how): FnGESwap: loops · FnGEBoxes: loops.
  DERIVED. THE GIVEN ROWS OF THIS SEAT. 4 by the template 'for every input the law returns true; each argument reads behind the call as it read before'; 0 by the template 'total and deterministic' (their statements: YtfelbaibbanllaaTotals.lean).
  GIVEN WITH THE SEED: the statements are not yours to turn. If you find one false, say at which input.
  Laid BY PROGRAM, IN A SANDBOX (cutbox-rows.mjs): the forced cells as the released guide's own fill.sh prints them over the translation 6e410115a17dbcf3… (all of the seat's roots in one cut). By AI agents, Wed Nov 11 2026. No macro, syntax, notation, axiom, sorry.
-/
import Derived.Test.YtfelbaibbanllaaChecked
import GoSem.Claim
import GoSem.ClaimJoined
import GoSem.ClaimMapViews
import Derived.JoinedTies
import Derived.KernelRfl
namespace Go.Proofs.Ytfelbaibbanllaa
/- THE CELL 'sum', in the pinned program and in every row, IS THE sha256 OF THE DUMP (.gsa) THAT YtfelbaibbanllaaProg.lean LOADS. Nothing in Lean hashes anything: it is a label: what it is worth is what the hold of that sum in a sandbox is worth. -/
noncomputable def Try.pinned : Pinned := { name := "ytfelbaibbanllaa", sum := "6e410115a17dbcf3900f5afc9a7777a3c7dc120e97b912471f09b0f908495126", checked := Try.checked }
namespace Rows
def none {H : Type} : Left H := { results := [], args := [] }

/-- 'laws.FnGEArea': WHATEVER THE INPUT: true; the input reads as it did. -/
def fnGEAreaSpec : ChangeSpec := { name := "fnGEArea", fn := fun _ => fun
  | [d1, d2, d3] => { results := [.lit (.bool true)], args := [d1, d2, d3] }
  | _ => none }
def fnGEAreaRow : OpenClaim := { program := "ytfelbaibbanllaa", sum := "6e410115a17dbcf3900f5afc9a7777a3c7dc120e97b912471f09b0f908495126", func := "given.example/pub-abaculus/laws.FnGEArea", spec := "fnGEArea", inPlace := ["math.archTrunc", "math.Float64bits", "math.Float64frombits"], unfollowed := true, recurses := true, apart := false }
def FnGEAreaSaid : Prop := fnGEAreaRow.holds Try.pinned (OpenSpec.ofChange fnGEAreaSpec)

/-- ITS FALSE NEIGHBOUR: 'it returns false'. Refute it at one input. -/
def fnGEAreaWrong : ChangeSpec := { name := "fnGEArea", fn := fun _ => fun
  | [d1, d2, d3] => { results := [.lit (.bool false)], args := [d1, d2, d3] }
  | _ => none }
def FnGEAreaWrongFalsely : Prop := fnGEAreaRow.holds Try.pinned (OpenSpec.ofChange fnGEAreaWrong)

/-- 'laws.FnGEEnds': WHATEVER THE INPUT: true; the input reads as it did. -/
def fnGEEndsSpec : ChangeSpec := { name := "fnGEEnds", fn := fun _ => fun
  | [d1, d2] => { results := [.lit (.bool true)], args := [d1, d2] }
  | _ => none }
def fnGEEndsRow : OpenClaim := { program := "ytfelbaibbanllaa", sum := "6e410115a17dbcf3900f5afc9a7777a3c7dc120e97b912471f09b0f908495126", func := "given.example/pub-abaculus/laws.FnGEEnds", spec := "fnGEEnds", inPlace := ["math.archTrunc", "math.Float64bits", "math.Float64frombits"], unfollowed := true, recurses := true, apart := false }
def FnGEEndsSaid : Prop := fnGEEndsRow.holds Try.pinned (OpenSpec.ofChange fnGEEndsSpec)

/-- ITS FALSE NEIGHBOUR: 'it returns false'. Refute it at one input. -/
def fnGEEndsWrong : ChangeSpec := { name := "fnGEEnds", fn := fun _ => fun
  | [d1, d2] => { results := [.lit (.bool false)], args := [d1, d2] }
  | _ => none }
def FnGEEndsWrongFalsely : Prop := fnGEEndsRow.holds Try.pinned (OpenSpec.ofChange fnGEEndsWrong)

/-- 'laws.FnGESwap': WHATEVER THE INPUT: true; the input reads as it did. -/
def fnGESwapSpec : ChangeSpec := { name := "fnGESwap", fn := fun _ => fun
  | [d] => { results := [.lit (.bool true)], args := [d] }
  | _ => none }
def fnGESwapRow : OpenClaim := { program := "ytfelbaibbanllaa", sum := "6e410115a17dbcf3900f5afc9a7777a3c7dc120e97b912471f09b0f908495126", func := "given.example/pub-abaculus/laws.FnGESwap", spec := "fnGESwap", inPlace := ["math.Float64bits"], unfollowed := true, recurses := true, loops := true, apart := false }
def FnGESwapSaid : Prop := fnGESwapRow.holds Try.pinned (OpenSpec.ofChange fnGESwapSpec)

/-- ITS FALSE NEIGHBOUR: 'it returns false'. Refute it at one input. -/
def fnGESwapWrong : ChangeSpec := { name := "fnGESwap", fn := fun _ => fun
  | [d] => { results := [.lit (.bool false)], args := [d] }
  | _ => none }
def FnGESwapWrongFalsely : Prop := fnGESwapRow.holds Try.pinned (OpenSpec.ofChange fnGESwapWrong)

/-- 'laws.FnGEBoxes': WHATEVER THE INPUT: true; the input reads as it did. -/
def fnGEBoxesSpec : ChangeSpec := { name := "fnGEBoxes", fn := fun _ => fun
  | [d] => { results := [.lit (.bool true)], args := [d] }
  | _ => none }
def fnGEBoxesRow : OpenClaim := { program := "ytfelbaibbanllaa", sum := "6e410115a17dbcf3900f5afc9a7777a3c7dc120e97b912471f09b0f908495126", func := "given.example/pub-abaculus/laws.FnGEBoxes", spec := "fnGEBoxes", inPlace := ["math.archTrunc", "math.Float64bits", "math.Float64frombits", "math.archMin", "math.archMax"], unfollowed := true, recurses := true, loops := true, apart := false }
def FnGEBoxesSaid : Prop := fnGEBoxesRow.holds Try.pinned (OpenSpec.ofChange fnGEBoxesSpec)

/-- ITS FALSE NEIGHBOUR: 'it returns false'. Refute it at one input. -/
def fnGEBoxesWrong : ChangeSpec := { name := "fnGEBoxes", fn := fun _ => fun
  | [d] => { results := [.lit (.bool false)], args := [d] }
  | _ => none }
def FnGEBoxesWrongFalsely : Prop := fnGEBoxesRow.holds Try.pinned (OpenSpec.ofChange fnGEBoxesWrong)

/- THE SECOND FORM. 'bulk': how many values and letters a reading holds, each counted each time it is reached (what is shared counts as often as it is met; a slice's spare places count too). A statement '..UptoSaid' is the law's where the arguments, and the package variables that the reading takes, are together of bulk at most 1048576: NARROWER than '..Said'. Prove '..Said' where nothing that the law and all that it calls make is longer than what came in: it says more and counts as full. Else prove '..UptoSaid'. A law counts once. -/
mutual
def uptoBulk {H : Type} : DataW H → Nat
  | .lit (.string bytes) => bytes.length + 1
  | .lit _ => 1
  | .nil => 1
  | .ptr d => uptoBulk d + 1
  | .slice elems spare => uptoBulkAll elems + uptoBulkAll spare + 1
  | .agg parts => uptoBulkAll parts + 1
  | .iface _ d => uptoBulk d + 1
  | .map entries => uptoBulkEntries entries + 1
  | .held _ => 1
def uptoBulkAll {H : Type} : List (DataW H) → Nat
  | [] => 0
  | d :: r => uptoBulk d + uptoBulkAll r
def uptoBulkEntries {H : Type} : List (Lit × DataW H) → Nat
  | [] => 0
  | x :: r => uptoBulkEntry x + uptoBulkEntries r
def uptoBulkEntry {H : Type} : Lit × DataW H → Nat
  | (.string bytes, d) => bytes.length + uptoBulk d + 1
  | (_, d) => uptoBulk d + 1
 end
def uptoSmall : (H : Type) → List (DataW H) → Bool := fun _ ds => decide (uptoBulkAll ds ≤ 1048576)
def OpenSpec.upto (s : _root_.Go.ChangeSpec) : _root_.Go.OpenSpec := { _root_.Go.OpenSpec.ofChange s with cond := some uptoSmall }

/-- 'laws.FnGEArea', WHERE WHAT IT READS IS OF BULK AT MOST 1048576: true; the input reads as it did. -/
def fnGEAreaUptoRow : OpenClaim := { program := "ytfelbaibbanllaa", sum := "6e410115a17dbcf3900f5afc9a7777a3c7dc120e97b912471f09b0f908495126", func := "given.example/pub-abaculus/laws.FnGEArea", spec := "fnGEArea", inPlace := ["math.archTrunc", "math.Float64bits", "math.Float64frombits"], unfollowed := true, recurses := true, apart := false, narrowed := true }
def FnGEAreaUptoSaid : Prop := fnGEAreaUptoRow.holds Try.pinned (OpenSpec.upto fnGEAreaSpec)

/-- 'laws.FnGEEnds', WHERE WHAT IT READS IS OF BULK AT MOST 1048576: true; the input reads as it did. -/
def fnGEEndsUptoRow : OpenClaim := { program := "ytfelbaibbanllaa", sum := "6e410115a17dbcf3900f5afc9a7777a3c7dc120e97b912471f09b0f908495126", func := "given.example/pub-abaculus/laws.FnGEEnds", spec := "fnGEEnds", inPlace := ["math.archTrunc", "math.Float64bits", "math.Float64frombits"], unfollowed := true, recurses := true, apart := false, narrowed := true }
def FnGEEndsUptoSaid : Prop := fnGEEndsUptoRow.holds Try.pinned (OpenSpec.upto fnGEEndsSpec)

/-- 'laws.FnGESwap', WHERE WHAT IT READS IS OF BULK AT MOST 1048576: true; the input reads as it did. -/
def fnGESwapUptoRow : OpenClaim := { program := "ytfelbaibbanllaa", sum := "6e410115a17dbcf3900f5afc9a7777a3c7dc120e97b912471f09b0f908495126", func := "given.example/pub-abaculus/laws.FnGESwap", spec := "fnGESwap", inPlace := ["math.Float64bits"], unfollowed := true, recurses := true, loops := true, apart := false, narrowed := true }
def FnGESwapUptoSaid : Prop := fnGESwapUptoRow.holds Try.pinned (OpenSpec.upto fnGESwapSpec)

/-- 'laws.FnGEBoxes', WHERE WHAT IT READS IS OF BULK AT MOST 1048576: true; the input reads as it did. -/
def fnGEBoxesUptoRow : OpenClaim := { program := "ytfelbaibbanllaa", sum := "6e410115a17dbcf3900f5afc9a7777a3c7dc120e97b912471f09b0f908495126", func := "given.example/pub-abaculus/laws.FnGEBoxes", spec := "fnGEBoxes", inPlace := ["math.archTrunc", "math.Float64bits", "math.Float64frombits", "math.archMin", "math.archMax"], unfollowed := true, recurses := true, loops := true, apart := false, narrowed := true }
def FnGEBoxesUptoSaid : Prop := fnGEBoxesUptoRow.holds Try.pinned (OpenSpec.upto fnGEBoxesSpec)

end Rows
end Go.Proofs.Ytfelbaibbanllaa

/-
  No cell of these rows narrows 'for every input' (looked for: loops, veiled, ifaces, maps, wideKeys, modest, calm, conditions, laid).
  DERIVED. THE GIVEN ROWS OF THIS SEAT. 6 by the template 'for every input the law returns true; each argument reads behind the call as it read before'; 0 by the template 'total and deterministic' (their statements: YtghigcmjldjljaaTotals.lean).
  GIVEN WITH THE SEED: the statements are not yours to turn. If you find one false, say at which input.
  Laid BY PROGRAM, IN A SANDBOX (cutbox-rows.mjs): the forced cells as the released guide's own fill.sh prints them over the translation 6b9a580613f96c5b… (all of the seat's roots in one cut). By AI agents, Wed Nov 11 2026. No macro, syntax, notation, axiom, sorry.
-/
import Derived.Test.YtghigcmjldjljaaChecked
import GoSem.Claim
import GoSem.ClaimJoined
import GoSem.ClaimMapViews
import Derived.JoinedTies
import Derived.KernelRfl
namespace Go.Proofs.Ytghigcmjldjljaa
/- THE CELL 'sum', in the pinned program and in every row, IS THE sha256 OF THE DUMP (.gsa) THAT YtghigcmjldjljaaProg.lean LOADS. Nothing in Lean hashes anything: it is a label: what it is worth is what the hold of that sum in a sandbox is worth. -/
noncomputable def Try.pinned : Pinned := { name := "ytghigcmjldjljaa", sum := "6b9a580613f96c5be9a395501639e82414a7974d8a04df77a9d04681f7a2c2d4", checked := Try.checked }
namespace Rows
def none {H : Type} : Left H := { results := [], args := [] }

/-- 'laws.FnTXChar': WHATEVER THE INPUT: true; the input reads as it did. -/
def fnTXCharSpec : ChangeSpec := { name := "fnTXChar", fn := fun _ => fun
  | [d] => { results := [.lit (.bool true)], args := [d] }
  | _ => none }
def fnTXCharRow : OpenClaim := { program := "ytghigcmjldjljaa", sum := "6b9a580613f96c5be9a395501639e82414a7974d8a04df77a9d04681f7a2c2d4", func := "given.example/pub-abaculus/laws.FnTXChar", spec := "fnTXChar", recurses := true, apart := false }
def FnTXCharSaid : Prop := fnTXCharRow.holds Try.pinned (OpenSpec.ofChange fnTXCharSpec)

/-- ITS FALSE NEIGHBOUR: 'it returns false'. Refute it at one input. -/
def fnTXCharWrong : ChangeSpec := { name := "fnTXChar", fn := fun _ => fun
  | [d] => { results := [.lit (.bool false)], args := [d] }
  | _ => none }
def FnTXCharWrongFalsely : Prop := fnTXCharRow.holds Try.pinned (OpenSpec.ofChange fnTXCharWrong)

/-- 'laws.FnTXReverse': WHATEVER THE INPUT: true; the input reads as it did. -/
def fnTXReverseSpec : ChangeSpec := { name := "fnTXReverse", fn := fun _ => fun
  | [d1, d2] => { results := [.lit (.bool true)], args := [d1, d2] }
  | _ => none }
def fnTXReverseRow : OpenClaim := { program := "ytghigcmjldjljaa", sum := "6b9a580613f96c5be9a395501639e82414a7974d8a04df77a9d04681f7a2c2d4", func := "given.example/pub-abaculus/laws.FnTXReverse", spec := "fnTXReverse", apart := false }
def FnTXReverseSaid : Prop := fnTXReverseRow.holds Try.pinned (OpenSpec.ofChange fnTXReverseSpec)

/-- ITS FALSE NEIGHBOUR: 'it returns false'. Refute it at one input. -/
def fnTXReverseWrong : ChangeSpec := { name := "fnTXReverse", fn := fun _ => fun
  | [d1, d2] => { results := [.lit (.bool false)], args := [d1, d2] }
  | _ => none }
def FnTXReverseWrongFalsely : Prop := fnTXReverseRow.holds Try.pinned (OpenSpec.ofChange fnTXReverseWrong)

/-- 'laws.FnTXIndex': WHATEVER THE INPUT: true; the input reads as it did. -/
def fnTXIndexSpec : ChangeSpec := { name := "fnTXIndex", fn := fun _ => fun
  | [d1, d2] => { results := [.lit (.bool true)], args := [d1, d2] }
  | _ => none }
def fnTXIndexRow : OpenClaim := { program := "ytghigcmjldjljaa", sum := "6b9a580613f96c5be9a395501639e82414a7974d8a04df77a9d04681f7a2c2d4", func := "given.example/pub-abaculus/laws.FnTXIndex", spec := "fnTXIndex", apart := false }
def FnTXIndexSaid : Prop := fnTXIndexRow.holds Try.pinned (OpenSpec.ofChange fnTXIndexSpec)

/-- ITS FALSE NEIGHBOUR: 'it returns false'. Refute it at one input. -/
def fnTXIndexWrong : ChangeSpec := { name := "fnTXIndex", fn := fun _ => fun
  | [d1, d2] => { results := [.lit (.bool false)], args := [d1, d2] }
  | _ => none }
def FnTXIndexWrongFalsely : Prop := fnTXIndexRow.holds Try.pinned (OpenSpec.ofChange fnTXIndexWrong)

/-- 'laws.FnVEDistance': WHATEVER THE INPUT: true; the input reads as it did. -/
def fnVEDistanceSpec : ChangeSpec := { name := "fnVEDistance", fn := fun _ => fun
  | [d1, d2] => { results := [.lit (.bool true)], args := [d1, d2] }
  | _ => none }
def fnVEDistanceRow : OpenClaim := { program := "ytghigcmjldjljaa", sum := "6b9a580613f96c5be9a395501639e82414a7974d8a04df77a9d04681f7a2c2d4", func := "given.example/pub-abaculus/laws.FnVEDistance", spec := "fnVEDistance", apart := false }
def FnVEDistanceSaid : Prop := fnVEDistanceRow.holds Try.pinned (OpenSpec.ofChange fnVEDistanceSpec)

/-- ITS FALSE NEIGHBOUR: 'it returns false'. Refute it at one input. -/
def fnVEDistanceWrong : ChangeSpec := { name := "fnVEDistance", fn := fun _ => fun
  | [d1, d2] => { results := [.lit (.bool false)], args := [d1, d2] }
  | _ => none }
def FnVEDistanceWrongFalsely : Prop := fnVEDistanceRow.holds Try.pinned (OpenSpec.ofChange fnVEDistanceWrong)

/-- 'laws.FnVLText': WHATEVER THE INPUT: true; the input reads as it did. -/
def fnVLTextSpec : ChangeSpec := { name := "fnVLText", fn := fun _ => fun
  | [d] => { results := [.lit (.bool true)], args := [d] }
  | _ => none }
def fnVLTextRow : OpenClaim := { program := "ytghigcmjldjljaa", sum := "6b9a580613f96c5be9a395501639e82414a7974d8a04df77a9d04681f7a2c2d4", func := "given.example/pub-abaculus/laws.FnVLText", spec := "fnVLText", apart := false }
def FnVLTextSaid : Prop := fnVLTextRow.holds Try.pinned (OpenSpec.ofChange fnVLTextSpec)

/-- ITS FALSE NEIGHBOUR: 'it returns false'. Refute it at one input. -/
def fnVLTextWrong : ChangeSpec := { name := "fnVLText", fn := fun _ => fun
  | [d] => { results := [.lit (.bool false)], args := [d] }
  | _ => none }
def FnVLTextWrongFalsely : Prop := fnVLTextRow.holds Try.pinned (OpenSpec.ofChange fnVLTextWrong)

/-- 'laws.FnTXHex': WHATEVER THE INPUT: true; the input reads as it did. -/
def fnTXHexSpec : ChangeSpec := { name := "fnTXHex", fn := fun _ => fun
  | [d1, d2] => { results := [.lit (.bool true)], args := [d1, d2] }
  | _ => none }
def fnTXHexRow : OpenClaim := { program := "ytghigcmjldjljaa", sum := "6b9a580613f96c5be9a395501639e82414a7974d8a04df77a9d04681f7a2c2d4", func := "given.example/pub-abaculus/laws.FnTXHex", spec := "fnTXHex", apart := false }
def FnTXHexSaid : Prop := fnTXHexRow.holds Try.pinned (OpenSpec.ofChange fnTXHexSpec)

/-- ITS FALSE NEIGHBOUR: 'it returns false'. Refute it at one input. -/
def fnTXHexWrong : ChangeSpec := { name := "fnTXHex", fn := fun _ => fun
  | [d1, d2] => { results := [.lit (.bool false)], args := [d1, d2] }
  | _ => none }
def FnTXHexWrongFalsely : Prop := fnTXHexRow.holds Try.pinned (OpenSpec.ofChange fnTXHexWrong)

/- THE SECOND FORM. 'bulk': how many values and letters a reading holds, each counted each time it is reached (what is shared counts as often as it is met; a slice's spare places count too). A statement '..UptoSaid' is the law's where the arguments, and the package variables that the reading takes, are together of bulk at most 1048576: NARROWER than '..Said'. Prove '..Said' where nothing that the law and all that it calls make is longer than what came in: it says more and counts as full. Else prove '..UptoSaid'. A law counts once. -/
mutual
def uptoBulk {H : Type} : DataW H → Nat
  | .lit (.string bytes) => bytes.length + 1
  | .lit _ => 1
  | .nil => 1
  | .ptr d => uptoBulk d + 1
  | .slice elems spare => uptoBulkAll elems + uptoBulkAll spare + 1
  | .agg parts => uptoBulkAll parts + 1
  | .iface _ d => uptoBulk d + 1
  | .map entries => uptoBulkEntries entries + 1
  | .held _ => 1
def uptoBulkAll {H : Type} : List (DataW H) → Nat
  | [] => 0
  | d :: r => uptoBulk d + uptoBulkAll r
def uptoBulkEntries {H : Type} : List (Lit × DataW H) → Nat
  | [] => 0
  | x :: r => uptoBulkEntry x + uptoBulkEntries r
def uptoBulkEntry {H : Type} : Lit × DataW H → Nat
  | (.string bytes, d) => bytes.length + uptoBulk d + 1
  | (_, d) => uptoBulk d + 1
 end
def uptoSmall : (H : Type) → List (DataW H) → Bool := fun _ ds => decide (uptoBulkAll ds ≤ 1048576)
def OpenSpec.upto (s : _root_.Go.ChangeSpec) : _root_.Go.OpenSpec := { _root_.Go.OpenSpec.ofChange s with cond := some uptoSmall }

/-- 'laws.FnTXChar', WHERE WHAT IT READS IS OF BULK AT MOST 1048576: true; the input reads as it did. -/
def fnTXCharUptoRow : OpenClaim := { program := "ytghigcmjldjljaa", sum := "6b9a580613f96c5be9a395501639e82414a7974d8a04df77a9d04681f7a2c2d4", func := "given.example/pub-abaculus/laws.FnTXChar", spec := "fnTXChar", recurses := true, apart := false, narrowed := true }
def FnTXCharUptoSaid : Prop := fnTXCharUptoRow.holds Try.pinned (OpenSpec.upto fnTXCharSpec)

/-- 'laws.FnTXReverse', WHERE WHAT IT READS IS OF BULK AT MOST 1048576: true; the input reads as it did. -/
def fnTXReverseUptoRow : OpenClaim := { program := "ytghigcmjldjljaa", sum := "6b9a580613f96c5be9a395501639e82414a7974d8a04df77a9d04681f7a2c2d4", func := "given.example/pub-abaculus/laws.FnTXReverse", spec := "fnTXReverse", apart := false, narrowed := true }
def FnTXReverseUptoSaid : Prop := fnTXReverseUptoRow.holds Try.pinned (OpenSpec.upto fnTXReverseSpec)

/-- 'laws.FnTXIndex', WHERE WHAT IT READS IS OF BULK AT MOST 1048576: true; the input reads as it did. -/
def fnTXIndexUptoRow : OpenClaim := { program := "ytghigcmjldjljaa", sum := "6b9a580613f96c5be9a395501639e82414a7974d8a04df77a9d04681f7a2c2d4", func := "given.example/pub-abaculus/laws.FnTXIndex", spec := "fnTXIndex", apart := false, narrowed := true }
def FnTXIndexUptoSaid : Prop := fnTXIndexUptoRow.holds Try.pinned (OpenSpec.upto fnTXIndexSpec)

/-- 'laws.FnVEDistance', WHERE WHAT IT READS IS OF BULK AT MOST 1048576: true; the input reads as it did. -/
def fnVEDistanceUptoRow : OpenClaim := { program := "ytghigcmjldjljaa", sum := "6b9a580613f96c5be9a395501639e82414a7974d8a04df77a9d04681f7a2c2d4", func := "given.example/pub-abaculus/laws.FnVEDistance", spec := "fnVEDistance", apart := false, narrowed := true }
def FnVEDistanceUptoSaid : Prop := fnVEDistanceUptoRow.holds Try.pinned (OpenSpec.upto fnVEDistanceSpec)

/-- 'laws.FnVLText', WHERE WHAT IT READS IS OF BULK AT MOST 1048576: true; the input reads as it did. -/
def fnVLTextUptoRow : OpenClaim := { program := "ytghigcmjldjljaa", sum := "6b9a580613f96c5be9a395501639e82414a7974d8a04df77a9d04681f7a2c2d4", func := "given.example/pub-abaculus/laws.FnVLText", spec := "fnVLText", apart := false, narrowed := true }
def FnVLTextUptoSaid : Prop := fnVLTextUptoRow.holds Try.pinned (OpenSpec.upto fnVLTextSpec)

/-- 'laws.FnTXHex', WHERE WHAT IT READS IS OF BULK AT MOST 1048576: true; the input reads as it did. -/
def fnTXHexUptoRow : OpenClaim := { program := "ytghigcmjldjljaa", sum := "6b9a580613f96c5be9a395501639e82414a7974d8a04df77a9d04681f7a2c2d4", func := "given.example/pub-abaculus/laws.FnTXHex", spec := "fnTXHex", apart := false, narrowed := true }
def FnTXHexUptoSaid : Prop := fnTXHexUptoRow.holds Try.pinned (OpenSpec.upto fnTXHexSpec)

end Rows
end Go.Proofs.Ytghigcmjldjljaa

/-
  NARROWER THAN 'FOR EVERY INPUT', by the rows' own cells (each row's printed sentence says how): FnVLBack: laid · FnVLOrder: laid · FnLKEscaped: laid.
  DERIVED. THE GIVEN ROWS OF THIS SEAT. 3 by the template 'for every input the law returns true; each argument reads behind the call as it read before'; 0 by the template 'total and deterministic' (their statements: YtbcclblocagneaaDoorTotals.lean).
  GIVEN WITH THE SEED: the statements are not yours to turn. If you find one false, say at which input.
  Laid BY PROGRAM, IN A SANDBOX (cutbox-rows.mjs): the forced cells as the released guide's own fill.sh prints them over the translation c9bee29787945c55… (all of the seat's roots in one cut). By AI agents, Wed Nov 11 2026. No macro, syntax, notation, axiom, sorry.
-/
import Derived.Test.YtbcclblocagneaaDoorChecked
import GoSem.PinnedTables
import GoSem.Claim
import GoSem.ClaimJoined
import GoSem.ClaimMapViews
import Derived.JoinedTies
import Derived.KernelRfl
namespace Go.Proofs.YtbcclblocagneaaDoor
/- THE CELL 'sum', in the pinned program and in every row, IS THE sha256 OF THE DUMP (.gsa) THAT YtbcclblocagneaaDoorProg.lean LOADS. Nothing in Lean hashes anything: it is a label: what it is worth is what the hold of that sum in a sandbox is worth. -/
noncomputable def Tryd.pinned : Pinned := { name := "ytbcclblocagneaadoor", sum := "c9bee29787945c55d8be9d10d156dec4b5bf2f38d22839e94771030eb911ea32", checked := Tryd.checked }
namespace Rows
def none {H : Type} : Left H := { results := [], args := [] }

/- WHAT THE LISTED PACKAGE-LEVEL VARIABLES READ AS WHEN THE CALL BEGINS. Each datum BY PROGRAM (the guide's laid-datum.mjs) off the statement by which the dump's own 'gosem.cut.vars' lays the variable. In a bare row this is a premise. The card (YtbcclblocagneaaDoorCards.lean) ties it to the program's text. -/
def laid_given_example_pub_abaculus_impl_sizes {H : Type} : DataW H := .agg [.lit (.int .i64 0), .lit (.int .i64 1), .lit (.int .i64 1), .lit (.int .i64 2), .lit (.int .i64 2), .lit (.int .i64 3), .lit (.int .i64 3), .lit (.int .i64 4), .lit (.int .i64 4), .lit (.int .i64 8), .lit (.int .i64 8), .lit (.int .i64 4), .lit (.int .i64 8), .lit (.int .i64 6), .lit (.int .i64 6)]
def laid_given_example_pub_abaculus_impl_encodings {H : Type} : DataW H := .agg [.lit (.int .u8 0), .lit (.int .u8 1), .lit (.int .u8 2), .lit (.int .u8 3), .lit (.int .u8 4), .lit (.int .u8 5), .lit (.int .u8 6), .lit (.int .u8 7), .lit (.int .u8 8), .lit (.int .u8 9), .lit (.int .u8 10), .lit (.int .u8 11), .lit (.int .u8 12)]
def laid_unicode_utf8_acceptRanges {H : Type} : DataW H := .agg [.agg [.lit (.int .u8 128), .lit (.int .u8 191)], .agg [.lit (.int .u8 160), .lit (.int .u8 191)], .agg [.lit (.int .u8 128), .lit (.int .u8 159)], .agg [.lit (.int .u8 144), .lit (.int .u8 191)], .agg [.lit (.int .u8 128), .lit (.int .u8 143)], .agg [.lit (.int .u8 0), .lit (.int .u8 0)], .agg [.lit (.int .u8 0), .lit (.int .u8 0)], .agg [.lit (.int .u8 0), .lit (.int .u8 0)], .agg [.lit (.int .u8 0), .lit (.int .u8 0)], .agg [.lit (.int .u8 0), .lit (.int .u8 0)], .agg [.lit (.int .u8 0), .lit (.int .u8 0)], .agg [.lit (.int .u8 0), .lit (.int .u8 0)], .agg [.lit (.int .u8 0), .lit (.int .u8 0)], .agg [.lit (.int .u8 0), .lit (.int .u8 0)], .agg [.lit (.int .u8 0), .lit (.int .u8 0)], .agg [.lit (.int .u8 0), .lit (.int .u8 0)]]
/-- One of Go's own tables, pinned by name: the form's constant. -/
def laid_unicode_utf8_first : DataW Unit := Go.Pinned.utf8First

/-- 'laws.FnVLBack': WHATEVER THE INPUT: true; the input reads as it did. -/
def fnVLBackSpec : ChangeSpec := { name := "fnVLBack", vars := ["given.example/pub-abaculus/impl.sizes"], fn := fun _ => fun
  | [d1, d2, g1] => { results := [.lit (.bool true)], args := [d1, d2], vars := [g1] }
  | _ => none }
def fnVLBackRow : OpenClaim := { program := "ytbcclblocagneaadoor", sum := "c9bee29787945c55d8be9d10d156dec4b5bf2f38d22839e94771030eb911ea32", func := "given.example/pub-abaculus/laws.FnVLBack", spec := "fnVLBack", inPlace := ["math.Float32frombits", "math.Float32bits", "math.Float64frombits", "math.Float64bits"], named := ["given.example/pub-abaculus/impl.sizes", "encoding/binary.LittleEndian"], apart := false, laid := [("given.example/pub-abaculus/impl.sizes", laid_given_example_pub_abaculus_impl_sizes)] }
def FnVLBackSaid : Prop := fnVLBackRow.holds Tryd.pinned (OpenSpec.ofChange fnVLBackSpec)

/-- ITS FALSE NEIGHBOUR: 'it returns false'. Refute it at one input. -/
def fnVLBackWrong : ChangeSpec := { name := "fnVLBack", vars := ["given.example/pub-abaculus/impl.sizes"], fn := fun _ => fun
  | [d1, d2, g1] => { results := [.lit (.bool false)], args := [d1, d2], vars := [g1] }
  | _ => none }
def FnVLBackWrongFalsely : Prop := fnVLBackRow.holds Tryd.pinned (OpenSpec.ofChange fnVLBackWrong)

/-- 'laws.FnVLOrder': WHATEVER THE INPUT: true; the input reads as it did. -/
def fnVLOrderSpec : ChangeSpec := { name := "fnVLOrder", vars := ["given.example/pub-abaculus/impl.sizes", "given.example/pub-abaculus/impl.encodings"], fn := fun _ => fun
  | [d1, d2, d3, g1, g2] => { results := [.lit (.bool true)], args := [d1, d2, d3], vars := [g1, g2] }
  | _ => none }
def fnVLOrderRow : OpenClaim := { program := "ytbcclblocagneaadoor", sum := "c9bee29787945c55d8be9d10d156dec4b5bf2f38d22839e94771030eb911ea32", func := "given.example/pub-abaculus/laws.FnVLOrder", spec := "fnVLOrder", inPlace := ["math.Float32frombits", "math.Float32bits", "math.Float64frombits", "math.Float64bits", "internal/bytealg.Compare"], named := ["given.example/pub-abaculus/impl.sizes", "encoding/binary.LittleEndian", "given.example/pub-abaculus/impl.encodings"], apart := false, laid := [("given.example/pub-abaculus/impl.sizes", laid_given_example_pub_abaculus_impl_sizes), ("given.example/pub-abaculus/impl.encodings", laid_given_example_pub_abaculus_impl_encodings)] }
def FnVLOrderSaid : Prop := fnVLOrderRow.holds Tryd.pinned (OpenSpec.ofChange fnVLOrderSpec)

/-- ITS FALSE NEIGHBOUR: 'it returns false'. Refute it at one input. -/
def fnVLOrderWrong : ChangeSpec := { name := "fnVLOrder", vars := ["given.example/pub-abaculus/impl.sizes", "given.example/pub-abaculus/impl.encodings"], fn := fun _ => fun
  | [d1, d2, d3, g1, g2] => { results := [.lit (.bool false)], args := [d1, d2, d3], vars := [g1, g2] }
  | _ => none }
def FnVLOrderWrongFalsely : Prop := fnVLOrderRow.holds Tryd.pinned (OpenSpec.ofChange fnVLOrderWrong)

/-- 'laws.FnLKEscaped': WHATEVER THE INPUT: true; the input reads as it did. -/
def fnLKEscapedSpec : ChangeSpec := { name := "fnLKEscaped", fn := fun _ => fun
  | [d1, d2, d3] => { results := [.lit (.bool true)], args := [d1, d2, d3] }
  | _ => none }
def fnLKEscapedRow : OpenClaim := { program := "ytbcclblocagneaadoor", sum := "c9bee29787945c55d8be9d10d156dec4b5bf2f38d22839e94771030eb911ea32", func := "given.example/pub-abaculus/laws.FnLKEscaped", spec := "fnLKEscaped", unfollowed := true, recurses := true, named := ["unicode/utf8.first", "unicode/utf8.acceptRanges"], apart := false, laid := [("unicode/utf8.acceptRanges", laid_unicode_utf8_acceptRanges), ("unicode/utf8.first", laid_unicode_utf8_first)] }
def FnLKEscapedSaid : Prop := fnLKEscapedRow.holds Tryd.pinned (OpenSpec.ofChange fnLKEscapedSpec)

/-- ITS FALSE NEIGHBOUR: 'it returns false'. Refute it at one input. -/
def fnLKEscapedWrong : ChangeSpec := { name := "fnLKEscaped", fn := fun _ => fun
  | [d1, d2, d3] => { results := [.lit (.bool false)], args := [d1, d2, d3] }
  | _ => none }
def FnLKEscapedWrongFalsely : Prop := fnLKEscapedRow.holds Tryd.pinned (OpenSpec.ofChange fnLKEscapedWrong)

/- THE SECOND FORM. 'bulk': how many values and letters a reading holds, each counted each time it is reached (what is shared counts as often as it is met; a slice's spare places count too). A statement '..UptoSaid' is the law's where the arguments, and the package variables that the reading takes, are together of bulk at most 1048576: NARROWER than '..Said'. Prove '..Said' where nothing that the law and all that it calls make is longer than what came in: it says more and counts as full. Else prove '..UptoSaid'. A law counts once. -/
mutual
def uptoBulk {H : Type} : DataW H → Nat
  | .lit (.string bytes) => bytes.length + 1
  | .lit _ => 1
  | .nil => 1
  | .ptr d => uptoBulk d + 1
  | .slice elems spare => uptoBulkAll elems + uptoBulkAll spare + 1
  | .agg parts => uptoBulkAll parts + 1
  | .iface _ d => uptoBulk d + 1
  | .map entries => uptoBulkEntries entries + 1
  | .held _ => 1
def uptoBulkAll {H : Type} : List (DataW H) → Nat
  | [] => 0
  | d :: r => uptoBulk d + uptoBulkAll r
def uptoBulkEntries {H : Type} : List (Lit × DataW H) → Nat
  | [] => 0
  | x :: r => uptoBulkEntry x + uptoBulkEntries r
def uptoBulkEntry {H : Type} : Lit × DataW H → Nat
  | (.string bytes, d) => bytes.length + uptoBulk d + 1
  | (_, d) => uptoBulk d + 1
 end
def uptoSmall : (H : Type) → List (DataW H) → Bool := fun _ ds => decide (uptoBulkAll ds ≤ 1048576)
def OpenSpec.upto (s : _root_.Go.ChangeSpec) : _root_.Go.OpenSpec := { _root_.Go.OpenSpec.ofChange s with cond := some uptoSmall }

/-- 'laws.FnVLBack', WHERE WHAT IT READS IS OF BULK AT MOST 1048576: true; the input reads as it did. -/
def fnVLBackUptoRow : OpenClaim := { program := "ytbcclblocagneaadoor", sum := "c9bee29787945c55d8be9d10d156dec4b5bf2f38d22839e94771030eb911ea32", func := "given.example/pub-abaculus/laws.FnVLBack", spec := "fnVLBack", inPlace := ["math.Float32frombits", "math.Float32bits", "math.Float64frombits", "math.Float64bits"], named := ["given.example/pub-abaculus/impl.sizes", "encoding/binary.LittleEndian"], apart := false, laid := [("given.example/pub-abaculus/impl.sizes", laid_given_example_pub_abaculus_impl_sizes)], narrowed := true }
def FnVLBackUptoSaid : Prop := fnVLBackUptoRow.holds Tryd.pinned (OpenSpec.upto fnVLBackSpec)

/-- 'laws.FnVLOrder', WHERE WHAT IT READS IS OF BULK AT MOST 1048576: true; the input reads as it did. -/
def fnVLOrderUptoRow : OpenClaim := { program := "ytbcclblocagneaadoor", sum := "c9bee29787945c55d8be9d10d156dec4b5bf2f38d22839e94771030eb911ea32", func := "given.example/pub-abaculus/laws.FnVLOrder", spec := "fnVLOrder", inPlace := ["math.Float32frombits", "math.Float32bits", "math.Float64frombits", "math.Float64bits", "internal/bytealg.Compare"], named := ["given.example/pub-abaculus/impl.sizes", "encoding/binary.LittleEndian", "given.example/pub-abaculus/impl.encodings"], apart := false, laid := [("given.example/pub-abaculus/impl.sizes", laid_given_example_pub_abaculus_impl_sizes), ("given.example/pub-abaculus/impl.encodings", laid_given_example_pub_abaculus_impl_encodings)], narrowed := true }
def FnVLOrderUptoSaid : Prop := fnVLOrderUptoRow.holds Tryd.pinned (OpenSpec.upto fnVLOrderSpec)

/-- 'laws.FnLKEscaped', WHERE WHAT IT READS IS OF BULK AT MOST 1048576: true; the input reads as it did. -/
def fnLKEscapedUptoRow : OpenClaim := { program := "ytbcclblocagneaadoor", sum := "c9bee29787945c55d8be9d10d156dec4b5bf2f38d22839e94771030eb911ea32", func := "given.example/pub-abaculus/laws.FnLKEscaped", spec := "fnLKEscaped", unfollowed := true, recurses := true, named := ["unicode/utf8.first", "unicode/utf8.acceptRanges"], apart := false, laid := [("unicode/utf8.acceptRanges", laid_unicode_utf8_acceptRanges), ("unicode/utf8.first", laid_unicode_utf8_first)], narrowed := true }
def FnLKEscapedUptoSaid : Prop := fnLKEscapedUptoRow.holds Tryd.pinned (OpenSpec.upto fnLKEscapedSpec)

end Rows
end Go.Proofs.YtbcclblocagneaaDoor

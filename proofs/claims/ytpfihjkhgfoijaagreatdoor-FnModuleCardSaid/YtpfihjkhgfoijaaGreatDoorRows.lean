/-
  NARROWER THAN 'FOR EVERY INPUT', by the rows' own cells (each row's printed sentence says how): FnModule: loops, laid.
  DERIVED. THE GIVEN ROWS OF THIS SEAT. 1 by the template 'for every input the law returns true; each argument reads behind the call as it read before'; 0 by the template 'total and deterministic' (their statements: YtpfihjkhgfoijaaGreatDoorTotals.lean).
  GIVEN WITH THE SEED: the statements are not yours to turn. If you find one false, say at which input.
  Laid BY PROGRAM, IN A SANDBOX (cutbox-rows.mjs): the forced cells as the released guide's own fill.sh prints them over the translation 31dae8b247f52eb5… (all of the seat's roots in one cut). By AI agents, Wed Nov 11 2026. No macro, syntax, notation, axiom, sorry.
-/
import Derived.Test.YtpfihjkhgfoijaaGreatDoorChecked
import GoSem.PinnedTables
import GoSem.Claim
import GoSem.ClaimJoined
import GoSem.ClaimMapViews
import Derived.JoinedTies
import Derived.KernelRfl
namespace Go.Proofs.YtpfihjkhgfoijaaGreatDoor
/- THE CELL 'sum', in the pinned program and in every row, IS THE sha256 OF THE DUMP (.gsa) THAT YtpfihjkhgfoijaaGreatDoorProg.lean LOADS. Nothing in Lean hashes anything: it is a label: what it is worth is what the hold of that sum in a sandbox is worth. -/
noncomputable def Tryz.pinned : Pinned := { name := "ytpfihjkhgfoijaagreatdoor", sum := "31dae8b247f52eb5022122379c1c1756771ede653a08c33c6c5bef7a11c7c3d5", checked := Tryz.checked }
namespace Rows
def none {H : Type} : Left H := { results := [], args := [] }

/- WHAT THE LISTED PACKAGE-LEVEL VARIABLES READ AS WHEN THE CALL BEGINS. Each datum BY PROGRAM (the guide's laid-datum.mjs) off the statement by which the dump's own 'gosem.cut.vars' lays the variable. In a bare row this is a premise. The card (YtpfihjkhgfoijaaGreatDoorCards.lean) ties it to the program's text. -/
def laid_unicode_utf8_acceptRanges {H : Type} : DataW H := .agg [.agg [.lit (.int .u8 128), .lit (.int .u8 191)], .agg [.lit (.int .u8 160), .lit (.int .u8 191)], .agg [.lit (.int .u8 128), .lit (.int .u8 159)], .agg [.lit (.int .u8 144), .lit (.int .u8 191)], .agg [.lit (.int .u8 128), .lit (.int .u8 143)], .agg [.lit (.int .u8 0), .lit (.int .u8 0)], .agg [.lit (.int .u8 0), .lit (.int .u8 0)], .agg [.lit (.int .u8 0), .lit (.int .u8 0)], .agg [.lit (.int .u8 0), .lit (.int .u8 0)], .agg [.lit (.int .u8 0), .lit (.int .u8 0)], .agg [.lit (.int .u8 0), .lit (.int .u8 0)], .agg [.lit (.int .u8 0), .lit (.int .u8 0)], .agg [.lit (.int .u8 0), .lit (.int .u8 0)], .agg [.lit (.int .u8 0), .lit (.int .u8 0)], .agg [.lit (.int .u8 0), .lit (.int .u8 0)], .agg [.lit (.int .u8 0), .lit (.int .u8 0)]]
def laid_given_example_pub_fusee_pub_bigall_divRecursiveThreshold {H : Type} : DataW H := .lit (.int .i64 40)
def laid_given_example_pub_fusee_pub_bigall_karatsubaThreshold {H : Type} : DataW H := .lit (.int .i64 40)
def laid_given_example_pub_fusee_pub_bigall_basicSqrThreshold {H : Type} : DataW H := .lit (.int .i64 12)
def laid_given_example_pub_fusee_pub_bigall_karatsubaSqrThreshold {H : Type} : DataW H := .lit (.int .i64 80)
def laid_given_example_pub_fusee_pub_starlark_starlark_CompareLimit {H : Type} : DataW H := .lit (.int .i64 10)
/-- One of Go's own tables, pinned by name: the form's constant. -/
def laid_strconv_isGraphic : DataW Unit := Go.Pinned.isGraphic
/-- One of Go's own tables, pinned by name: the form's constant. -/
def laid_strconv_isNotPrint16 : DataW Unit := Go.Pinned.isNotPrint16
/-- One of Go's own tables, pinned by name: the form's constant. -/
def laid_strconv_isNotPrint32 : DataW Unit := Go.Pinned.isNotPrint32
/-- One of Go's own tables, pinned by name: the form's constant. -/
def laid_strconv_isPrint16 : DataW Unit := Go.Pinned.isPrint16
/-- One of Go's own tables, pinned by name: the form's constant. -/
def laid_strconv_isPrint32 : DataW Unit := Go.Pinned.isPrint32
/-- One of Go's own tables, pinned by name: the form's constant. -/
def laid_unicode_utf8_first : DataW Unit := Go.Pinned.utf8First

/-- 'laws.FnModule': WHATEVER THE INPUT: true; the input reads as it did. -/
def fnModuleSpec : ChangeSpec := { name := "fnModule", vars := ["given.example/pub-fusee/pub/starlark/starlark.CompareLimit", "given.example/pub-fusee/pub/bigall.divRecursiveThreshold", "given.example/pub-fusee/pub/bigall.karatsubaThreshold", "given.example/pub-fusee/pub/bigall.basicSqrThreshold", "given.example/pub-fusee/pub/bigall.karatsubaSqrThreshold"], fn := fun _ => fun
  | [d1, d2, g1, g2, g3, g4, g5] => { results := [.lit (.bool true)], args := [d1, d2], vars := [g1, g2, g3, g4, g5] }
  | _ => none }
def fnModuleRow : OpenClaim := { program := "ytpfihjkhgfoijaagreatdoor", sum := "31dae8b247f52eb5022122379c1c1756771ede653a08c33c6c5bef7a11c7c3d5", func := "given.example/pub-fusee/laws.FnModule", spec := "fnModule", inPlace := ["math.Float64frombits", "math.Float64bits", "internal/reflectlite.ValueOf", "internal/reflectlite.Swapper", "(internal/reflectlite.Value).Len", "math/bits.Add64", "math/bits.Sub64"], unfollowed := true, recurses := true, named := ["given.example/pub-fusee/pub/starlark/starlark.CompareLimit", "given.example/pub-fusee/pub/bigall.divRecursiveThreshold", "given.example/pub-fusee/pub/bigall.karatsubaThreshold", "given.example/pub-fusee/pub/bigall.basicSqrThreshold", "given.example/pub-fusee/pub/bigall.karatsubaSqrThreshold", "unicode/utf8.first", "unicode/utf8.acceptRanges", "strconv.isPrint16", "strconv.isNotPrint16", "strconv.isPrint32", "strconv.isNotPrint32", "strconv.isGraphic"], loops := true, apart := false, laid := [("unicode/utf8.acceptRanges", laid_unicode_utf8_acceptRanges), ("given.example/pub-fusee/pub/bigall.divRecursiveThreshold", laid_given_example_pub_fusee_pub_bigall_divRecursiveThreshold), ("given.example/pub-fusee/pub/bigall.karatsubaThreshold", laid_given_example_pub_fusee_pub_bigall_karatsubaThreshold), ("given.example/pub-fusee/pub/bigall.basicSqrThreshold", laid_given_example_pub_fusee_pub_bigall_basicSqrThreshold), ("given.example/pub-fusee/pub/bigall.karatsubaSqrThreshold", laid_given_example_pub_fusee_pub_bigall_karatsubaSqrThreshold), ("given.example/pub-fusee/pub/starlark/starlark.CompareLimit", laid_given_example_pub_fusee_pub_starlark_starlark_CompareLimit), ("strconv.isGraphic", laid_strconv_isGraphic), ("strconv.isNotPrint16", laid_strconv_isNotPrint16), ("strconv.isNotPrint32", laid_strconv_isNotPrint32), ("strconv.isPrint16", laid_strconv_isPrint16), ("strconv.isPrint32", laid_strconv_isPrint32), ("unicode/utf8.first", laid_unicode_utf8_first)] }
def FnModuleSaid : Prop := fnModuleRow.holds Tryz.pinned (OpenSpec.ofChange fnModuleSpec)

/-- ITS FALSE NEIGHBOUR: 'it returns false'. Refute it at one input. -/
def fnModuleWrong : ChangeSpec := { name := "fnModule", vars := ["given.example/pub-fusee/pub/starlark/starlark.CompareLimit", "given.example/pub-fusee/pub/bigall.divRecursiveThreshold", "given.example/pub-fusee/pub/bigall.karatsubaThreshold", "given.example/pub-fusee/pub/bigall.basicSqrThreshold", "given.example/pub-fusee/pub/bigall.karatsubaSqrThreshold"], fn := fun _ => fun
  | [d1, d2, g1, g2, g3, g4, g5] => { results := [.lit (.bool false)], args := [d1, d2], vars := [g1, g2, g3, g4, g5] }
  | _ => none }
def FnModuleWrongFalsely : Prop := fnModuleRow.holds Tryz.pinned (OpenSpec.ofChange fnModuleWrong)

/- THE SECOND FORM. 'bulk': how many values and letters a reading holds, each counted each time it is reached (what is shared counts as often as it is met; a slice's spare places count too). A statement '..UptoSaid' is the law's where the arguments, and the package variables that the reading takes, are together of bulk at most 1048576: NARROWER than '..Said'. Prove '..Said' where nothing that the law and all that it calls make is longer than what came in: it says more and counts as full. Else prove '..UptoSaid'. A law counts once. -/
mutual
def uptoBulk {H : Type} : DataW H → Nat
  | .lit (.string bytes) => bytes.length + 1
  | .lit _ => 1
  | .nil => 1
  | .ptr d => uptoBulk d + 1
  | .slice elems spare => uptoBulkAll elems + uptoBulkAll spare + 1
  | .agg parts => uptoBulkAll parts + 1
  | .iface _ d => uptoBulk d + 1
  | .map entries => uptoBulkEntries entries + 1
  | .held _ => 1
def uptoBulkAll {H : Type} : List (DataW H) → Nat
  | [] => 0
  | d :: r => uptoBulk d + uptoBulkAll r
def uptoBulkEntries {H : Type} : List (Lit × DataW H) → Nat
  | [] => 0
  | x :: r => uptoBulkEntry x + uptoBulkEntries r
def uptoBulkEntry {H : Type} : Lit × DataW H → Nat
  | (.string bytes, d) => bytes.length + uptoBulk d + 1
  | (_, d) => uptoBulk d + 1
 end
def uptoSmall : (H : Type) → List (DataW H) → Bool := fun _ ds => decide (uptoBulkAll ds ≤ 1048576)
def OpenSpec.upto (s : _root_.Go.ChangeSpec) : _root_.Go.OpenSpec := { _root_.Go.OpenSpec.ofChange s with cond := some uptoSmall }

/-- 'laws.FnModule', WHERE WHAT IT READS IS OF BULK AT MOST 1048576: true; the input reads as it did. -/
def fnModuleUptoRow : OpenClaim := { program := "ytpfihjkhgfoijaagreatdoor", sum := "31dae8b247f52eb5022122379c1c1756771ede653a08c33c6c5bef7a11c7c3d5", func := "given.example/pub-fusee/laws.FnModule", spec := "fnModule", inPlace := ["math.Float64frombits", "math.Float64bits", "internal/reflectlite.ValueOf", "internal/reflectlite.Swapper", "(internal/reflectlite.Value).Len", "math/bits.Add64", "math/bits.Sub64"], unfollowed := true, recurses := true, named := ["given.example/pub-fusee/pub/starlark/starlark.CompareLimit", "given.example/pub-fusee/pub/bigall.divRecursiveThreshold", "given.example/pub-fusee/pub/bigall.karatsubaThreshold", "given.example/pub-fusee/pub/bigall.basicSqrThreshold", "given.example/pub-fusee/pub/bigall.karatsubaSqrThreshold", "unicode/utf8.first", "unicode/utf8.acceptRanges", "strconv.isPrint16", "strconv.isNotPrint16", "strconv.isPrint32", "strconv.isNotPrint32", "strconv.isGraphic"], loops := true, apart := false, laid := [("unicode/utf8.acceptRanges", laid_unicode_utf8_acceptRanges), ("given.example/pub-fusee/pub/bigall.divRecursiveThreshold", laid_given_example_pub_fusee_pub_bigall_divRecursiveThreshold), ("given.example/pub-fusee/pub/bigall.karatsubaThreshold", laid_given_example_pub_fusee_pub_bigall_karatsubaThreshold), ("given.example/pub-fusee/pub/bigall.basicSqrThreshold", laid_given_example_pub_fusee_pub_bigall_basicSqrThreshold), ("given.example/pub-fusee/pub/bigall.karatsubaSqrThreshold", laid_given_example_pub_fusee_pub_bigall_karatsubaSqrThreshold), ("given.example/pub-fusee/pub/starlark/starlark.CompareLimit", laid_given_example_pub_fusee_pub_starlark_starlark_CompareLimit), ("strconv.isGraphic", laid_strconv_isGraphic), ("strconv.isNotPrint16", laid_strconv_isNotPrint16), ("strconv.isNotPrint32", laid_strconv_isNotPrint32), ("strconv.isPrint16", laid_strconv_isPrint16), ("strconv.isPrint32", laid_strconv_isPrint32), ("unicode/utf8.first", laid_unicode_utf8_first)], narrowed := true }
def FnModuleUptoSaid : Prop := fnModuleUptoRow.holds Tryz.pinned (OpenSpec.upto fnModuleSpec)

end Rows
end Go.Proofs.YtpfihjkhgfoijaaGreatDoor

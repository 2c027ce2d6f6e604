/-
  NARROWER THAN 'FOR EVERY INPUT', by the rows' own cells (each row's printed sentence says how): FnUnpackedBatch: laid.
  DERIVED. THE GIVEN ROWS OF THIS SEAT. 1 by the template 'for every input the law returns true; each argument reads behind the call as it read before'; 0 by the template 'total and deterministic' (their statements: YtajgdpiodpoooaaGreatDoorTotals.lean).
  GIVEN WITH THE SEED: the statements are not yours to turn. If you find one false, say at which input.
  Laid BY PROGRAM, IN A SANDBOX (cutbox-rows.mjs): the forced cells as the released guide's own fill.sh prints them over the translation 07cd18cdf72a87fd… (all of the seat's roots in one cut). By AI agents, Wed Nov 11 2026. No macro, syntax, notation, axiom, sorry.
-/
import Derived.Test.YtajgdpiodpoooaaGreatDoorChecked
import GoSem.Claim
import GoSem.ClaimJoined
import GoSem.ClaimMapViews
import Derived.JoinedTies
import Derived.KernelRfl
namespace Go.Proofs.YtajgdpiodpoooaaGreatDoor
/- THE CELL 'sum', in the pinned program and in every row, IS THE sha256 OF THE DUMP (.gsa) THAT YtajgdpiodpoooaaGreatDoorProg.lean LOADS. Nothing in Lean hashes anything: it is a label: what it is worth is what the hold of that sum in a sandbox is worth. -/
noncomputable def Tryz.pinned : Pinned := { name := "ytajgdpiodpoooaagreatdoor", sum := "07cd18cdf72a87fdf6dea63802a56cd9125a4ca8c5d9b48493f17678d12bcdc5", checked := Tryz.checked }
namespace Rows
def none {H : Type} : Left H := { results := [], args := [] }

/- WHAT THE LISTED PACKAGE-LEVEL VARIABLES READ AS WHEN THE CALL BEGINS. Each datum BY PROGRAM (the guide's laid-datum.mjs) off the statement by which the dump's own 'gosem.cut.vars' lays the variable. In a bare row this is a premise. The card (YtajgdpiodpoooaaGreatDoorCards.lean) ties it to the program's text. -/
def laid_io_ErrShortBuffer {H : Type} : DataW H := .iface "*errors.errorString" (.ptr (.agg [.lit (.string [115, 104, 111, 114, 116, 32, 98, 117, 102, 102, 101, 114])]))
def laid_io_EOF {H : Type} : DataW H := .iface "*errors.errorString" (.ptr (.agg [.lit (.string [69, 79, 70])]))
def laid_io_ErrUnexpectedEOF {H : Type} : DataW H := .iface "*errors.errorString" (.ptr (.agg [.lit (.string [117, 110, 101, 120, 112, 101, 99, 116, 101, 100, 32, 69, 79, 70])]))
def laid_io_ErrNoProgress {H : Type} : DataW H := .iface "*errors.errorString" (.ptr (.agg [.lit (.string [109, 117, 108, 116, 105, 112, 108, 101, 32, 82, 101, 97, 100, 32, 99, 97, 108, 108, 115, 32, 114, 101, 116, 117, 114, 110, 32, 110, 111, 32, 100, 97, 116, 97, 32, 111, 114, 32, 101, 114, 114, 111, 114])]))
def laid_given_example_pub_arrowroot_pub_arrow_arrow_bitutil_BitMask {H : Type} : DataW H := .agg [.lit (.int .u8 1), .lit (.int .u8 2), .lit (.int .u8 4), .lit (.int .u8 8), .lit (.int .u8 16), .lit (.int .u8 32), .lit (.int .u8 64), .lit (.int .u8 128)]
def laid_given_example_pub_arrowroot_pub_arrow_arrow_bitutil_FlippedBitMask {H : Type} : DataW H := .agg [.lit (.int .u8 254), .lit (.int .u8 253), .lit (.int .u8 251), .lit (.int .u8 247), .lit (.int .u8 239), .lit (.int .u8 223), .lit (.int .u8 191), .lit (.int .u8 127)]

/-- 'laws.FnUnpackedBatch': WHATEVER THE INPUT: true; the input reads as it did. -/
def fnUnpackedBatchSpec : ChangeSpec := { name := "fnUnpackedBatch", vars := ["given.example/pub-arrowroot/pub/arrow/arrow/bitutil.BitMask", "given.example/pub-arrowroot/pub/arrow/arrow/bitutil.FlippedBitMask"], fn := fun _ => fun
  | [d1, d2, d3, d4, g1, g2] => { results := [.lit (.bool true)], args := [d1, d2, d3, d4], vars := [g1, g2] }
  | _ => none }
def fnUnpackedBatchRow : OpenClaim := { program := "ytajgdpiodpoooaagreatdoor", sum := "07cd18cdf72a87fdf6dea63802a56cd9125a4ca8c5d9b48493f17678d12bcdc5", func := "given.example/pub-arrowroot/laws.FnUnpackedBatch", spec := "fnUnpackedBatch", unfollowed := true, recurses := true, named := ["io.ErrUnexpectedEOF", "io.EOF", "encoding/binary.LittleEndian", "io.ErrShortBuffer", "io.ErrNoProgress", "given.example/pub-arrowroot/pub/arrow/arrow/bitutil.BitMask", "given.example/pub-arrowroot/pub/arrow/arrow/bitutil.FlippedBitMask"], apart := false, laid := [("io.ErrShortBuffer", laid_io_ErrShortBuffer), ("io.EOF", laid_io_EOF), ("io.ErrUnexpectedEOF", laid_io_ErrUnexpectedEOF), ("io.ErrNoProgress", laid_io_ErrNoProgress), ("given.example/pub-arrowroot/pub/arrow/arrow/bitutil.BitMask", laid_given_example_pub_arrowroot_pub_arrow_arrow_bitutil_BitMask), ("given.example/pub-arrowroot/pub/arrow/arrow/bitutil.FlippedBitMask", laid_given_example_pub_arrowroot_pub_arrow_arrow_bitutil_FlippedBitMask)] }
def FnUnpackedBatchSaid : Prop := fnUnpackedBatchRow.holds Tryz.pinned (OpenSpec.ofChange fnUnpackedBatchSpec)

/-- ITS FALSE NEIGHBOUR: 'it returns false'. Refute it at one input. -/
def fnUnpackedBatchWrong : ChangeSpec := { name := "fnUnpackedBatch", vars := ["given.example/pub-arrowroot/pub/arrow/arrow/bitutil.BitMask", "given.example/pub-arrowroot/pub/arrow/arrow/bitutil.FlippedBitMask"], fn := fun _ => fun
  | [d1, d2, d3, d4, g1, g2] => { results := [.lit (.bool false)], args := [d1, d2, d3, d4], vars := [g1, g2] }
  | _ => none }
def FnUnpackedBatchWrongFalsely : Prop := fnUnpackedBatchRow.holds Tryz.pinned (OpenSpec.ofChange fnUnpackedBatchWrong)

/- THE SECOND FORM. 'bulk': how many values and letters a reading holds, each counted each time it is reached (what is shared counts as often as it is met; a slice's spare places count too). A statement '..UptoSaid' is the law's where the arguments, and the package variables that the reading takes, are together of bulk at most 1048576: NARROWER than '..Said'. Prove '..Said' where nothing that the law and all that it calls make is longer than what came in: it says more and counts as full. Else prove '..UptoSaid'. A law counts once. -/
mutual
def uptoBulk {H : Type} : DataW H → Nat
  | .lit (.string bytes) => bytes.length + 1
  | .lit _ => 1
  | .nil => 1
  | .ptr d => uptoBulk d + 1
  | .slice elems spare => uptoBulkAll elems + uptoBulkAll spare + 1
  | .agg parts => uptoBulkAll parts + 1
  | .iface _ d => uptoBulk d + 1
  | .map entries => uptoBulkEntries entries + 1
  | .held _ => 1
def uptoBulkAll {H : Type} : List (DataW H) → Nat
  | [] => 0
  | d :: r => uptoBulk d + uptoBulkAll r
def uptoBulkEntries {H : Type} : List (Lit × DataW H) → Nat
  | [] => 0
  | x :: r => uptoBulkEntry x + uptoBulkEntries r
def uptoBulkEntry {H : Type} : Lit × DataW H → Nat
  | (.string bytes, d) => bytes.length + uptoBulk d + 1
  | (_, d) => uptoBulk d + 1
 end
def uptoSmall : (H : Type) → List (DataW H) → Bool := fun _ ds => decide (uptoBulkAll ds ≤ 1048576)
def OpenSpec.upto (s : _root_.Go.ChangeSpec) : _root_.Go.OpenSpec := { _root_.Go.OpenSpec.ofChange s with cond := some uptoSmall }

/-- 'laws.FnUnpackedBatch', WHERE WHAT IT READS IS OF BULK AT MOST 1048576: true; the input reads as it did. -/
def fnUnpackedBatchUptoRow : OpenClaim := { program := "ytajgdpiodpoooaagreatdoor", sum := "07cd18cdf72a87fdf6dea63802a56cd9125a4ca8c5d9b48493f17678d12bcdc5", func := "given.example/pub-arrowroot/laws.FnUnpackedBatch", spec := "fnUnpackedBatch", unfollowed := true, recurses := true, named := ["io.ErrUnexpectedEOF", "io.EOF", "encoding/binary.LittleEndian", "io.ErrShortBuffer", "io.ErrNoProgress", "given.example/pub-arrowroot/pub/arrow/arrow/bitutil.BitMask", "given.example/pub-arrowroot/pub/arrow/arrow/bitutil.FlippedBitMask"], apart := false, laid := [("io.ErrShortBuffer", laid_io_ErrShortBuffer), ("io.EOF", laid_io_EOF), ("io.ErrUnexpectedEOF", laid_io_ErrUnexpectedEOF), ("io.ErrNoProgress", laid_io_ErrNoProgress), ("given.example/pub-arrowroot/pub/arrow/arrow/bitutil.BitMask", laid_given_example_pub_arrowroot_pub_arrow_arrow_bitutil_BitMask), ("given.example/pub-arrowroot/pub/arrow/arrow/bitutil.FlippedBitMask", laid_given_example_pub_arrowroot_pub_arrow_arrow_bitutil_FlippedBitMask)], narrowed := true }
def FnUnpackedBatchUptoSaid : Prop := fnUnpackedBatchUptoRow.holds Tryz.pinned (OpenSpec.upto fnUnpackedBatchSpec)

end Rows
end Go.Proofs.YtajgdpiodpoooaaGreatDoor

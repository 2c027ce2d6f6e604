/-
  NARROWER THAN 'FOR EVERY INPUT', by the rows' own cells (each row's printed sentence says how): FnDictionaryInt64Read: loops, laid.
  DERIVED. THE GIVEN ROWS OF THIS SEAT. 1 by the template 'for every input the law returns true; each argument reads behind the call as it read before'; 0 by the template 'total and deterministic' (their statements: YthmknddfkmklfaaGreatDoorTotals.lean).
  GIVEN WITH THE SEED: the statements are not yours to turn. If you find one false, say at which input.
  Laid BY PROGRAM, IN A SANDBOX (cutbox-rows.mjs): the forced cells as the released guide's own fill.sh prints them over the translation 2b0a8383edcca6bf… (all of the seat's roots in one cut). By AI agents, Wed Nov 11 2026. No macro, syntax, notation, axiom, sorry.
-/
import Derived.Test.YthmknddfkmklfaaGreatDoorChecked
import GoSem.Claim
import GoSem.ClaimJoined
import GoSem.ClaimMapViews
import Derived.JoinedTies
import Derived.KernelRfl
namespace Go.Proofs.YthmknddfkmklfaaGreatDoor
/- THE CELL 'sum', in the pinned program and in every row, IS THE sha256 OF THE DUMP (.gsa) THAT YthmknddfkmklfaaGreatDoorProg.lean LOADS. Nothing in Lean hashes anything: it is a label: what it is worth is what the hold of that sum in a sandbox is worth. -/
noncomputable def Tryz.pinned : Pinned := { name := "ythmknddfkmklfaagreatdoor", sum := "2b0a8383edcca6bf549d1442df3083e98daf73c42d565746a82e92b823d621f8", checked := Tryz.checked }
namespace Rows
def none {H : Type} : Left H := { results := [], args := [] }

/- WHAT THE LISTED PACKAGE-LEVEL VARIABLES READ AS WHEN THE CALL BEGINS. Each datum BY PROGRAM (the guide's laid-datum.mjs) off the statement by which the dump's own 'gosem.cut.vars' lays the variable. In a bare row this is a premise. The card (YthmknddfkmklfaaGreatDoorCards.lean) ties it to the program's text. -/
def laid_io_ErrShortBuffer {H : Type} : DataW H := .iface "*errors.errorString" (.ptr (.agg [.lit (.string [115, 104, 111, 114, 116, 32, 98, 117, 102, 102, 101, 114])]))
def laid_io_EOF {H : Type} : DataW H := .iface "*errors.errorString" (.ptr (.agg [.lit (.string [69, 79, 70])]))
def laid_io_ErrUnexpectedEOF {H : Type} : DataW H := .iface "*errors.errorString" (.ptr (.agg [.lit (.string [117, 110, 101, 120, 112, 101, 99, 116, 101, 100, 32, 69, 79, 70])]))
def laid_encoding_binary_errOverflow {H : Type} : DataW H := .iface "*errors.errorString" (.ptr (.agg [.lit (.string [98, 105, 110, 97, 114, 121, 58, 32, 118, 97, 114, 105, 110, 116, 32, 111, 118, 101, 114, 102, 108, 111, 119, 115, 32, 97, 32, 54, 52, 45, 98, 105, 116, 32, 105, 110, 116, 101, 103, 101, 114])]))

/-- 'laws.FnDictionaryInt64Read': WHATEVER THE INPUT: true; the input reads as it did. -/
def fnDictionaryInt64ReadSpec : ChangeSpec := { name := "fnDictionaryInt64Read", fn := fun _ => fun
  | [d1, d2, d3, d4] => { results := [.lit (.bool true)], args := [d1, d2, d3, d4] }
  | _ => none }
def fnDictionaryInt64ReadRow : OpenClaim := { program := "ythmknddfkmklfaagreatdoor", sum := "2b0a8383edcca6bf549d1442df3083e98daf73c42d565746a82e92b823d621f8", func := "given.example/pub-arrowroot/laws.FnDictionaryInt64Read", spec := "fnDictionaryInt64Read", inPlace := ["math.Float64bits", "math.Float64frombits", "math.Float32frombits"], unfollowed := true, recurses := true, named := ["io.ErrUnexpectedEOF", "io.EOF", "encoding/binary.LittleEndian", "io.ErrShortBuffer", "encoding/binary.errOverflow"], loops := true, apart := false, laid := [("io.ErrShortBuffer", laid_io_ErrShortBuffer), ("io.EOF", laid_io_EOF), ("io.ErrUnexpectedEOF", laid_io_ErrUnexpectedEOF), ("encoding/binary.errOverflow", laid_encoding_binary_errOverflow)] }
def FnDictionaryInt64ReadSaid : Prop := fnDictionaryInt64ReadRow.holds Tryz.pinned (OpenSpec.ofChange fnDictionaryInt64ReadSpec)

/-- ITS FALSE NEIGHBOUR: 'it returns false'. Refute it at one input. -/
def fnDictionaryInt64ReadWrong : ChangeSpec := { name := "fnDictionaryInt64Read", fn := fun _ => fun
  | [d1, d2, d3, d4] => { results := [.lit (.bool false)], args := [d1, d2, d3, d4] }
  | _ => none }
def FnDictionaryInt64ReadWrongFalsely : Prop := fnDictionaryInt64ReadRow.holds Tryz.pinned (OpenSpec.ofChange fnDictionaryInt64ReadWrong)

/- THE SECOND FORM. 'bulk': how many values and letters a reading holds, each counted each time it is reached (what is shared counts as often as it is met; a slice's spare places count too). A statement '..UptoSaid' is the law's where the arguments, and the package variables that the reading takes, are together of bulk at most 1048576: NARROWER than '..Said'. Prove '..Said' where nothing that the law and all that it calls make is longer than what came in: it says more and counts as full. Else prove '..UptoSaid'. A law counts once. -/
mutual
def uptoBulk {H : Type} : DataW H → Nat
  | .lit (.string bytes) => bytes.length + 1
  | .lit _ => 1
  | .nil => 1
  | .ptr d => uptoBulk d + 1
  | .slice elems spare => uptoBulkAll elems + uptoBulkAll spare + 1
  | .agg parts => uptoBulkAll parts + 1
  | .iface _ d => uptoBulk d + 1
  | .map entries => uptoBulkEntries entries + 1
  | .held _ => 1
def uptoBulkAll {H : Type} : List (DataW H) → Nat
  | [] => 0
  | d :: r => uptoBulk d + uptoBulkAll r
def uptoBulkEntries {H : Type} : List (Lit × DataW H) → Nat
  | [] => 0
  | x :: r => uptoBulkEntry x + uptoBulkEntries r
def uptoBulkEntry {H : Type} : Lit × DataW H → Nat
  | (.string bytes, d) => bytes.length + uptoBulk d + 1
  | (_, d) => uptoBulk d + 1
 end
def uptoSmall : (H : Type) → List (DataW H) → Bool := fun _ ds => decide (uptoBulkAll ds ≤ 1048576)
def OpenSpec.upto (s : _root_.Go.ChangeSpec) : _root_.Go.OpenSpec := { _root_.Go.OpenSpec.ofChange s with cond := some uptoSmall }

/-- 'laws.FnDictionaryInt64Read', WHERE WHAT IT READS IS OF BULK AT MOST 1048576: true; the input reads as it did. -/
def fnDictionaryInt64ReadUptoRow : OpenClaim := { program := "ythmknddfkmklfaagreatdoor", sum := "2b0a8383edcca6bf549d1442df3083e98daf73c42d565746a82e92b823d621f8", func := "given.example/pub-arrowroot/laws.FnDictionaryInt64Read", spec := "fnDictionaryInt64Read", inPlace := ["math.Float64bits", "math.Float64frombits", "math.Float32frombits"], unfollowed := true, recurses := true, named := ["io.ErrUnexpectedEOF", "io.EOF", "encoding/binary.LittleEndian", "io.ErrShortBuffer", "encoding/binary.errOverflow"], loops := true, apart := false, laid := [("io.ErrShortBuffer", laid_io_ErrShortBuffer), ("io.EOF", laid_io_EOF), ("io.ErrUnexpectedEOF", laid_io_ErrUnexpectedEOF), ("encoding/binary.errOverflow", laid_encoding_binary_errOverflow)], narrowed := true }
def FnDictionaryInt64ReadUptoSaid : Prop := fnDictionaryInt64ReadUptoRow.holds Tryz.pinned (OpenSpec.upto fnDictionaryInt64ReadSpec)

end Rows
end Go.Proofs.YthmknddfkmklfaaGreatDoor

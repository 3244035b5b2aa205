/-
  NARROWER THAN 'FOR EVERY INPUT', by the rows' own cells (each row's printed sentence says how): FnHeaderTakesItsBytes: laid · FnHeaderAsTold: laid · FnMadeHeaderIsRead: laid · FnSizesDontMatter: laid · FnPiecesDontMatter: laid · FnReaderResetIsNew: laid.
  DERIVED. THE GIVEN ROWS OF THIS SEAT. 6 by the template 'for every input the law returns true; each argument reads behind the call as it read before'; 0 by the template 'total and deterministic' (their statements: YtbjbmpcgiokdaaaDoorTotals.lean).
  GIVEN WITH THE SEED: the statements are not yours to turn. If you find one false, say at which input.
  Laid BY PROGRAM, IN A SANDBOX (cutbox-rows.mjs): the forced cells as the released guide's own fill.sh prints them over the translation 41cf0d74f8b76b00… (all of the seat's roots in one cut). By AI agents, Wed Nov 11 2026. No macro, syntax, notation, axiom, sorry.
-/
import Derived.Test.YtbjbmpcgiokdaaaDoorChecked
import GoSem.Claim
import GoSem.ClaimJoined
import GoSem.ClaimMapViews
import Derived.JoinedTies
import Derived.KernelRfl
namespace Go.Proofs.YtbjbmpcgiokdaaaDoor
/- THE CELL 'sum', in the pinned program and in every row, IS THE sha256 OF THE DUMP (.gsa) THAT YtbjbmpcgiokdaaaDoorProg.lean LOADS. Nothing in Lean hashes anything: it is a label: what it is worth is what the hold of that sum in a sandbox is worth. -/
noncomputable def Tryd.pinned : Pinned := { name := "ytbjbmpcgiokdaaadoor", sum := "41cf0d74f8b76b00b6fca9a51fd1c16fa46f5190b79c32021e240a6a3e63a97c", checked := Tryd.checked }
namespace Rows
def none {H : Type} : Left H := { results := [], args := [] }

/- WHAT THE LISTED PACKAGE-LEVEL VARIABLES READ AS WHEN THE CALL BEGINS. Each datum BY PROGRAM (the guide's laid-datum.mjs) off the statement by which the dump's own 'gosem.cut.vars' lays the variable. In a bare row this is a premise. The card (YtbjbmpcgiokdaaaDoorCards.lean) ties it to the program's text. -/
def laid_io_ErrShortBuffer {H : Type} : DataW H := .iface "*errors.errorString" (.ptr (.agg [.lit (.string [115, 104, 111, 114, 116, 32, 98, 117, 102, 102, 101, 114])]))
def laid_io_EOF {H : Type} : DataW H := .iface "*errors.errorString" (.ptr (.agg [.lit (.string [69, 79, 70])]))
def laid_io_ErrUnexpectedEOF {H : Type} : DataW H := .iface "*errors.errorString" (.ptr (.agg [.lit (.string [117, 110, 101, 120, 112, 101, 99, 116, 101, 100, 32, 69, 79, 70])]))
def laid_gzipfiles_pub_flate_codeOrder {H : Type} : DataW H := .agg [.lit (.int .i64 16), .lit (.int .i64 17), .lit (.int .i64 18), .lit (.int .i64 0), .lit (.int .i64 8), .lit (.int .i64 7), .lit (.int .i64 9), .lit (.int .i64 6), .lit (.int .i64 10), .lit (.int .i64 5), .lit (.int .i64 11), .lit (.int .i64 4), .lit (.int .i64 12), .lit (.int .i64 3), .lit (.int .i64 13), .lit (.int .i64 2), .lit (.int .i64 14), .lit (.int .i64 1), .lit (.int .i64 15)]
def laid_gzipfiles_pub_gogzip_ErrChecksum {H : Type} : DataW H := .iface "*errors.errorString" (.ptr (.agg [.lit (.string [103, 122, 105, 112, 58, 32, 105, 110, 118, 97, 108, 105, 100, 32, 99, 104, 101, 99, 107, 115, 117, 109])]))
def laid_gzipfiles_pub_gogzip_ErrHeader {H : Type} : DataW H := .iface "*errors.errorString" (.ptr (.agg [.lit (.string [103, 122, 105, 112, 58, 32, 105, 110, 118, 97, 108, 105, 100, 32, 104, 101, 97, 100, 101, 114])]))

/-- 'laws.FnHeaderTakesItsBytes': WHATEVER THE INPUT: true; the input reads as it did. -/
def fnHeaderTakesItsBytesSpec : ChangeSpec := { name := "fnHeaderTakesItsBytes", fn := fun _ => fun
  | [d] => { results := [.lit (.bool true)], args := [d] }
  | _ => none }
def fnHeaderTakesItsBytesRow : OpenClaim := { program := "ytbjbmpcgiokdaaadoor", sum := "41cf0d74f8b76b00b6fca9a51fd1c16fa46f5190b79c32021e240a6a3e63a97c", func := "gzipfiles/laws.FnHeaderTakesItsBytes", spec := "fnHeaderTakesItsBytes", unfollowed := true, recurses := true, named := ["gzipfiles/pub/gogzip.ErrHeader", "io.ErrShortBuffer", "io.EOF", "io.ErrUnexpectedEOF", "gzipfiles/pub/flate.codeOrder", "gzipfiles/pub/gogzip.ErrChecksum"], apart := false, laid := [("io.ErrShortBuffer", laid_io_ErrShortBuffer), ("io.EOF", laid_io_EOF), ("io.ErrUnexpectedEOF", laid_io_ErrUnexpectedEOF), ("gzipfiles/pub/flate.codeOrder", laid_gzipfiles_pub_flate_codeOrder), ("gzipfiles/pub/gogzip.ErrChecksum", laid_gzipfiles_pub_gogzip_ErrChecksum), ("gzipfiles/pub/gogzip.ErrHeader", laid_gzipfiles_pub_gogzip_ErrHeader)] }
def FnHeaderTakesItsBytesSaid : Prop := fnHeaderTakesItsBytesRow.holds Tryd.pinned (OpenSpec.ofChange fnHeaderTakesItsBytesSpec)

/-- ITS FALSE NEIGHBOUR: 'it returns false'. Refute it at one input. -/
def fnHeaderTakesItsBytesWrong : ChangeSpec := { name := "fnHeaderTakesItsBytes", fn := fun _ => fun
  | [d] => { results := [.lit (.bool false)], args := [d] }
  | _ => none }
def FnHeaderTakesItsBytesWrongFalsely : Prop := fnHeaderTakesItsBytesRow.holds Tryd.pinned (OpenSpec.ofChange fnHeaderTakesItsBytesWrong)

/-- 'laws.FnHeaderAsTold': WHATEVER THE INPUT: true; the input reads as it did. -/
def fnHeaderAsToldSpec : ChangeSpec := { name := "fnHeaderAsTold", fn := fun _ => fun
  | [d] => { results := [.lit (.bool true)], args := [d] }
  | _ => none }
def fnHeaderAsToldRow : OpenClaim := { program := "ytbjbmpcgiokdaaadoor", sum := "41cf0d74f8b76b00b6fca9a51fd1c16fa46f5190b79c32021e240a6a3e63a97c", func := "gzipfiles/laws.FnHeaderAsTold", spec := "fnHeaderAsTold", unfollowed := true, recurses := true, named := ["gzipfiles/pub/gogzip.ErrHeader", "io.ErrShortBuffer", "io.EOF", "io.ErrUnexpectedEOF", "gzipfiles/pub/flate.codeOrder", "gzipfiles/pub/gogzip.ErrChecksum"], apart := false, laid := [("io.ErrShortBuffer", laid_io_ErrShortBuffer), ("io.EOF", laid_io_EOF), ("io.ErrUnexpectedEOF", laid_io_ErrUnexpectedEOF), ("gzipfiles/pub/flate.codeOrder", laid_gzipfiles_pub_flate_codeOrder), ("gzipfiles/pub/gogzip.ErrChecksum", laid_gzipfiles_pub_gogzip_ErrChecksum), ("gzipfiles/pub/gogzip.ErrHeader", laid_gzipfiles_pub_gogzip_ErrHeader)] }
def FnHeaderAsToldSaid : Prop := fnHeaderAsToldRow.holds Tryd.pinned (OpenSpec.ofChange fnHeaderAsToldSpec)

/-- ITS FALSE NEIGHBOUR: 'it returns false'. Refute it at one input. -/
def fnHeaderAsToldWrong : ChangeSpec := { name := "fnHeaderAsTold", fn := fun _ => fun
  | [d] => { results := [.lit (.bool false)], args := [d] }
  | _ => none }
def FnHeaderAsToldWrongFalsely : Prop := fnHeaderAsToldRow.holds Tryd.pinned (OpenSpec.ofChange fnHeaderAsToldWrong)

/-- 'laws.FnMadeHeaderIsRead': WHATEVER THE INPUT: true; the input reads as it did. -/
def fnMadeHeaderIsReadSpec : ChangeSpec := { name := "fnMadeHeaderIsRead", fn := fun _ => fun
  | [d1, d2] => { results := [.lit (.bool true)], args := [d1, d2] }
  | _ => none }
def fnMadeHeaderIsReadRow : OpenClaim := { program := "ytbjbmpcgiokdaaadoor", sum := "41cf0d74f8b76b00b6fca9a51fd1c16fa46f5190b79c32021e240a6a3e63a97c", func := "gzipfiles/laws.FnMadeHeaderIsRead", spec := "fnMadeHeaderIsRead", unfollowed := true, recurses := true, named := ["gzipfiles/pub/gogzip.ErrHeader", "io.ErrShortBuffer", "io.EOF", "io.ErrUnexpectedEOF", "gzipfiles/pub/flate.codeOrder", "gzipfiles/pub/gogzip.ErrChecksum"], apart := false, laid := [("io.ErrShortBuffer", laid_io_ErrShortBuffer), ("io.EOF", laid_io_EOF), ("io.ErrUnexpectedEOF", laid_io_ErrUnexpectedEOF), ("gzipfiles/pub/flate.codeOrder", laid_gzipfiles_pub_flate_codeOrder), ("gzipfiles/pub/gogzip.ErrChecksum", laid_gzipfiles_pub_gogzip_ErrChecksum), ("gzipfiles/pub/gogzip.ErrHeader", laid_gzipfiles_pub_gogzip_ErrHeader)] }
def FnMadeHeaderIsReadSaid : Prop := fnMadeHeaderIsReadRow.holds Tryd.pinned (OpenSpec.ofChange fnMadeHeaderIsReadSpec)

/-- ITS FALSE NEIGHBOUR: 'it returns false'. Refute it at one input. -/
def fnMadeHeaderIsReadWrong : ChangeSpec := { name := "fnMadeHeaderIsRead", fn := fun _ => fun
  | [d1, d2] => { results := [.lit (.bool false)], args := [d1, d2] }
  | _ => none }
def FnMadeHeaderIsReadWrongFalsely : Prop := fnMadeHeaderIsReadRow.holds Tryd.pinned (OpenSpec.ofChange fnMadeHeaderIsReadWrong)

/-- 'laws.FnSizesDontMatter': WHATEVER THE INPUT: true; the input reads as it did. -/
def fnSizesDontMatterSpec : ChangeSpec := { name := "fnSizesDontMatter", fn := fun _ => fun
  | [d1, d2] => { results := [.lit (.bool true)], args := [d1, d2] }
  | _ => none }
def fnSizesDontMatterRow : OpenClaim := { program := "ytbjbmpcgiokdaaadoor", sum := "41cf0d74f8b76b00b6fca9a51fd1c16fa46f5190b79c32021e240a6a3e63a97c", func := "gzipfiles/laws.FnSizesDontMatter", spec := "fnSizesDontMatter", unfollowed := true, recurses := true, named := ["gzipfiles/pub/gogzip.ErrHeader", "io.ErrShortBuffer", "io.EOF", "io.ErrUnexpectedEOF", "gzipfiles/pub/flate.codeOrder", "gzipfiles/pub/gogzip.ErrChecksum"], apart := false, laid := [("io.ErrShortBuffer", laid_io_ErrShortBuffer), ("io.EOF", laid_io_EOF), ("io.ErrUnexpectedEOF", laid_io_ErrUnexpectedEOF), ("gzipfiles/pub/flate.codeOrder", laid_gzipfiles_pub_flate_codeOrder), ("gzipfiles/pub/gogzip.ErrChecksum", laid_gzipfiles_pub_gogzip_ErrChecksum), ("gzipfiles/pub/gogzip.ErrHeader", laid_gzipfiles_pub_gogzip_ErrHeader)] }
def FnSizesDontMatterSaid : Prop := fnSizesDontMatterRow.holds Tryd.pinned (OpenSpec.ofChange fnSizesDontMatterSpec)

/-- ITS FALSE NEIGHBOUR: 'it returns false'. Refute it at one input. -/
def fnSizesDontMatterWrong : ChangeSpec := { name := "fnSizesDontMatter", fn := fun _ => fun
  | [d1, d2] => { results := [.lit (.bool false)], args := [d1, d2] }
  | _ => none }
def FnSizesDontMatterWrongFalsely : Prop := fnSizesDontMatterRow.holds Tryd.pinned (OpenSpec.ofChange fnSizesDontMatterWrong)

/-- 'laws.FnPiecesDontMatter': WHATEVER THE INPUT: true; the input reads as it did. -/
def fnPiecesDontMatterSpec : ChangeSpec := { name := "fnPiecesDontMatter", fn := fun _ => fun
  | [d1, d2, d3] => { results := [.lit (.bool true)], args := [d1, d2, d3] }
  | _ => none }
def fnPiecesDontMatterRow : OpenClaim := { program := "ytbjbmpcgiokdaaadoor", sum := "41cf0d74f8b76b00b6fca9a51fd1c16fa46f5190b79c32021e240a6a3e63a97c", func := "gzipfiles/laws.FnPiecesDontMatter", spec := "fnPiecesDontMatter", unfollowed := true, recurses := true, named := ["gzipfiles/pub/gogzip.ErrHeader", "io.ErrShortBuffer", "io.EOF", "io.ErrUnexpectedEOF", "gzipfiles/pub/flate.codeOrder", "gzipfiles/pub/gogzip.ErrChecksum"], apart := false, laid := [("io.ErrShortBuffer", laid_io_ErrShortBuffer), ("io.EOF", laid_io_EOF), ("io.ErrUnexpectedEOF", laid_io_ErrUnexpectedEOF), ("gzipfiles/pub/flate.codeOrder", laid_gzipfiles_pub_flate_codeOrder), ("gzipfiles/pub/gogzip.ErrChecksum", laid_gzipfiles_pub_gogzip_ErrChecksum), ("gzipfiles/pub/gogzip.ErrHeader", laid_gzipfiles_pub_gogzip_ErrHeader)] }
def FnPiecesDontMatterSaid : Prop := fnPiecesDontMatterRow.holds Tryd.pinned (OpenSpec.ofChange fnPiecesDontMatterSpec)

/-- ITS FALSE NEIGHBOUR: 'it returns false'. Refute it at one input. -/
def fnPiecesDontMatterWrong : ChangeSpec := { name := "fnPiecesDontMatter", fn := fun _ => fun
  | [d1, d2, d3] => { results := [.lit (.bool false)], args := [d1, d2, d3] }
  | _ => none }
def FnPiecesDontMatterWrongFalsely : Prop := fnPiecesDontMatterRow.holds Tryd.pinned (OpenSpec.ofChange fnPiecesDontMatterWrong)

/-- 'laws.FnReaderResetIsNew': WHATEVER THE INPUT: true; the input reads as it did. -/
def fnReaderResetIsNewSpec : ChangeSpec := { name := "fnReaderResetIsNew", fn := fun _ => fun
  | [d1, d2, d3, d4] => { results := [.lit (.bool true)], args := [d1, d2, d3, d4] }
  | _ => none }
def fnReaderResetIsNewRow : OpenClaim := { program := "ytbjbmpcgiokdaaadoor", sum := "41cf0d74f8b76b00b6fca9a51fd1c16fa46f5190b79c32021e240a6a3e63a97c", func := "gzipfiles/laws.FnReaderResetIsNew", spec := "fnReaderResetIsNew", unfollowed := true, recurses := true, named := ["gzipfiles/pub/gogzip.ErrHeader", "io.ErrShortBuffer", "io.EOF", "io.ErrUnexpectedEOF", "gzipfiles/pub/flate.codeOrder", "gzipfiles/pub/gogzip.ErrChecksum"], apart := false, laid := [("io.ErrShortBuffer", laid_io_ErrShortBuffer), ("io.EOF", laid_io_EOF), ("io.ErrUnexpectedEOF", laid_io_ErrUnexpectedEOF), ("gzipfiles/pub/flate.codeOrder", laid_gzipfiles_pub_flate_codeOrder), ("gzipfiles/pub/gogzip.ErrChecksum", laid_gzipfiles_pub_gogzip_ErrChecksum), ("gzipfiles/pub/gogzip.ErrHeader", laid_gzipfiles_pub_gogzip_ErrHeader)] }
def FnReaderResetIsNewSaid : Prop := fnReaderResetIsNewRow.holds Tryd.pinned (OpenSpec.ofChange fnReaderResetIsNewSpec)

/-- ITS FALSE NEIGHBOUR: 'it returns false'. Refute it at one input. -/
def fnReaderResetIsNewWrong : ChangeSpec := { name := "fnReaderResetIsNew", fn := fun _ => fun
  | [d1, d2, d3, d4] => { results := [.lit (.bool false)], args := [d1, d2, d3, d4] }
  | _ => none }
def FnReaderResetIsNewWrongFalsely : Prop := fnReaderResetIsNewRow.holds Tryd.pinned (OpenSpec.ofChange fnReaderResetIsNewWrong)

/- THE SECOND FORM. 'bulk': how many values and letters a reading holds, each counted each time it is reached (what is shared counts as often as it is met; a slice's spare places count too). A statement '..UptoSaid' is the law's where the arguments, and the package variables that the reading takes, are together of bulk at most 1048576: NARROWER than '..Said'. Prove '..Said' where nothing that the law and all that it calls make is longer than what came in: it says more and counts as full. Else prove '..UptoSaid'. A law counts once. -/
mutual
def uptoBulk {H : Type} : DataW H → Nat
  | .lit (.string bytes) => bytes.length + 1
  | .lit _ => 1
  | .nil => 1
  | .ptr d => uptoBulk d + 1
  | .slice elems spare => uptoBulkAll elems + uptoBulkAll spare + 1
  | .agg parts => uptoBulkAll parts + 1
  | .iface _ d => uptoBulk d + 1
  | .map entries => uptoBulkEntries entries + 1
  | .held _ => 1
def uptoBulkAll {H : Type} : List (DataW H) → Nat
  | [] => 0
  | d :: r => uptoBulk d + uptoBulkAll r
def uptoBulkEntries {H : Type} : List (Lit × DataW H) → Nat
  | [] => 0
  | x :: r => uptoBulkEntry x + uptoBulkEntries r
def uptoBulkEntry {H : Type} : Lit × DataW H → Nat
  | (.string bytes, d) => bytes.length + uptoBulk d + 1
  | (_, d) => uptoBulk d + 1
 end
def uptoSmall : (H : Type) → List (DataW H) → Bool := fun _ ds => decide (uptoBulkAll ds ≤ 1048576)
def OpenSpec.upto (s : _root_.Go.ChangeSpec) : _root_.Go.OpenSpec := { _root_.Go.OpenSpec.ofChange s with cond := some uptoSmall }

/-- 'laws.FnHeaderTakesItsBytes', WHERE WHAT IT READS IS OF BULK AT MOST 1048576: true; the input reads as it did. -/
def fnHeaderTakesItsBytesUptoRow : OpenClaim := { program := "ytbjbmpcgiokdaaadoor", sum := "41cf0d74f8b76b00b6fca9a51fd1c16fa46f5190b79c32021e240a6a3e63a97c", func := "gzipfiles/laws.FnHeaderTakesItsBytes", spec := "fnHeaderTakesItsBytes", unfollowed := true, recurses := true, named := ["gzipfiles/pub/gogzip.ErrHeader", "io.ErrShortBuffer", "io.EOF", "io.ErrUnexpectedEOF", "gzipfiles/pub/flate.codeOrder", "gzipfiles/pub/gogzip.ErrChecksum"], apart := false, laid := [("io.ErrShortBuffer", laid_io_ErrShortBuffer), ("io.EOF", laid_io_EOF), ("io.ErrUnexpectedEOF", laid_io_ErrUnexpectedEOF), ("gzipfiles/pub/flate.codeOrder", laid_gzipfiles_pub_flate_codeOrder), ("gzipfiles/pub/gogzip.ErrChecksum", laid_gzipfiles_pub_gogzip_ErrChecksum), ("gzipfiles/pub/gogzip.ErrHeader", laid_gzipfiles_pub_gogzip_ErrHeader)], narrowed := true }
def FnHeaderTakesItsBytesUptoSaid : Prop := fnHeaderTakesItsBytesUptoRow.holds Tryd.pinned (OpenSpec.upto fnHeaderTakesItsBytesSpec)

/-- 'laws.FnHeaderAsTold', WHERE WHAT IT READS IS OF BULK AT MOST 1048576: true; the input reads as it did. -/
def fnHeaderAsToldUptoRow : OpenClaim := { program := "ytbjbmpcgiokdaaadoor", sum := "41cf0d74f8b76b00b6fca9a51fd1c16fa46f5190b79c32021e240a6a3e63a97c", func := "gzipfiles/laws.FnHeaderAsTold", spec := "fnHeaderAsTold", unfollowed := true, recurses := true, named := ["gzipfiles/pub/gogzip.ErrHeader", "io.ErrShortBuffer", "io.EOF", "io.ErrUnexpectedEOF", "gzipfiles/pub/flate.codeOrder", "gzipfiles/pub/gogzip.ErrChecksum"], apart := false, laid := [("io.ErrShortBuffer", laid_io_ErrShortBuffer), ("io.EOF", laid_io_EOF), ("io.ErrUnexpectedEOF", laid_io_ErrUnexpectedEOF), ("gzipfiles/pub/flate.codeOrder", laid_gzipfiles_pub_flate_codeOrder), ("gzipfiles/pub/gogzip.ErrChecksum", laid_gzipfiles_pub_gogzip_ErrChecksum), ("gzipfiles/pub/gogzip.ErrHeader", laid_gzipfiles_pub_gogzip_ErrHeader)], narrowed := true }
def FnHeaderAsToldUptoSaid : Prop := fnHeaderAsToldUptoRow.holds Tryd.pinned (OpenSpec.upto fnHeaderAsToldSpec)

/-- 'laws.FnMadeHeaderIsRead', WHERE WHAT IT READS IS OF BULK AT MOST 1048576: true; the input reads as it did. -/
def fnMadeHeaderIsReadUptoRow : OpenClaim := { program := "ytbjbmpcgiokdaaadoor", sum := "41cf0d74f8b76b00b6fca9a51fd1c16fa46f5190b79c32021e240a6a3e63a97c", func := "gzipfiles/laws.FnMadeHeaderIsRead", spec := "fnMadeHeaderIsRead", unfollowed := true, recurses := true, named := ["gzipfiles/pub/gogzip.ErrHeader", "io.ErrShortBuffer", "io.EOF", "io.ErrUnexpectedEOF", "gzipfiles/pub/flate.codeOrder", "gzipfiles/pub/gogzip.ErrChecksum"], apart := false, laid := [("io.ErrShortBuffer", laid_io_ErrShortBuffer), ("io.EOF", laid_io_EOF), ("io.ErrUnexpectedEOF", laid_io_ErrUnexpectedEOF), ("gzipfiles/pub/flate.codeOrder", laid_gzipfiles_pub_flate_codeOrder), ("gzipfiles/pub/gogzip.ErrChecksum", laid_gzipfiles_pub_gogzip_ErrChecksum), ("gzipfiles/pub/gogzip.ErrHeader", laid_gzipfiles_pub_gogzip_ErrHeader)], narrowed := true }
def FnMadeHeaderIsReadUptoSaid : Prop := fnMadeHeaderIsReadUptoRow.holds Tryd.pinned (OpenSpec.upto fnMadeHeaderIsReadSpec)

/-- 'laws.FnSizesDontMatter', WHERE WHAT IT READS IS OF BULK AT MOST 1048576: true; the input reads as it did. -/
def fnSizesDontMatterUptoRow : OpenClaim := { program := "ytbjbmpcgiokdaaadoor", sum := "41cf0d74f8b76b00b6fca9a51fd1c16fa46f5190b79c32021e240a6a3e63a97c", func := "gzipfiles/laws.FnSizesDontMatter", spec := "fnSizesDontMatter", unfollowed := true, recurses := true, named := ["gzipfiles/pub/gogzip.ErrHeader", "io.ErrShortBuffer", "io.EOF", "io.ErrUnexpectedEOF", "gzipfiles/pub/flate.codeOrder", "gzipfiles/pub/gogzip.ErrChecksum"], apart := false, laid := [("io.ErrShortBuffer", laid_io_ErrShortBuffer), ("io.EOF", laid_io_EOF), ("io.ErrUnexpectedEOF", laid_io_ErrUnexpectedEOF), ("gzipfiles/pub/flate.codeOrder", laid_gzipfiles_pub_flate_codeOrder), ("gzipfiles/pub/gogzip.ErrChecksum", laid_gzipfiles_pub_gogzip_ErrChecksum), ("gzipfiles/pub/gogzip.ErrHeader", laid_gzipfiles_pub_gogzip_ErrHeader)], narrowed := true }
def FnSizesDontMatterUptoSaid : Prop := fnSizesDontMatterUptoRow.holds Tryd.pinned (OpenSpec.upto fnSizesDontMatterSpec)

/-- 'laws.FnPiecesDontMatter', WHERE WHAT IT READS IS OF BULK AT MOST 1048576: true; the input reads as it did. -/
def fnPiecesDontMatterUptoRow : OpenClaim := { program := "ytbjbmpcgiokdaaadoor", sum := "41cf0d74f8b76b00b6fca9a51fd1c16fa46f5190b79c32021e240a6a3e63a97c", func := "gzipfiles/laws.FnPiecesDontMatter", spec := "fnPiecesDontMatter", unfollowed := true, recurses := true, named := ["gzipfiles/pub/gogzip.ErrHeader", "io.ErrShortBuffer", "io.EOF", "io.ErrUnexpectedEOF", "gzipfiles/pub/flate.codeOrder", "gzipfiles/pub/gogzip.ErrChecksum"], apart := false, laid := [("io.ErrShortBuffer", laid_io_ErrShortBuffer), ("io.EOF", laid_io_EOF), ("io.ErrUnexpectedEOF", laid_io_ErrUnexpectedEOF), ("gzipfiles/pub/flate.codeOrder", laid_gzipfiles_pub_flate_codeOrder), ("gzipfiles/pub/gogzip.ErrChecksum", laid_gzipfiles_pub_gogzip_ErrChecksum), ("gzipfiles/pub/gogzip.ErrHeader", laid_gzipfiles_pub_gogzip_ErrHeader)], narrowed := true }
def FnPiecesDontMatterUptoSaid : Prop := fnPiecesDontMatterUptoRow.holds Tryd.pinned (OpenSpec.upto fnPiecesDontMatterSpec)

/-- 'laws.FnReaderResetIsNew', WHERE WHAT IT READS IS OF BULK AT MOST 1048576: true; the input reads as it did. -/
def fnReaderResetIsNewUptoRow : OpenClaim := { program := "ytbjbmpcgiokdaaadoor", sum := "41cf0d74f8b76b00b6fca9a51fd1c16fa46f5190b79c32021e240a6a3e63a97c", func := "gzipfiles/laws.FnReaderResetIsNew", spec := "fnReaderResetIsNew", unfollowed := true, recurses := true, named := ["gzipfiles/pub/gogzip.ErrHeader", "io.ErrShortBuffer", "io.EOF", "io.ErrUnexpectedEOF", "gzipfiles/pub/flate.codeOrder", "gzipfiles/pub/gogzip.ErrChecksum"], apart := false, laid := [("io.ErrShortBuffer", laid_io_ErrShortBuffer), ("io.EOF", laid_io_EOF), ("io.ErrUnexpectedEOF", laid_io_ErrUnexpectedEOF), ("gzipfiles/pub/flate.codeOrder", laid_gzipfiles_pub_flate_codeOrder), ("gzipfiles/pub/gogzip.ErrChecksum", laid_gzipfiles_pub_gogzip_ErrChecksum), ("gzipfiles/pub/gogzip.ErrHeader", laid_gzipfiles_pub_gogzip_ErrHeader)], narrowed := true }
def FnReaderResetIsNewUptoSaid : Prop := fnReaderResetIsNewUptoRow.holds Tryd.pinned (OpenSpec.upto fnReaderResetIsNewSpec)

end Rows
end Go.Proofs.YtbjbmpcgiokdaaaDoor

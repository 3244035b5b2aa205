/-
  NARROWER THAN 'FOR EVERY INPUT', by the rows' own cells (each row's printed sentence says how): FnMadeIsRead: laid · FnReadAsTold: laid · FnMadeOneByOne: laid · FnOneByOneAsTold: laid.
  DERIVED. THE GIVEN ROWS OF THIS SEAT. 4 by the template 'for every input the law returns true; each argument reads behind the call as it read before'; 0 by the template 'total and deterministic' (their statements: YtbjbmpcgiokdaaaGreatDoorTotals.lean).
  GIVEN WITH THE SEED: the statements are not yours to turn. If you find one false, say at which input.
  Laid BY PROGRAM, IN A SANDBOX (cutbox-rows.mjs): the forced cells as the released guide's own fill.sh prints them over the translation 384e8184a6981e32… (all of the seat's roots in one cut). By AI agents, Wed Nov 11 2026. No macro, syntax, notation, axiom, sorry.
-/
import Derived.Test.YtbjbmpcgiokdaaaGreatDoorChecked
import GoSem.Claim
import GoSem.ClaimJoined
import GoSem.ClaimMapViews
import Derived.JoinedTies
import Derived.KernelRfl
namespace Go.Proofs.YtbjbmpcgiokdaaaGreatDoor
/- THE CELL 'sum', in the pinned program and in every row, IS THE sha256 OF THE DUMP (.gsa) THAT YtbjbmpcgiokdaaaGreatDoorProg.lean LOADS. Nothing in Lean hashes anything: it is a label: what it is worth is what the hold of that sum in a sandbox is worth. -/
noncomputable def Tryz.pinned : Pinned := { name := "ytbjbmpcgiokdaaagreatdoor", sum := "384e8184a6981e321fcaa7fb82a9a2c308a6cff350e212eabd71da45197db0c7", checked := Tryz.checked }
namespace Rows
def none {H : Type} : Left H := { results := [], args := [] }

/- WHAT THE LISTED PACKAGE-LEVEL VARIABLES READ AS WHEN THE CALL BEGINS. Each datum BY PROGRAM (the guide's laid-datum.mjs) off the statement by which the dump's own 'gosem.cut.vars' lays the variable. In a bare row this is a premise. The card (YtbjbmpcgiokdaaaGreatDoorCards.lean) ties it to the program's text. -/
def laid_gzipfiles_spec_sizes {H : Type} : DataW H := .slice [.lit (.int .i64 3), .lit (.int .i64 4), .lit (.int .i64 5), .lit (.int .i64 6), .lit (.int .i64 7), .lit (.int .i64 8), .lit (.int .i64 9), .lit (.int .i64 10), .lit (.int .i64 11), .lit (.int .i64 13), .lit (.int .i64 15), .lit (.int .i64 17), .lit (.int .i64 19), .lit (.int .i64 23), .lit (.int .i64 27), .lit (.int .i64 31), .lit (.int .i64 35), .lit (.int .i64 43), .lit (.int .i64 51), .lit (.int .i64 59), .lit (.int .i64 67), .lit (.int .i64 83), .lit (.int .i64 99), .lit (.int .i64 115), .lit (.int .i64 131), .lit (.int .i64 163), .lit (.int .i64 195), .lit (.int .i64 227), .lit (.int .i64 258)] []
def laid_gzipfiles_spec_more {H : Type} : DataW H := .slice [.lit (.int .i64 0), .lit (.int .i64 0), .lit (.int .i64 0), .lit (.int .i64 0), .lit (.int .i64 0), .lit (.int .i64 0), .lit (.int .i64 0), .lit (.int .i64 0), .lit (.int .i64 1), .lit (.int .i64 1), .lit (.int .i64 1), .lit (.int .i64 1), .lit (.int .i64 2), .lit (.int .i64 2), .lit (.int .i64 2), .lit (.int .i64 2), .lit (.int .i64 3), .lit (.int .i64 3), .lit (.int .i64 3), .lit (.int .i64 3), .lit (.int .i64 4), .lit (.int .i64 4), .lit (.int .i64 4), .lit (.int .i64 4), .lit (.int .i64 5), .lit (.int .i64 5), .lit (.int .i64 5), .lit (.int .i64 5), .lit (.int .i64 0)] []
def laid_gzipfiles_spec_far {H : Type} : DataW H := .slice [.lit (.int .i64 1), .lit (.int .i64 2), .lit (.int .i64 3), .lit (.int .i64 4), .lit (.int .i64 5), .lit (.int .i64 7), .lit (.int .i64 9), .lit (.int .i64 13), .lit (.int .i64 17), .lit (.int .i64 25), .lit (.int .i64 33), .lit (.int .i64 49), .lit (.int .i64 65), .lit (.int .i64 97), .lit (.int .i64 129), .lit (.int .i64 193), .lit (.int .i64 257), .lit (.int .i64 385), .lit (.int .i64 513), .lit (.int .i64 769), .lit (.int .i64 1025), .lit (.int .i64 1537), .lit (.int .i64 2049), .lit (.int .i64 3073), .lit (.int .i64 4097), .lit (.int .i64 6145), .lit (.int .i64 8193), .lit (.int .i64 12289), .lit (.int .i64 16385), .lit (.int .i64 24577)] []
def laid_gzipfiles_spec_further {H : Type} : DataW H := .slice [.lit (.int .i64 0), .lit (.int .i64 0), .lit (.int .i64 0), .lit (.int .i64 0), .lit (.int .i64 1), .lit (.int .i64 1), .lit (.int .i64 2), .lit (.int .i64 2), .lit (.int .i64 3), .lit (.int .i64 3), .lit (.int .i64 4), .lit (.int .i64 4), .lit (.int .i64 5), .lit (.int .i64 5), .lit (.int .i64 6), .lit (.int .i64 6), .lit (.int .i64 7), .lit (.int .i64 7), .lit (.int .i64 8), .lit (.int .i64 8), .lit (.int .i64 9), .lit (.int .i64 9), .lit (.int .i64 10), .lit (.int .i64 10), .lit (.int .i64 11), .lit (.int .i64 11), .lit (.int .i64 12), .lit (.int .i64 12), .lit (.int .i64 13), .lit (.int .i64 13)] []
def laid_gzipfiles_spec_order {H : Type} : DataW H := .slice [.lit (.int .i64 16), .lit (.int .i64 17), .lit (.int .i64 18), .lit (.int .i64 0), .lit (.int .i64 8), .lit (.int .i64 7), .lit (.int .i64 9), .lit (.int .i64 6), .lit (.int .i64 10), .lit (.int .i64 5), .lit (.int .i64 11), .lit (.int .i64 4), .lit (.int .i64 12), .lit (.int .i64 3), .lit (.int .i64 13), .lit (.int .i64 2), .lit (.int .i64 14), .lit (.int .i64 1), .lit (.int .i64 15)] []
def laid_io_ErrShortBuffer {H : Type} : DataW H := .iface "*errors.errorString" (.ptr (.agg [.lit (.string [115, 104, 111, 114, 116, 32, 98, 117, 102, 102, 101, 114])]))
def laid_io_EOF {H : Type} : DataW H := .iface "*errors.errorString" (.ptr (.agg [.lit (.string [69, 79, 70])]))
def laid_io_ErrUnexpectedEOF {H : Type} : DataW H := .iface "*errors.errorString" (.ptr (.agg [.lit (.string [117, 110, 101, 120, 112, 101, 99, 116, 101, 100, 32, 69, 79, 70])]))
def laid_gzipfiles_pub_flate_codeOrder {H : Type} : DataW H := .agg [.lit (.int .i64 16), .lit (.int .i64 17), .lit (.int .i64 18), .lit (.int .i64 0), .lit (.int .i64 8), .lit (.int .i64 7), .lit (.int .i64 9), .lit (.int .i64 6), .lit (.int .i64 10), .lit (.int .i64 5), .lit (.int .i64 11), .lit (.int .i64 4), .lit (.int .i64 12), .lit (.int .i64 3), .lit (.int .i64 13), .lit (.int .i64 2), .lit (.int .i64 14), .lit (.int .i64 1), .lit (.int .i64 15)]
def laid_gzipfiles_pub_gogzip_ErrChecksum {H : Type} : DataW H := .iface "*errors.errorString" (.ptr (.agg [.lit (.string [103, 122, 105, 112, 58, 32, 105, 110, 118, 97, 108, 105, 100, 32, 99, 104, 101, 99, 107, 115, 117, 109])]))
def laid_gzipfiles_pub_gogzip_ErrHeader {H : Type} : DataW H := .iface "*errors.errorString" (.ptr (.agg [.lit (.string [103, 122, 105, 112, 58, 32, 105, 110, 118, 97, 108, 105, 100, 32, 104, 101, 97, 100, 101, 114])]))

/-- 'laws.FnMadeIsRead': WHATEVER THE INPUT: true; the input reads as it did. -/
def fnMadeIsReadSpec : ChangeSpec := { name := "fnMadeIsRead", fn := fun _ => fun
  | [d1, d2] => { results := [.lit (.bool true)], args := [d1, d2] }
  | _ => none }
def fnMadeIsReadRow : OpenClaim := { program := "ytbjbmpcgiokdaaagreatdoor", sum := "384e8184a6981e321fcaa7fb82a9a2c308a6cff350e212eabd71da45197db0c7", func := "gzipfiles/laws.FnMadeIsRead", spec := "fnMadeIsRead", unfollowed := true, recurses := true, named := ["gzipfiles/spec.sizes", "gzipfiles/spec.more", "gzipfiles/spec.far", "gzipfiles/spec.further", "gzipfiles/spec.order", "gzipfiles/pub/gogzip.ErrHeader", "io.ErrShortBuffer", "io.EOF", "io.ErrUnexpectedEOF", "gzipfiles/pub/flate.codeOrder", "gzipfiles/pub/gogzip.ErrChecksum"], apart := false, laid := [("gzipfiles/spec.sizes", laid_gzipfiles_spec_sizes), ("gzipfiles/spec.more", laid_gzipfiles_spec_more), ("gzipfiles/spec.far", laid_gzipfiles_spec_far), ("gzipfiles/spec.further", laid_gzipfiles_spec_further), ("gzipfiles/spec.order", laid_gzipfiles_spec_order), ("io.ErrShortBuffer", laid_io_ErrShortBuffer), ("io.EOF", laid_io_EOF), ("io.ErrUnexpectedEOF", laid_io_ErrUnexpectedEOF), ("gzipfiles/pub/flate.codeOrder", laid_gzipfiles_pub_flate_codeOrder), ("gzipfiles/pub/gogzip.ErrChecksum", laid_gzipfiles_pub_gogzip_ErrChecksum), ("gzipfiles/pub/gogzip.ErrHeader", laid_gzipfiles_pub_gogzip_ErrHeader)] }
def FnMadeIsReadSaid : Prop := fnMadeIsReadRow.holds Tryz.pinned (OpenSpec.ofChange fnMadeIsReadSpec)

/-- ITS FALSE NEIGHBOUR: 'it returns false'. Refute it at one input. -/
def fnMadeIsReadWrong : ChangeSpec := { name := "fnMadeIsRead", fn := fun _ => fun
  | [d1, d2] => { results := [.lit (.bool false)], args := [d1, d2] }
  | _ => none }
def FnMadeIsReadWrongFalsely : Prop := fnMadeIsReadRow.holds Tryz.pinned (OpenSpec.ofChange fnMadeIsReadWrong)

/-- 'laws.FnReadAsTold': WHATEVER THE INPUT: true; the input reads as it did. -/
def fnReadAsToldSpec : ChangeSpec := { name := "fnReadAsTold", fn := fun _ => fun
  | [d1, d2] => { results := [.lit (.bool true)], args := [d1, d2] }
  | _ => none }
def fnReadAsToldRow : OpenClaim := { program := "ytbjbmpcgiokdaaagreatdoor", sum := "384e8184a6981e321fcaa7fb82a9a2c308a6cff350e212eabd71da45197db0c7", func := "gzipfiles/laws.FnReadAsTold", spec := "fnReadAsTold", unfollowed := true, recurses := true, named := ["gzipfiles/spec.order", "gzipfiles/spec.more", "gzipfiles/spec.sizes", "gzipfiles/spec.further", "gzipfiles/spec.far", "gzipfiles/pub/gogzip.ErrHeader", "io.ErrShortBuffer", "io.EOF", "io.ErrUnexpectedEOF", "gzipfiles/pub/flate.codeOrder", "gzipfiles/pub/gogzip.ErrChecksum"], apart := false, laid := [("gzipfiles/spec.sizes", laid_gzipfiles_spec_sizes), ("gzipfiles/spec.more", laid_gzipfiles_spec_more), ("gzipfiles/spec.far", laid_gzipfiles_spec_far), ("gzipfiles/spec.further", laid_gzipfiles_spec_further), ("gzipfiles/spec.order", laid_gzipfiles_spec_order), ("io.ErrShortBuffer", laid_io_ErrShortBuffer), ("io.EOF", laid_io_EOF), ("io.ErrUnexpectedEOF", laid_io_ErrUnexpectedEOF), ("gzipfiles/pub/flate.codeOrder", laid_gzipfiles_pub_flate_codeOrder), ("gzipfiles/pub/gogzip.ErrChecksum", laid_gzipfiles_pub_gogzip_ErrChecksum), ("gzipfiles/pub/gogzip.ErrHeader", laid_gzipfiles_pub_gogzip_ErrHeader)] }
def FnReadAsToldSaid : Prop := fnReadAsToldRow.holds Tryz.pinned (OpenSpec.ofChange fnReadAsToldSpec)

/-- ITS FALSE NEIGHBOUR: 'it returns false'. Refute it at one input. -/
def fnReadAsToldWrong : ChangeSpec := { name := "fnReadAsTold", fn := fun _ => fun
  | [d1, d2] => { results := [.lit (.bool false)], args := [d1, d2] }
  | _ => none }
def FnReadAsToldWrongFalsely : Prop := fnReadAsToldRow.holds Tryz.pinned (OpenSpec.ofChange fnReadAsToldWrong)

/-- 'laws.FnMadeOneByOne': WHATEVER THE INPUT: true; the input reads as it did. -/
def fnMadeOneByOneSpec : ChangeSpec := { name := "fnMadeOneByOne", fn := fun _ => fun
  | [d1, d2] => { results := [.lit (.bool true)], args := [d1, d2] }
  | _ => none }
def fnMadeOneByOneRow : OpenClaim := { program := "ytbjbmpcgiokdaaagreatdoor", sum := "384e8184a6981e321fcaa7fb82a9a2c308a6cff350e212eabd71da45197db0c7", func := "gzipfiles/laws.FnMadeOneByOne", spec := "fnMadeOneByOne", unfollowed := true, recurses := true, named := ["gzipfiles/spec.sizes", "gzipfiles/spec.more", "gzipfiles/spec.far", "gzipfiles/spec.further", "gzipfiles/spec.order", "gzipfiles/pub/gogzip.ErrHeader", "io.ErrShortBuffer", "io.EOF", "io.ErrUnexpectedEOF", "gzipfiles/pub/flate.codeOrder", "gzipfiles/pub/gogzip.ErrChecksum"], apart := false, laid := [("gzipfiles/spec.sizes", laid_gzipfiles_spec_sizes), ("gzipfiles/spec.more", laid_gzipfiles_spec_more), ("gzipfiles/spec.far", laid_gzipfiles_spec_far), ("gzipfiles/spec.further", laid_gzipfiles_spec_further), ("gzipfiles/spec.order", laid_gzipfiles_spec_order), ("io.ErrShortBuffer", laid_io_ErrShortBuffer), ("io.EOF", laid_io_EOF), ("io.ErrUnexpectedEOF", laid_io_ErrUnexpectedEOF), ("gzipfiles/pub/flate.codeOrder", laid_gzipfiles_pub_flate_codeOrder), ("gzipfiles/pub/gogzip.ErrChecksum", laid_gzipfiles_pub_gogzip_ErrChecksum), ("gzipfiles/pub/gogzip.ErrHeader", laid_gzipfiles_pub_gogzip_ErrHeader)] }
def FnMadeOneByOneSaid : Prop := fnMadeOneByOneRow.holds Tryz.pinned (OpenSpec.ofChange fnMadeOneByOneSpec)

/-- ITS FALSE NEIGHBOUR: 'it returns false'. Refute it at one input. -/
def fnMadeOneByOneWrong : ChangeSpec := { name := "fnMadeOneByOne", fn := fun _ => fun
  | [d1, d2] => { results := [.lit (.bool false)], args := [d1, d2] }
  | _ => none }
def FnMadeOneByOneWrongFalsely : Prop := fnMadeOneByOneRow.holds Tryz.pinned (OpenSpec.ofChange fnMadeOneByOneWrong)

/-- 'laws.FnOneByOneAsTold': WHATEVER THE INPUT: true; the input reads as it did. -/
def fnOneByOneAsToldSpec : ChangeSpec := { name := "fnOneByOneAsTold", fn := fun _ => fun
  | [d] => { results := [.lit (.bool true)], args := [d] }
  | _ => none }
def fnOneByOneAsToldRow : OpenClaim := { program := "ytbjbmpcgiokdaaagreatdoor", sum := "384e8184a6981e321fcaa7fb82a9a2c308a6cff350e212eabd71da45197db0c7", func := "gzipfiles/laws.FnOneByOneAsTold", spec := "fnOneByOneAsTold", unfollowed := true, recurses := true, named := ["gzipfiles/spec.order", "gzipfiles/spec.more", "gzipfiles/spec.sizes", "gzipfiles/spec.further", "gzipfiles/spec.far", "gzipfiles/pub/gogzip.ErrHeader", "io.ErrShortBuffer", "io.EOF", "io.ErrUnexpectedEOF", "gzipfiles/pub/flate.codeOrder", "gzipfiles/pub/gogzip.ErrChecksum"], apart := false, laid := [("gzipfiles/spec.sizes", laid_gzipfiles_spec_sizes), ("gzipfiles/spec.more", laid_gzipfiles_spec_more), ("gzipfiles/spec.far", laid_gzipfiles_spec_far), ("gzipfiles/spec.further", laid_gzipfiles_spec_further), ("gzipfiles/spec.order", laid_gzipfiles_spec_order), ("io.ErrShortBuffer", laid_io_ErrShortBuffer), ("io.EOF", laid_io_EOF), ("io.ErrUnexpectedEOF", laid_io_ErrUnexpectedEOF), ("gzipfiles/pub/flate.codeOrder", laid_gzipfiles_pub_flate_codeOrder), ("gzipfiles/pub/gogzip.ErrChecksum", laid_gzipfiles_pub_gogzip_ErrChecksum), ("gzipfiles/pub/gogzip.ErrHeader", laid_gzipfiles_pub_gogzip_ErrHeader)] }
def FnOneByOneAsToldSaid : Prop := fnOneByOneAsToldRow.holds Tryz.pinned (OpenSpec.ofChange fnOneByOneAsToldSpec)

/-- ITS FALSE NEIGHBOUR: 'it returns false'. Refute it at one input. -/
def fnOneByOneAsToldWrong : ChangeSpec := { name := "fnOneByOneAsTold", fn := fun _ => fun
  | [d] => { results := [.lit (.bool false)], args := [d] }
  | _ => none }
def FnOneByOneAsToldWrongFalsely : Prop := fnOneByOneAsToldRow.holds Tryz.pinned (OpenSpec.ofChange fnOneByOneAsToldWrong)

/- THE SECOND FORM. 'bulk': how many values and letters a reading holds, each counted each time it is reached (what is shared counts as often as it is met; a slice's spare places count too). A statement '..UptoSaid' is the law's where the arguments, and the package variables that the reading takes, are together of bulk at most 1048576: NARROWER than '..Said'. Prove '..Said' where nothing that the law and all that it calls make is longer than what came in: it says more and counts as full. Else prove '..UptoSaid'. A law counts once. -/
mutual
def uptoBulk {H : Type} : DataW H → Nat
  | .lit (.string bytes) => bytes.length + 1
  | .lit _ => 1
  | .nil => 1
  | .ptr d => uptoBulk d + 1
  | .slice elems spare => uptoBulkAll elems + uptoBulkAll spare + 1
  | .agg parts => uptoBulkAll parts + 1
  | .iface _ d => uptoBulk d + 1
  | .map entries => uptoBulkEntries entries + 1
  | .held _ => 1
def uptoBulkAll {H : Type} : List (DataW H) → Nat
  | [] => 0
  | d :: r => uptoBulk d + uptoBulkAll r
def uptoBulkEntries {H : Type} : List (Lit × DataW H) → Nat
  | [] => 0
  | x :: r => uptoBulkEntry x + uptoBulkEntries r
def uptoBulkEntry {H : Type} : Lit × DataW H → Nat
  | (.string bytes, d) => bytes.length + uptoBulk d + 1
  | (_, d) => uptoBulk d + 1
 end
def uptoSmall : (H : Type) → List (DataW H) → Bool := fun _ ds => decide (uptoBulkAll ds ≤ 1048576)
def OpenSpec.upto (s : _root_.Go.ChangeSpec) : _root_.Go.OpenSpec := { _root_.Go.OpenSpec.ofChange s with cond := some uptoSmall }

/-- 'laws.FnMadeIsRead', WHERE WHAT IT READS IS OF BULK AT MOST 1048576: true; the input reads as it did. -/
def fnMadeIsReadUptoRow : OpenClaim := { program := "ytbjbmpcgiokdaaagreatdoor", sum := "384e8184a6981e321fcaa7fb82a9a2c308a6cff350e212eabd71da45197db0c7", func := "gzipfiles/laws.FnMadeIsRead", spec := "fnMadeIsRead", unfollowed := true, recurses := true, named := ["gzipfiles/spec.sizes", "gzipfiles/spec.more", "gzipfiles/spec.far", "gzipfiles/spec.further", "gzipfiles/spec.order", "gzipfiles/pub/gogzip.ErrHeader", "io.ErrShortBuffer", "io.EOF", "io.ErrUnexpectedEOF", "gzipfiles/pub/flate.codeOrder", "gzipfiles/pub/gogzip.ErrChecksum"], apart := false, laid := [("gzipfiles/spec.sizes", laid_gzipfiles_spec_sizes), ("gzipfiles/spec.more", laid_gzipfiles_spec_more), ("gzipfiles/spec.far", laid_gzipfiles_spec_far), ("gzipfiles/spec.further", laid_gzipfiles_spec_further), ("gzipfiles/spec.order", laid_gzipfiles_spec_order), ("io.ErrShortBuffer", laid_io_ErrShortBuffer), ("io.EOF", laid_io_EOF), ("io.ErrUnexpectedEOF", laid_io_ErrUnexpectedEOF), ("gzipfiles/pub/flate.codeOrder", laid_gzipfiles_pub_flate_codeOrder), ("gzipfiles/pub/gogzip.ErrChecksum", laid_gzipfiles_pub_gogzip_ErrChecksum), ("gzipfiles/pub/gogzip.ErrHeader", laid_gzipfiles_pub_gogzip_ErrHeader)], narrowed := true }
def FnMadeIsReadUptoSaid : Prop := fnMadeIsReadUptoRow.holds Tryz.pinned (OpenSpec.upto fnMadeIsReadSpec)

/-- 'laws.FnReadAsTold', WHERE WHAT IT READS IS OF BULK AT MOST 1048576: true; the input reads as it did. -/
def fnReadAsToldUptoRow : OpenClaim := { program := "ytbjbmpcgiokdaaagreatdoor", sum := "384e8184a6981e321fcaa7fb82a9a2c308a6cff350e212eabd71da45197db0c7", func := "gzipfiles/laws.FnReadAsTold", spec := "fnReadAsTold", unfollowed := true, recurses := true, named := ["gzipfiles/spec.order", "gzipfiles/spec.more", "gzipfiles/spec.sizes", "gzipfiles/spec.further", "gzipfiles/spec.far", "gzipfiles/pub/gogzip.ErrHeader", "io.ErrShortBuffer", "io.EOF", "io.ErrUnexpectedEOF", "gzipfiles/pub/flate.codeOrder", "gzipfiles/pub/gogzip.ErrChecksum"], apart := false, laid := [("gzipfiles/spec.sizes", laid_gzipfiles_spec_sizes), ("gzipfiles/spec.more", laid_gzipfiles_spec_more), ("gzipfiles/spec.far", laid_gzipfiles_spec_far), ("gzipfiles/spec.further", laid_gzipfiles_spec_further), ("gzipfiles/spec.order", laid_gzipfiles_spec_order), ("io.ErrShortBuffer", laid_io_ErrShortBuffer), ("io.EOF", laid_io_EOF), ("io.ErrUnexpectedEOF", laid_io_ErrUnexpectedEOF), ("gzipfiles/pub/flate.codeOrder", laid_gzipfiles_pub_flate_codeOrder), ("gzipfiles/pub/gogzip.ErrChecksum", laid_gzipfiles_pub_gogzip_ErrChecksum), ("gzipfiles/pub/gogzip.ErrHeader", laid_gzipfiles_pub_gogzip_ErrHeader)], narrowed := true }
def FnReadAsToldUptoSaid : Prop := fnReadAsToldUptoRow.holds Tryz.pinned (OpenSpec.upto fnReadAsToldSpec)

/-- 'laws.FnMadeOneByOne', WHERE WHAT IT READS IS OF BULK AT MOST 1048576: true; the input reads as it did. -/
def fnMadeOneByOneUptoRow : OpenClaim := { program := "ytbjbmpcgiokdaaagreatdoor", sum := "384e8184a6981e321fcaa7fb82a9a2c308a6cff350e212eabd71da45197db0c7", func := "gzipfiles/laws.FnMadeOneByOne", spec := "fnMadeOneByOne", unfollowed := true, recurses := true, named := ["gzipfiles/spec.sizes", "gzipfiles/spec.more", "gzipfiles/spec.far", "gzipfiles/spec.further", "gzipfiles/spec.order", "gzipfiles/pub/gogzip.ErrHeader", "io.ErrShortBuffer", "io.EOF", "io.ErrUnexpectedEOF", "gzipfiles/pub/flate.codeOrder", "gzipfiles/pub/gogzip.ErrChecksum"], apart := false, laid := [("gzipfiles/spec.sizes", laid_gzipfiles_spec_sizes), ("gzipfiles/spec.more", laid_gzipfiles_spec_more), ("gzipfiles/spec.far", laid_gzipfiles_spec_far), ("gzipfiles/spec.further", laid_gzipfiles_spec_further), ("gzipfiles/spec.order", laid_gzipfiles_spec_order), ("io.ErrShortBuffer", laid_io_ErrShortBuffer), ("io.EOF", laid_io_EOF), ("io.ErrUnexpectedEOF", laid_io_ErrUnexpectedEOF), ("gzipfiles/pub/flate.codeOrder", laid_gzipfiles_pub_flate_codeOrder), ("gzipfiles/pub/gogzip.ErrChecksum", laid_gzipfiles_pub_gogzip_ErrChecksum), ("gzipfiles/pub/gogzip.ErrHeader", laid_gzipfiles_pub_gogzip_ErrHeader)], narrowed := true }
def FnMadeOneByOneUptoSaid : Prop := fnMadeOneByOneUptoRow.holds Tryz.pinned (OpenSpec.upto fnMadeOneByOneSpec)

/-- 'laws.FnOneByOneAsTold', WHERE WHAT IT READS IS OF BULK AT MOST 1048576: true; the input reads as it did. -/
def fnOneByOneAsToldUptoRow : OpenClaim := { program := "ytbjbmpcgiokdaaagreatdoor", sum := "384e8184a6981e321fcaa7fb82a9a2c308a6cff350e212eabd71da45197db0c7", func := "gzipfiles/laws.FnOneByOneAsTold", spec := "fnOneByOneAsTold", unfollowed := true, recurses := true, named := ["gzipfiles/spec.order", "gzipfiles/spec.more", "gzipfiles/spec.sizes", "gzipfiles/spec.further", "gzipfiles/spec.far", "gzipfiles/pub/gogzip.ErrHeader", "io.ErrShortBuffer", "io.EOF", "io.ErrUnexpectedEOF", "gzipfiles/pub/flate.codeOrder", "gzipfiles/pub/gogzip.ErrChecksum"], apart := false, laid := [("gzipfiles/spec.sizes", laid_gzipfiles_spec_sizes), ("gzipfiles/spec.more", laid_gzipfiles_spec_more), ("gzipfiles/spec.far", laid_gzipfiles_spec_far), ("gzipfiles/spec.further", laid_gzipfiles_spec_further), ("gzipfiles/spec.order", laid_gzipfiles_spec_order), ("io.ErrShortBuffer", laid_io_ErrShortBuffer), ("io.EOF", laid_io_EOF), ("io.ErrUnexpectedEOF", laid_io_ErrUnexpectedEOF), ("gzipfiles/pub/flate.codeOrder", laid_gzipfiles_pub_flate_codeOrder), ("gzipfiles/pub/gogzip.ErrChecksum", laid_gzipfiles_pub_gogzip_ErrChecksum), ("gzipfiles/pub/gogzip.ErrHeader", laid_gzipfiles_pub_gogzip_ErrHeader)], narrowed := true }
def FnOneByOneAsToldUptoSaid : Prop := fnOneByOneAsToldUptoRow.holds Tryz.pinned (OpenSpec.upto fnOneByOneAsToldSpec)

end Rows
end Go.Proofs.YtbjbmpcgiokdaaaGreatDoor

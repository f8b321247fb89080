/-
  NARROWER THAN 'FOR EVERY INPUT', by the rows' own cells (each row's printed sentence says how): FnRest: laid · FnWrittenPieces: laid · FnAgain: laid · FnStreamLess: laid.
  DERIVED. THE GIVEN ROWS OF THIS SEAT. 4 by the template 'for every input the law returns true; each argument reads behind the call as it read before'; 0 by the template 'total and deterministic' (their statements: YtmdbdhamlcgblaaDoorTotals.lean).
  GIVEN WITH THE SEED: the statements are not yours to turn. If you find one false, say at which input.
  Laid BY PROGRAM, IN A SANDBOX (cutbox-rows.mjs): the forced cells as the released guide's own fill.sh prints them over the translation 83a0b589bb291aa8… (all of the seat's roots in one cut). By AI agents, Wed Nov 11 2026. No macro, syntax, notation, axiom, sorry.
-/
import Derived.Test.YtmdbdhamlcgblaaDoorChecked
import GoSem.Claim
import GoSem.ClaimJoined
import GoSem.ClaimMapViews
import Derived.JoinedTies
import Derived.KernelRfl
namespace Go.Proofs.YtmdbdhamlcgblaaDoor
/- THE CELL 'sum', in the pinned program and in every row, IS THE sha256 OF THE DUMP (.gsa) THAT YtmdbdhamlcgblaaDoorProg.lean LOADS. Nothing in Lean hashes anything: it is a label: what it is worth is what the hold of that sum in a sandbox is worth. -/
noncomputable def Tryd.pinned : Pinned := { name := "ytmdbdhamlcgblaadoor", sum := "83a0b589bb291aa8809ac7be26d9613976564fbaabdd0ad875ef97644bc920cc", checked := Tryd.checked }
namespace Rows
def none {H : Type} : Left H := { results := [], args := [] }

/- WHAT THE LISTED PACKAGE-LEVEL VARIABLES READ AS WHEN THE CALL BEGINS. Each datum BY PROGRAM (the guide's laid-datum.mjs) off the statement by which the dump's own 'gosem.cut.vars' lays the variable. In a bare row this is a premise. The card (YtmdbdhamlcgblaaDoorCards.lean) ties it to the program's text. -/
def laid_io_ErrShortBuffer {H : Type} : DataW H := .iface "*errors.errorString" (.ptr (.agg [.lit (.string [115, 104, 111, 114, 116, 32, 98, 117, 102, 102, 101, 114])]))
def laid_io_EOF {H : Type} : DataW H := .iface "*errors.errorString" (.ptr (.agg [.lit (.string [69, 79, 70])]))
def laid_io_ErrUnexpectedEOF {H : Type} : DataW H := .iface "*errors.errorString" (.ptr (.agg [.lit (.string [117, 110, 101, 120, 112, 101, 99, 116, 101, 100, 32, 69, 79, 70])]))
def laid_index_suffixarray_maxData32 {H : Type} : DataW H := .lit (.int .i64 2147483647)
def laid_index_suffixarray_errCorrupted {H : Type} : DataW H := .iface "*errors.errorString" (.ptr (.agg [.lit (.string [115, 117, 102, 102, 105, 120, 97, 114, 114, 97, 121, 58, 32, 100, 97, 116, 97, 32, 99, 111, 114, 114, 117, 112, 116, 101, 100])]))

/-- 'laws.FnRest': WHATEVER THE INPUT: true; the input reads as it did. -/
def fnRestSpec : ChangeSpec := { name := "fnRest", fn := fun _ => fun
  | [d1, d2] => { results := [.lit (.bool true)], args := [d1, d2] }
  | _ => none }
def fnRestRow : OpenClaim := { program := "ytmdbdhamlcgblaadoor", sum := "83a0b589bb291aa8809ac7be26d9613976564fbaabdd0ad875ef97644bc920cc", func := "lib-bellfounder/laws.FnRest", spec := "fnRest", unfollowed := true, recurses := true, named := ["index/suffixarray.maxData32", "index/suffixarray.errCorrupted", "io.ErrShortBuffer", "io.EOF", "io.ErrUnexpectedEOF"], apart := false, laid := [("io.ErrShortBuffer", laid_io_ErrShortBuffer), ("io.EOF", laid_io_EOF), ("io.ErrUnexpectedEOF", laid_io_ErrUnexpectedEOF), ("index/suffixarray.maxData32", laid_index_suffixarray_maxData32), ("index/suffixarray.errCorrupted", laid_index_suffixarray_errCorrupted)] }
def FnRestSaid : Prop := fnRestRow.holds Tryd.pinned (OpenSpec.ofChange fnRestSpec)

/-- ITS FALSE NEIGHBOUR: 'it returns false'. Refute it at one input. -/
def fnRestWrong : ChangeSpec := { name := "fnRest", fn := fun _ => fun
  | [d1, d2] => { results := [.lit (.bool false)], args := [d1, d2] }
  | _ => none }
def FnRestWrongFalsely : Prop := fnRestRow.holds Tryd.pinned (OpenSpec.ofChange fnRestWrong)

/-- 'laws.FnWrittenPieces': WHATEVER THE INPUT: true; the input reads as it did. -/
def fnWrittenPiecesSpec : ChangeSpec := { name := "fnWrittenPieces", fn := fun _ => fun
  | [d1, d2] => { results := [.lit (.bool true)], args := [d1, d2] }
  | _ => none }
def fnWrittenPiecesRow : OpenClaim := { program := "ytmdbdhamlcgblaadoor", sum := "83a0b589bb291aa8809ac7be26d9613976564fbaabdd0ad875ef97644bc920cc", func := "lib-bellfounder/laws.FnWrittenPieces", spec := "fnWrittenPieces", unfollowed := true, recurses := true, named := ["index/suffixarray.maxData32", "index/suffixarray.errCorrupted", "io.ErrShortBuffer", "io.EOF", "io.ErrUnexpectedEOF"], apart := false, laid := [("io.ErrShortBuffer", laid_io_ErrShortBuffer), ("io.EOF", laid_io_EOF), ("io.ErrUnexpectedEOF", laid_io_ErrUnexpectedEOF), ("index/suffixarray.maxData32", laid_index_suffixarray_maxData32), ("index/suffixarray.errCorrupted", laid_index_suffixarray_errCorrupted)] }
def FnWrittenPiecesSaid : Prop := fnWrittenPiecesRow.holds Tryd.pinned (OpenSpec.ofChange fnWrittenPiecesSpec)

/-- ITS FALSE NEIGHBOUR: 'it returns false'. Refute it at one input. -/
def fnWrittenPiecesWrong : ChangeSpec := { name := "fnWrittenPieces", fn := fun _ => fun
  | [d1, d2] => { results := [.lit (.bool false)], args := [d1, d2] }
  | _ => none }
def FnWrittenPiecesWrongFalsely : Prop := fnWrittenPiecesRow.holds Tryd.pinned (OpenSpec.ofChange fnWrittenPiecesWrong)

/-- 'laws.FnAgain': WHATEVER THE INPUT: true; the input reads as it did. -/
def fnAgainSpec : ChangeSpec := { name := "fnAgain", fn := fun _ => fun
  | [d] => { results := [.lit (.bool true)], args := [d] }
  | _ => none }
def fnAgainRow : OpenClaim := { program := "ytmdbdhamlcgblaadoor", sum := "83a0b589bb291aa8809ac7be26d9613976564fbaabdd0ad875ef97644bc920cc", func := "lib-bellfounder/laws.FnAgain", spec := "fnAgain", unfollowed := true, recurses := true, named := ["index/suffixarray.maxData32", "index/suffixarray.errCorrupted", "io.ErrShortBuffer", "io.EOF", "io.ErrUnexpectedEOF"], apart := false, laid := [("io.ErrShortBuffer", laid_io_ErrShortBuffer), ("io.EOF", laid_io_EOF), ("io.ErrUnexpectedEOF", laid_io_ErrUnexpectedEOF), ("index/suffixarray.maxData32", laid_index_suffixarray_maxData32), ("index/suffixarray.errCorrupted", laid_index_suffixarray_errCorrupted)] }
def FnAgainSaid : Prop := fnAgainRow.holds Tryd.pinned (OpenSpec.ofChange fnAgainSpec)

/-- ITS FALSE NEIGHBOUR: 'it returns false'. Refute it at one input. -/
def fnAgainWrong : ChangeSpec := { name := "fnAgain", fn := fun _ => fun
  | [d] => { results := [.lit (.bool false)], args := [d] }
  | _ => none }
def FnAgainWrongFalsely : Prop := fnAgainRow.holds Tryd.pinned (OpenSpec.ofChange fnAgainWrong)

/-- 'laws.FnStreamLess': WHATEVER THE INPUT: true; the input reads as it did. -/
def fnStreamLessSpec : ChangeSpec := { name := "fnStreamLess", fn := fun _ => fun
  | [d1, d2] => { results := [.lit (.bool true)], args := [d1, d2] }
  | _ => none }
def fnStreamLessRow : OpenClaim := { program := "ytmdbdhamlcgblaadoor", sum := "83a0b589bb291aa8809ac7be26d9613976564fbaabdd0ad875ef97644bc920cc", func := "lib-bellfounder/laws.FnStreamLess", spec := "fnStreamLess", inPlace := ["internal/bytealg.Compare"], unfollowed := true, recurses := true, named := ["index/suffixarray.maxData32", "index/suffixarray.errCorrupted", "io.ErrShortBuffer", "io.EOF", "io.ErrUnexpectedEOF"], apart := false, laid := [("io.ErrShortBuffer", laid_io_ErrShortBuffer), ("io.EOF", laid_io_EOF), ("io.ErrUnexpectedEOF", laid_io_ErrUnexpectedEOF), ("index/suffixarray.maxData32", laid_index_suffixarray_maxData32), ("index/suffixarray.errCorrupted", laid_index_suffixarray_errCorrupted)] }
def FnStreamLessSaid : Prop := fnStreamLessRow.holds Tryd.pinned (OpenSpec.ofChange fnStreamLessSpec)

/-- ITS FALSE NEIGHBOUR: 'it returns false'. Refute it at one input. -/
def fnStreamLessWrong : ChangeSpec := { name := "fnStreamLess", fn := fun _ => fun
  | [d1, d2] => { results := [.lit (.bool false)], args := [d1, d2] }
  | _ => none }
def FnStreamLessWrongFalsely : Prop := fnStreamLessRow.holds Tryd.pinned (OpenSpec.ofChange fnStreamLessWrong)

/- THE SECOND FORM. 'bulk': how many values and letters a reading holds, each counted each time it is reached (what is shared counts as often as it is met; a slice's spare places count too). A statement '..UptoSaid' is the law's where the arguments, and the package variables that the reading takes, are together of bulk at most 1048576: NARROWER than '..Said'. Prove '..Said' where nothing that the law and all that it calls make is longer than what came in: it says more and counts as full. Else prove '..UptoSaid'. A law counts once. -/
mutual
def uptoBulk {H : Type} : DataW H → Nat
  | .lit (.string bytes) => bytes.length + 1
  | .lit _ => 1
  | .nil => 1
  | .ptr d => uptoBulk d + 1
  | .slice elems spare => uptoBulkAll elems + uptoBulkAll spare + 1
  | .agg parts => uptoBulkAll parts + 1
  | .iface _ d => uptoBulk d + 1
  | .map entries => uptoBulkEntries entries + 1
  | .held _ => 1
def uptoBulkAll {H : Type} : List (DataW H) → Nat
  | [] => 0
  | d :: r => uptoBulk d + uptoBulkAll r
def uptoBulkEntries {H : Type} : List (Lit × DataW H) → Nat
  | [] => 0
  | x :: r => uptoBulkEntry x + uptoBulkEntries r
def uptoBulkEntry {H : Type} : Lit × DataW H → Nat
  | (.string bytes, d) => bytes.length + uptoBulk d + 1
  | (_, d) => uptoBulk d + 1
 end
def uptoSmall : (H : Type) → List (DataW H) → Bool := fun _ ds => decide (uptoBulkAll ds ≤ 1048576)
def OpenSpec.upto (s : _root_.Go.ChangeSpec) : _root_.Go.OpenSpec := { _root_.Go.OpenSpec.ofChange s with cond := some uptoSmall }

/-- 'laws.FnRest', WHERE WHAT IT READS IS OF BULK AT MOST 1048576: true; the input reads as it did. -/
def fnRestUptoRow : OpenClaim := { program := "ytmdbdhamlcgblaadoor", sum := "83a0b589bb291aa8809ac7be26d9613976564fbaabdd0ad875ef97644bc920cc", func := "lib-bellfounder/laws.FnRest", spec := "fnRest", unfollowed := true, recurses := true, named := ["index/suffixarray.maxData32", "index/suffixarray.errCorrupted", "io.ErrShortBuffer", "io.EOF", "io.ErrUnexpectedEOF"], apart := false, laid := [("io.ErrShortBuffer", laid_io_ErrShortBuffer), ("io.EOF", laid_io_EOF), ("io.ErrUnexpectedEOF", laid_io_ErrUnexpectedEOF), ("index/suffixarray.maxData32", laid_index_suffixarray_maxData32), ("index/suffixarray.errCorrupted", laid_index_suffixarray_errCorrupted)], narrowed := true }
def FnRestUptoSaid : Prop := fnRestUptoRow.holds Tryd.pinned (OpenSpec.upto fnRestSpec)

/-- 'laws.FnWrittenPieces', WHERE WHAT IT READS IS OF BULK AT MOST 1048576: true; the input reads as it did. -/
def fnWrittenPiecesUptoRow : OpenClaim := { program := "ytmdbdhamlcgblaadoor", sum := "83a0b589bb291aa8809ac7be26d9613976564fbaabdd0ad875ef97644bc920cc", func := "lib-bellfounder/laws.FnWrittenPieces", spec := "fnWrittenPieces", unfollowed := true, recurses := true, named := ["index/suffixarray.maxData32", "index/suffixarray.errCorrupted", "io.ErrShortBuffer", "io.EOF", "io.ErrUnexpectedEOF"], apart := false, laid := [("io.ErrShortBuffer", laid_io_ErrShortBuffer), ("io.EOF", laid_io_EOF), ("io.ErrUnexpectedEOF", laid_io_ErrUnexpectedEOF), ("index/suffixarray.maxData32", laid_index_suffixarray_maxData32), ("index/suffixarray.errCorrupted", laid_index_suffixarray_errCorrupted)], narrowed := true }
def FnWrittenPiecesUptoSaid : Prop := fnWrittenPiecesUptoRow.holds Tryd.pinned (OpenSpec.upto fnWrittenPiecesSpec)

/-- 'laws.FnAgain', WHERE WHAT IT READS IS OF BULK AT MOST 1048576: true; the input reads as it did. -/
def fnAgainUptoRow : OpenClaim := { program := "ytmdbdhamlcgblaadoor", sum := "83a0b589bb291aa8809ac7be26d9613976564fbaabdd0ad875ef97644bc920cc", func := "lib-bellfounder/laws.FnAgain", spec := "fnAgain", unfollowed := true, recurses := true, named := ["index/suffixarray.maxData32", "index/suffixarray.errCorrupted", "io.ErrShortBuffer", "io.EOF", "io.ErrUnexpectedEOF"], apart := false, laid := [("io.ErrShortBuffer", laid_io_ErrShortBuffer), ("io.EOF", laid_io_EOF), ("io.ErrUnexpectedEOF", laid_io_ErrUnexpectedEOF), ("index/suffixarray.maxData32", laid_index_suffixarray_maxData32), ("index/suffixarray.errCorrupted", laid_index_suffixarray_errCorrupted)], narrowed := true }
def FnAgainUptoSaid : Prop := fnAgainUptoRow.holds Tryd.pinned (OpenSpec.upto fnAgainSpec)

/-- 'laws.FnStreamLess', WHERE WHAT IT READS IS OF BULK AT MOST 1048576: true; the input reads as it did. -/
def fnStreamLessUptoRow : OpenClaim := { program := "ytmdbdhamlcgblaadoor", sum := "83a0b589bb291aa8809ac7be26d9613976564fbaabdd0ad875ef97644bc920cc", func := "lib-bellfounder/laws.FnStreamLess", spec := "fnStreamLess", inPlace := ["internal/bytealg.Compare"], unfollowed := true, recurses := true, named := ["index/suffixarray.maxData32", "index/suffixarray.errCorrupted", "io.ErrShortBuffer", "io.EOF", "io.ErrUnexpectedEOF"], apart := false, laid := [("io.ErrShortBuffer", laid_io_ErrShortBuffer), ("io.EOF", laid_io_EOF), ("io.ErrUnexpectedEOF", laid_io_ErrUnexpectedEOF), ("index/suffixarray.maxData32", laid_index_suffixarray_maxData32), ("index/suffixarray.errCorrupted", laid_index_suffixarray_errCorrupted)], narrowed := true }
def FnStreamLessUptoSaid : Prop := fnStreamLessUptoRow.holds Tryd.pinned (OpenSpec.upto fnStreamLessSpec)

end Rows
end Go.Proofs.YtmdbdhamlcgblaaDoor

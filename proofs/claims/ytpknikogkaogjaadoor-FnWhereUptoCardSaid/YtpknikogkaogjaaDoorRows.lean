/-
  NARROWER THAN 'FOR EVERY INPUT', by the rows' own cells (each row's printed sentence says how): FnLookups: laid · FnShared: laid · FnWhere: laid · FnFull: laid · FnRest: laid · FnWrittenPieces: laid · FnAgain: laid · FnStreamLess: laid.
  DERIVED. THE GIVEN ROWS OF THIS SEAT. 8 by the template 'for every input the law returns true; each argument reads behind the call as it read before'; 0 by the template 'total and deterministic' (their statements: YtpknikogkaogjaaDoorTotals.lean).
  GIVEN WITH THE SEED: the statements are not yours to turn. If you find one false, say at which input.
  Laid BY PROGRAM, IN A SANDBOX (cutbox-rows.mjs): the forced cells as the released guide's own fill.sh prints them over the translation 16e0e6a6f6b28cce… (all of the seat's roots in one cut). By AI agents, Wed Nov 11 2026. No macro, syntax, notation, axiom, sorry.
-/
import Derived.Test.YtpknikogkaogjaaDoorChecked
import GoSem.Claim
import GoSem.ClaimJoined
import GoSem.ClaimMapViews
import Derived.JoinedTies
import Derived.KernelRfl
namespace Go.Proofs.YtpknikogkaogjaaDoor
/- THE CELL 'sum', in the pinned program and in every row, IS THE sha256 OF THE DUMP (.gsa) THAT YtpknikogkaogjaaDoorProg.lean LOADS. Nothing in Lean hashes anything: it is a label: what it is worth is what the hold of that sum in a sandbox is worth. -/
noncomputable def Tryd.pinned : Pinned := { name := "ytpknikogkaogjaadoor", sum := "16e0e6a6f6b28cce10da48d75bb456053809bc60370deee8bda8d9b068f42dfc", checked := Tryd.checked }
namespace Rows
def none {H : Type} : Left H := { results := [], args := [] }

/- WHAT THE LISTED PACKAGE-LEVEL VARIABLES READ AS WHEN THE CALL BEGINS. Each datum BY PROGRAM (the guide's laid-datum.mjs) off the statement by which the dump's own 'gosem.cut.vars' lays the variable. In a bare row this is a premise. The card (YtpknikogkaogjaaDoorCards.lean) ties it to the program's text. -/
def laid_index_suffixarray_maxData32 {H : Type} : DataW H := .lit (.int .i64 2147483647)
def laid_io_ErrShortBuffer {H : Type} : DataW H := .iface "*errors.errorString" (.ptr (.agg [.lit (.string [115, 104, 111, 114, 116, 32, 98, 117, 102, 102, 101, 114])]))
def laid_io_EOF {H : Type} : DataW H := .iface "*errors.errorString" (.ptr (.agg [.lit (.string [69, 79, 70])]))
def laid_io_ErrUnexpectedEOF {H : Type} : DataW H := .iface "*errors.errorString" (.ptr (.agg [.lit (.string [117, 110, 101, 120, 112, 101, 99, 116, 101, 100, 32, 69, 79, 70])]))
def laid_index_suffixarray_errCorrupted {H : Type} : DataW H := .iface "*errors.errorString" (.ptr (.agg [.lit (.string [115, 117, 102, 102, 105, 120, 97, 114, 114, 97, 121, 58, 32, 100, 97, 116, 97, 32, 99, 111, 114, 114, 117, 112, 116, 101, 100])]))

/-- 'laws.FnLookups': WHATEVER THE INPUT: true; the input reads as it did. -/
def fnLookupsSpec : ChangeSpec := { name := "fnLookups", fn := fun _ => fun
  | [d1, d2] => { results := [.lit (.bool true)], args := [d1, d2] }
  | _ => none }
def fnLookupsRow : OpenClaim := { program := "ytpknikogkaogjaadoor", sum := "16e0e6a6f6b28cce10da48d75bb456053809bc60370deee8bda8d9b068f42dfc", func := "lib-bellfounder/laws.FnLookups", spec := "fnLookups", inPlace := ["internal/bytealg.Compare"], unfollowed := true, recurses := true, named := ["index/suffixarray.maxData32"], apart := false, laid := [("index/suffixarray.maxData32", laid_index_suffixarray_maxData32)] }
def FnLookupsSaid : Prop := fnLookupsRow.holds Tryd.pinned (OpenSpec.ofChange fnLookupsSpec)

/-- ITS FALSE NEIGHBOUR: 'it returns false'. Refute it at one input. -/
def fnLookupsWrong : ChangeSpec := { name := "fnLookups", fn := fun _ => fun
  | [d1, d2] => { results := [.lit (.bool false)], args := [d1, d2] }
  | _ => none }
def FnLookupsWrongFalsely : Prop := fnLookupsRow.holds Tryd.pinned (OpenSpec.ofChange fnLookupsWrong)

/-- 'laws.FnShared': WHATEVER THE INPUT: true; the input reads as it did. -/
def fnSharedSpec : ChangeSpec := { name := "fnShared", fn := fun _ => fun
  | [d1, d2] => { results := [.lit (.bool true)], args := [d1, d2] }
  | _ => none }
def fnSharedRow : OpenClaim := { program := "ytpknikogkaogjaadoor", sum := "16e0e6a6f6b28cce10da48d75bb456053809bc60370deee8bda8d9b068f42dfc", func := "lib-bellfounder/laws.FnShared", spec := "fnShared", inPlace := ["internal/bytealg.Compare"], unfollowed := true, recurses := true, named := ["index/suffixarray.maxData32"], apart := false, laid := [("index/suffixarray.maxData32", laid_index_suffixarray_maxData32)] }
def FnSharedSaid : Prop := fnSharedRow.holds Tryd.pinned (OpenSpec.ofChange fnSharedSpec)

/-- ITS FALSE NEIGHBOUR: 'it returns false'. Refute it at one input. -/
def fnSharedWrong : ChangeSpec := { name := "fnShared", fn := fun _ => fun
  | [d1, d2] => { results := [.lit (.bool false)], args := [d1, d2] }
  | _ => none }
def FnSharedWrongFalsely : Prop := fnSharedRow.holds Tryd.pinned (OpenSpec.ofChange fnSharedWrong)

/-- 'laws.FnWhere': WHATEVER THE INPUT: true; the input reads as it did. -/
def fnWhereSpec : ChangeSpec := { name := "fnWhere", fn := fun _ => fun
  | [d1, d2] => { results := [.lit (.bool true)], args := [d1, d2] }
  | _ => none }
def fnWhereRow : OpenClaim := { program := "ytpknikogkaogjaadoor", sum := "16e0e6a6f6b28cce10da48d75bb456053809bc60370deee8bda8d9b068f42dfc", func := "lib-bellfounder/laws.FnWhere", spec := "fnWhere", inPlace := ["internal/bytealg.Compare"], unfollowed := true, recurses := true, named := ["index/suffixarray.maxData32"], apart := false, laid := [("index/suffixarray.maxData32", laid_index_suffixarray_maxData32)] }
def FnWhereSaid : Prop := fnWhereRow.holds Tryd.pinned (OpenSpec.ofChange fnWhereSpec)

/-- ITS FALSE NEIGHBOUR: 'it returns false'. Refute it at one input. -/
def fnWhereWrong : ChangeSpec := { name := "fnWhere", fn := fun _ => fun
  | [d1, d2] => { results := [.lit (.bool false)], args := [d1, d2] }
  | _ => none }
def FnWhereWrongFalsely : Prop := fnWhereRow.holds Tryd.pinned (OpenSpec.ofChange fnWhereWrong)

/-- 'laws.FnFull': WHATEVER THE INPUT: true; the input reads as it did. -/
def fnFullSpec : ChangeSpec := { name := "fnFull", fn := fun _ => fun
  | [d1, d2] => { results := [.lit (.bool true)], args := [d1, d2] }
  | _ => none }
def fnFullRow : OpenClaim := { program := "ytpknikogkaogjaadoor", sum := "16e0e6a6f6b28cce10da48d75bb456053809bc60370deee8bda8d9b068f42dfc", func := "lib-bellfounder/laws.FnFull", spec := "fnFull", inPlace := ["internal/bytealg.Compare"], unfollowed := true, recurses := true, named := ["index/suffixarray.maxData32"], apart := false, laid := [("index/suffixarray.maxData32", laid_index_suffixarray_maxData32)] }
def FnFullSaid : Prop := fnFullRow.holds Tryd.pinned (OpenSpec.ofChange fnFullSpec)

/-- ITS FALSE NEIGHBOUR: 'it returns false'. Refute it at one input. -/
def fnFullWrong : ChangeSpec := { name := "fnFull", fn := fun _ => fun
  | [d1, d2] => { results := [.lit (.bool false)], args := [d1, d2] }
  | _ => none }
def FnFullWrongFalsely : Prop := fnFullRow.holds Tryd.pinned (OpenSpec.ofChange fnFullWrong)

/-- 'laws.FnRest': WHATEVER THE INPUT: true; the input reads as it did. -/
def fnRestSpec : ChangeSpec := { name := "fnRest", fn := fun _ => fun
  | [d1, d2] => { results := [.lit (.bool true)], args := [d1, d2] }
  | _ => none }
def fnRestRow : OpenClaim := { program := "ytpknikogkaogjaadoor", sum := "16e0e6a6f6b28cce10da48d75bb456053809bc60370deee8bda8d9b068f42dfc", func := "lib-bellfounder/laws.FnRest", spec := "fnRest", unfollowed := true, recurses := true, named := ["index/suffixarray.maxData32", "index/suffixarray.errCorrupted", "io.ErrShortBuffer", "io.EOF", "io.ErrUnexpectedEOF"], apart := false, laid := [("io.ErrShortBuffer", laid_io_ErrShortBuffer), ("io.EOF", laid_io_EOF), ("io.ErrUnexpectedEOF", laid_io_ErrUnexpectedEOF), ("index/suffixarray.maxData32", laid_index_suffixarray_maxData32), ("index/suffixarray.errCorrupted", laid_index_suffixarray_errCorrupted)] }
def FnRestSaid : Prop := fnRestRow.holds Tryd.pinned (OpenSpec.ofChange fnRestSpec)

/-- ITS FALSE NEIGHBOUR: 'it returns false'. Refute it at one input. -/
def fnRestWrong : ChangeSpec := { name := "fnRest", fn := fun _ => fun
  | [d1, d2] => { results := [.lit (.bool false)], args := [d1, d2] }
  | _ => none }
def FnRestWrongFalsely : Prop := fnRestRow.holds Tryd.pinned (OpenSpec.ofChange fnRestWrong)

/-- 'laws.FnWrittenPieces': WHATEVER THE INPUT: true; the input reads as it did. -/
def fnWrittenPiecesSpec : ChangeSpec := { name := "fnWrittenPieces", fn := fun _ => fun
  | [d1, d2] => { results := [.lit (.bool true)], args := [d1, d2] }
  | _ => none }
def fnWrittenPiecesRow : OpenClaim := { program := "ytpknikogkaogjaadoor", sum := "16e0e6a6f6b28cce10da48d75bb456053809bc60370deee8bda8d9b068f42dfc", func := "lib-bellfounder/laws.FnWrittenPieces", spec := "fnWrittenPieces", unfollowed := true, recurses := true, named := ["index/suffixarray.maxData32", "index/suffixarray.errCorrupted", "io.ErrShortBuffer", "io.EOF", "io.ErrUnexpectedEOF"], apart := false, laid := [("io.ErrShortBuffer", laid_io_ErrShortBuffer), ("io.EOF", laid_io_EOF), ("io.ErrUnexpectedEOF", laid_io_ErrUnexpectedEOF), ("index/suffixarray.maxData32", laid_index_suffixarray_maxData32), ("index/suffixarray.errCorrupted", laid_index_suffixarray_errCorrupted)] }
def FnWrittenPiecesSaid : Prop := fnWrittenPiecesRow.holds Tryd.pinned (OpenSpec.ofChange fnWrittenPiecesSpec)

/-- ITS FALSE NEIGHBOUR: 'it returns false'. Refute it at one input. -/
def fnWrittenPiecesWrong : ChangeSpec := { name := "fnWrittenPieces", fn := fun _ => fun
  | [d1, d2] => { results := [.lit (.bool false)], args := [d1, d2] }
  | _ => none }
def FnWrittenPiecesWrongFalsely : Prop := fnWrittenPiecesRow.holds Tryd.pinned (OpenSpec.ofChange fnWrittenPiecesWrong)

/-- 'laws.FnAgain': WHATEVER THE INPUT: true; the input reads as it did. -/
def fnAgainSpec : ChangeSpec := { name := "fnAgain", fn := fun _ => fun
  | [d] => { results := [.lit (.bool true)], args := [d] }
  | _ => none }
def fnAgainRow : OpenClaim := { program := "ytpknikogkaogjaadoor", sum := "16e0e6a6f6b28cce10da48d75bb456053809bc60370deee8bda8d9b068f42dfc", func := "lib-bellfounder/laws.FnAgain", spec := "fnAgain", unfollowed := true, recurses := true, named := ["index/suffixarray.maxData32", "index/suffixarray.errCorrupted", "io.ErrShortBuffer", "io.EOF", "io.ErrUnexpectedEOF"], apart := false, laid := [("io.ErrShortBuffer", laid_io_ErrShortBuffer), ("io.EOF", laid_io_EOF), ("io.ErrUnexpectedEOF", laid_io_ErrUnexpectedEOF), ("index/suffixarray.maxData32", laid_index_suffixarray_maxData32), ("index/suffixarray.errCorrupted", laid_index_suffixarray_errCorrupted)] }
def FnAgainSaid : Prop := fnAgainRow.holds Tryd.pinned (OpenSpec.ofChange fnAgainSpec)

/-- ITS FALSE NEIGHBOUR: 'it returns false'. Refute it at one input. -/
def fnAgainWrong : ChangeSpec := { name := "fnAgain", fn := fun _ => fun
  | [d] => { results := [.lit (.bool false)], args := [d] }
  | _ => none }
def FnAgainWrongFalsely : Prop := fnAgainRow.holds Tryd.pinned (OpenSpec.ofChange fnAgainWrong)

/-- 'laws.FnStreamLess': WHATEVER THE INPUT: true; the input reads as it did. -/
def fnStreamLessSpec : ChangeSpec := { name := "fnStreamLess", fn := fun _ => fun
  | [d1, d2] => { results := [.lit (.bool true)], args := [d1, d2] }
  | _ => none }
def fnStreamLessRow : OpenClaim := { program := "ytpknikogkaogjaadoor", sum := "16e0e6a6f6b28cce10da48d75bb456053809bc60370deee8bda8d9b068f42dfc", func := "lib-bellfounder/laws.FnStreamLess", spec := "fnStreamLess", inPlace := ["internal/bytealg.Compare"], unfollowed := true, recurses := true, named := ["index/suffixarray.maxData32", "index/suffixarray.errCorrupted", "io.ErrShortBuffer", "io.EOF", "io.ErrUnexpectedEOF"], apart := false, laid := [("io.ErrShortBuffer", laid_io_ErrShortBuffer), ("io.EOF", laid_io_EOF), ("io.ErrUnexpectedEOF", laid_io_ErrUnexpectedEOF), ("index/suffixarray.maxData32", laid_index_suffixarray_maxData32), ("index/suffixarray.errCorrupted", laid_index_suffixarray_errCorrupted)] }
def FnStreamLessSaid : Prop := fnStreamLessRow.holds Tryd.pinned (OpenSpec.ofChange fnStreamLessSpec)

/-- ITS FALSE NEIGHBOUR: 'it returns false'. Refute it at one input. -/
def fnStreamLessWrong : ChangeSpec := { name := "fnStreamLess", fn := fun _ => fun
  | [d1, d2] => { results := [.lit (.bool false)], args := [d1, d2] }
  | _ => none }
def FnStreamLessWrongFalsely : Prop := fnStreamLessRow.holds Tryd.pinned (OpenSpec.ofChange fnStreamLessWrong)

/- THE SECOND FORM. 'bulk': how many values and letters a reading holds, each counted each time it is reached (what is shared counts as often as it is met; a slice's spare places count too). A statement '..UptoSaid' is the law's where the arguments, and the package variables that the reading takes, are together of bulk at most 1048576: NARROWER than '..Said'. Prove '..Said' where nothing that the law and all that it calls make is longer than what came in: it says more and counts as full. Else prove '..UptoSaid'. A law counts once. -/
mutual
def uptoBulk {H : Type} : DataW H → Nat
  | .lit (.string bytes) => bytes.length + 1
  | .lit _ => 1
  | .nil => 1
  | .ptr d => uptoBulk d + 1
  | .slice elems spare => uptoBulkAll elems + uptoBulkAll spare + 1
  | .agg parts => uptoBulkAll parts + 1
  | .iface _ d => uptoBulk d + 1
  | .map entries => uptoBulkEntries entries + 1
  | .held _ => 1
def uptoBulkAll {H : Type} : List (DataW H) → Nat
  | [] => 0
  | d :: r => uptoBulk d + uptoBulkAll r
def uptoBulkEntries {H : Type} : List (Lit × DataW H) → Nat
  | [] => 0
  | x :: r => uptoBulkEntry x + uptoBulkEntries r
def uptoBulkEntry {H : Type} : Lit × DataW H → Nat
  | (.string bytes, d) => bytes.length + uptoBulk d + 1
  | (_, d) => uptoBulk d + 1
 end
def uptoSmall : (H : Type) → List (DataW H) → Bool := fun _ ds => decide (uptoBulkAll ds ≤ 1048576)
def OpenSpec.upto (s : _root_.Go.ChangeSpec) : _root_.Go.OpenSpec := { _root_.Go.OpenSpec.ofChange s with cond := some uptoSmall }

/-- 'laws.FnLookups', WHERE WHAT IT READS IS OF BULK AT MOST 1048576: true; the input reads as it did. -/
def fnLookupsUptoRow : OpenClaim := { program := "ytpknikogkaogjaadoor", sum := "16e0e6a6f6b28cce10da48d75bb456053809bc60370deee8bda8d9b068f42dfc", func := "lib-bellfounder/laws.FnLookups", spec := "fnLookups", inPlace := ["internal/bytealg.Compare"], unfollowed := true, recurses := true, named := ["index/suffixarray.maxData32"], apart := false, laid := [("index/suffixarray.maxData32", laid_index_suffixarray_maxData32)], narrowed := true }
def FnLookupsUptoSaid : Prop := fnLookupsUptoRow.holds Tryd.pinned (OpenSpec.upto fnLookupsSpec)

/-- 'laws.FnShared', WHERE WHAT IT READS IS OF BULK AT MOST 1048576: true; the input reads as it did. -/
def fnSharedUptoRow : OpenClaim := { program := "ytpknikogkaogjaadoor", sum := "16e0e6a6f6b28cce10da48d75bb456053809bc60370deee8bda8d9b068f42dfc", func := "lib-bellfounder/laws.FnShared", spec := "fnShared", inPlace := ["internal/bytealg.Compare"], unfollowed := true, recurses := true, named := ["index/suffixarray.maxData32"], apart := false, laid := [("index/suffixarray.maxData32", laid_index_suffixarray_maxData32)], narrowed := true }
def FnSharedUptoSaid : Prop := fnSharedUptoRow.holds Tryd.pinned (OpenSpec.upto fnSharedSpec)

/-- 'laws.FnWhere', WHERE WHAT IT READS IS OF BULK AT MOST 1048576: true; the input reads as it did. -/
def fnWhereUptoRow : OpenClaim := { program := "ytpknikogkaogjaadoor", sum := "16e0e6a6f6b28cce10da48d75bb456053809bc60370deee8bda8d9b068f42dfc", func := "lib-bellfounder/laws.FnWhere", spec := "fnWhere", inPlace := ["internal/bytealg.Compare"], unfollowed := true, recurses := true, named := ["index/suffixarray.maxData32"], apart := false, laid := [("index/suffixarray.maxData32", laid_index_suffixarray_maxData32)], narrowed := true }
def FnWhereUptoSaid : Prop := fnWhereUptoRow.holds Tryd.pinned (OpenSpec.upto fnWhereSpec)

/-- 'laws.FnFull', WHERE WHAT IT READS IS OF BULK AT MOST 1048576: true; the input reads as it did. -/
def fnFullUptoRow : OpenClaim := { program := "ytpknikogkaogjaadoor", sum := "16e0e6a6f6b28cce10da48d75bb456053809bc60370deee8bda8d9b068f42dfc", func := "lib-bellfounder/laws.FnFull", spec := "fnFull", inPlace := ["internal/bytealg.Compare"], unfollowed := true, recurses := true, named := ["index/suffixarray.maxData32"], apart := false, laid := [("index/suffixarray.maxData32", laid_index_suffixarray_maxData32)], narrowed := true }
def FnFullUptoSaid : Prop := fnFullUptoRow.holds Tryd.pinned (OpenSpec.upto fnFullSpec)

/-- 'laws.FnRest', WHERE WHAT IT READS IS OF BULK AT MOST 1048576: true; the input reads as it did. -/
def fnRestUptoRow : OpenClaim := { program := "ytpknikogkaogjaadoor", sum := "16e0e6a6f6b28cce10da48d75bb456053809bc60370deee8bda8d9b068f42dfc", func := "lib-bellfounder/laws.FnRest", spec := "fnRest", unfollowed := true, recurses := true, named := ["index/suffixarray.maxData32", "index/suffixarray.errCorrupted", "io.ErrShortBuffer", "io.EOF", "io.ErrUnexpectedEOF"], apart := false, laid := [("io.ErrShortBuffer", laid_io_ErrShortBuffer), ("io.EOF", laid_io_EOF), ("io.ErrUnexpectedEOF", laid_io_ErrUnexpectedEOF), ("index/suffixarray.maxData32", laid_index_suffixarray_maxData32), ("index/suffixarray.errCorrupted", laid_index_suffixarray_errCorrupted)], narrowed := true }
def FnRestUptoSaid : Prop := fnRestUptoRow.holds Tryd.pinned (OpenSpec.upto fnRestSpec)

/-- 'laws.FnWrittenPieces', WHERE WHAT IT READS IS OF BULK AT MOST 1048576: true; the input reads as it did. -/
def fnWrittenPiecesUptoRow : OpenClaim := { program := "ytpknikogkaogjaadoor", sum := "16e0e6a6f6b28cce10da48d75bb456053809bc60370deee8bda8d9b068f42dfc", func := "lib-bellfounder/laws.FnWrittenPieces", spec := "fnWrittenPieces", unfollowed := true, recurses := true, named := ["index/suffixarray.maxData32", "index/suffixarray.errCorrupted", "io.ErrShortBuffer", "io.EOF", "io.ErrUnexpectedEOF"], apart := false, laid := [("io.ErrShortBuffer", laid_io_ErrShortBuffer), ("io.EOF", laid_io_EOF), ("io.ErrUnexpectedEOF", laid_io_ErrUnexpectedEOF), ("index/suffixarray.maxData32", laid_index_suffixarray_maxData32), ("index/suffixarray.errCorrupted", laid_index_suffixarray_errCorrupted)], narrowed := true }
def FnWrittenPiecesUptoSaid : Prop := fnWrittenPiecesUptoRow.holds Tryd.pinned (OpenSpec.upto fnWrittenPiecesSpec)

/-- 'laws.FnAgain', WHERE WHAT IT READS IS OF BULK AT MOST 1048576: true; the input reads as it did. -/
def fnAgainUptoRow : OpenClaim := { program := "ytpknikogkaogjaadoor", sum := "16e0e6a6f6b28cce10da48d75bb456053809bc60370deee8bda8d9b068f42dfc", func := "lib-bellfounder/laws.FnAgain", spec := "fnAgain", unfollowed := true, recurses := true, named := ["index/suffixarray.maxData32", "index/suffixarray.errCorrupted", "io.ErrShortBuffer", "io.EOF", "io.ErrUnexpectedEOF"], apart := false, laid := [("io.ErrShortBuffer", laid_io_ErrShortBuffer), ("io.EOF", laid_io_EOF), ("io.ErrUnexpectedEOF", laid_io_ErrUnexpectedEOF), ("index/suffixarray.maxData32", laid_index_suffixarray_maxData32), ("index/suffixarray.errCorrupted", laid_index_suffixarray_errCorrupted)], narrowed := true }
def FnAgainUptoSaid : Prop := fnAgainUptoRow.holds Tryd.pinned (OpenSpec.upto fnAgainSpec)

/-- 'laws.FnStreamLess', WHERE WHAT IT READS IS OF BULK AT MOST 1048576: true; the input reads as it did. -/
def fnStreamLessUptoRow : OpenClaim := { program := "ytpknikogkaogjaadoor", sum := "16e0e6a6f6b28cce10da48d75bb456053809bc60370deee8bda8d9b068f42dfc", func := "lib-bellfounder/laws.FnStreamLess", spec := "fnStreamLess", inPlace := ["internal/bytealg.Compare"], unfollowed := true, recurses := true, named := ["index/suffixarray.maxData32", "index/suffixarray.errCorrupted", "io.ErrShortBuffer", "io.EOF", "io.ErrUnexpectedEOF"], apart := false, laid := [("io.ErrShortBuffer", laid_io_ErrShortBuffer), ("io.EOF", laid_io_EOF), ("io.ErrUnexpectedEOF", laid_io_ErrUnexpectedEOF), ("index/suffixarray.maxData32", laid_index_suffixarray_maxData32), ("index/suffixarray.errCorrupted", laid_index_suffixarray_errCorrupted)], narrowed := true }
def FnStreamLessUptoSaid : Prop := fnStreamLessUptoRow.holds Tryd.pinned (OpenSpec.upto fnStreamLessSpec)

end Rows
end Go.Proofs.YtpknikogkaogjaaDoor

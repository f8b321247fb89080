/-
  NARROWER THAN 'FOR EVERY INPUT', by the rows' own cells (each row's printed sentence says how): FnStream: laid · FnStreamApart: laid · FnStreamOver: laid · FnStreamOrder: laid · FnChunks: laid · FnChunksAgree: laid · FnCut: laid.
  DERIVED. THE GIVEN ROWS OF THIS SEAT. 7 by the template 'for every input the law returns true; each argument reads behind the call as it read before'; 0 by the template 'total and deterministic' (their statements: YtoebcbmkkhbldaaGreatDoorTotals.lean).
  GIVEN WITH THE SEED: the statements are not yours to turn. If you find one false, say at which input.
  Laid BY PROGRAM, IN A SANDBOX (cutbox-rows.mjs): the forced cells as the released guide's own fill.sh prints them over the translation 0b3004d00124cfa5… (all of the seat's roots in one cut). By AI agents, Wed Nov 11 2026. No macro, syntax, notation, axiom, sorry.
-/
import Derived.Test.YtoebcbmkkhbldaaGreatDoorChecked
import GoSem.Claim
import GoSem.ClaimJoined
import GoSem.ClaimMapViews
import Derived.JoinedTies
import Derived.KernelRfl
namespace Go.Proofs.YtoebcbmkkhbldaaGreatDoor
/- THE CELL 'sum', in the pinned program and in every row, IS THE sha256 OF THE DUMP (.gsa) THAT YtoebcbmkkhbldaaGreatDoorProg.lean LOADS. Nothing in Lean hashes anything: it is a label: what it is worth is what the hold of that sum in a sandbox is worth. -/
noncomputable def Tryz.pinned : Pinned := { name := "ytoebcbmkkhbldaagreatdoor", sum := "0b3004d00124cfa58bfce84fd73aa1b13651201fc08e24e1c3c90531213f4a6d", checked := Tryz.checked }
namespace Rows
def none {H : Type} : Left H := { results := [], args := [] }

/- WHAT THE LISTED PACKAGE-LEVEL VARIABLES READ AS WHEN THE CALL BEGINS. Each datum BY PROGRAM (the guide's laid-datum.mjs) off the statement by which the dump's own 'gosem.cut.vars' lays the variable. In a bare row this is a premise. The card (YtoebcbmkkhbldaaGreatDoorCards.lean) ties it to the program's text. -/
def laid_io_ErrShortBuffer {H : Type} : DataW H := .iface "*errors.errorString" (.ptr (.agg [.lit (.string [115, 104, 111, 114, 116, 32, 98, 117, 102, 102, 101, 114])]))
def laid_io_EOF {H : Type} : DataW H := .iface "*errors.errorString" (.ptr (.agg [.lit (.string [69, 79, 70])]))
def laid_io_ErrUnexpectedEOF {H : Type} : DataW H := .iface "*errors.errorString" (.ptr (.agg [.lit (.string [117, 110, 101, 120, 112, 101, 99, 116, 101, 100, 32, 69, 79, 70])]))
def laid_index_suffixarray_maxData32 {H : Type} : DataW H := .lit (.int .i64 2147483647)
def laid_index_suffixarray_errCorrupted {H : Type} : DataW H := .iface "*errors.errorString" (.ptr (.agg [.lit (.string [115, 117, 102, 102, 105, 120, 97, 114, 114, 97, 121, 58, 32, 100, 97, 116, 97, 32, 99, 111, 114, 114, 117, 112, 116, 101, 100])]))

/-- 'laws.FnStream': WHATEVER THE INPUT: true; the input reads as it did. -/
def fnStreamSpec : ChangeSpec := { name := "fnStream", fn := fun _ => fun
  | [d1, d2, d3, d4] => { results := [.lit (.bool true)], args := [d1, d2, d3, d4] }
  | _ => none }
def fnStreamRow : OpenClaim := { program := "ytoebcbmkkhbldaagreatdoor", sum := "0b3004d00124cfa58bfce84fd73aa1b13651201fc08e24e1c3c90531213f4a6d", func := "lib-bellfounder/laws.FnStream", spec := "fnStream", inPlace := ["internal/bytealg.Compare"], unfollowed := true, recurses := true, named := ["index/suffixarray.maxData32", "index/suffixarray.errCorrupted", "io.ErrShortBuffer", "io.EOF", "io.ErrUnexpectedEOF"], apart := false, laid := [("io.ErrShortBuffer", laid_io_ErrShortBuffer), ("io.EOF", laid_io_EOF), ("io.ErrUnexpectedEOF", laid_io_ErrUnexpectedEOF), ("index/suffixarray.maxData32", laid_index_suffixarray_maxData32), ("index/suffixarray.errCorrupted", laid_index_suffixarray_errCorrupted)] }
def FnStreamSaid : Prop := fnStreamRow.holds Tryz.pinned (OpenSpec.ofChange fnStreamSpec)

/-- ITS FALSE NEIGHBOUR: 'it returns false'. Refute it at one input. -/
def fnStreamWrong : ChangeSpec := { name := "fnStream", fn := fun _ => fun
  | [d1, d2, d3, d4] => { results := [.lit (.bool false)], args := [d1, d2, d3, d4] }
  | _ => none }
def FnStreamWrongFalsely : Prop := fnStreamRow.holds Tryz.pinned (OpenSpec.ofChange fnStreamWrong)

/-- 'laws.FnStreamApart': WHATEVER THE INPUT: true; the input reads as it did. -/
def fnStreamApartSpec : ChangeSpec := { name := "fnStreamApart", fn := fun _ => fun
  | [d1, d2] => { results := [.lit (.bool true)], args := [d1, d2] }
  | _ => none }
def fnStreamApartRow : OpenClaim := { program := "ytoebcbmkkhbldaagreatdoor", sum := "0b3004d00124cfa58bfce84fd73aa1b13651201fc08e24e1c3c90531213f4a6d", func := "lib-bellfounder/laws.FnStreamApart", spec := "fnStreamApart", inPlace := ["internal/bytealg.Compare"], unfollowed := true, recurses := true, named := ["index/suffixarray.maxData32", "index/suffixarray.errCorrupted", "io.ErrShortBuffer", "io.EOF", "io.ErrUnexpectedEOF"], apart := false, laid := [("io.ErrShortBuffer", laid_io_ErrShortBuffer), ("io.EOF", laid_io_EOF), ("io.ErrUnexpectedEOF", laid_io_ErrUnexpectedEOF), ("index/suffixarray.maxData32", laid_index_suffixarray_maxData32), ("index/suffixarray.errCorrupted", laid_index_suffixarray_errCorrupted)] }
def FnStreamApartSaid : Prop := fnStreamApartRow.holds Tryz.pinned (OpenSpec.ofChange fnStreamApartSpec)

/-- ITS FALSE NEIGHBOUR: 'it returns false'. Refute it at one input. -/
def fnStreamApartWrong : ChangeSpec := { name := "fnStreamApart", fn := fun _ => fun
  | [d1, d2] => { results := [.lit (.bool false)], args := [d1, d2] }
  | _ => none }
def FnStreamApartWrongFalsely : Prop := fnStreamApartRow.holds Tryz.pinned (OpenSpec.ofChange fnStreamApartWrong)

/-- 'laws.FnStreamOver': WHATEVER THE INPUT: true; the input reads as it did. -/
def fnStreamOverSpec : ChangeSpec := { name := "fnStreamOver", fn := fun _ => fun
  | [d1, d2] => { results := [.lit (.bool true)], args := [d1, d2] }
  | _ => none }
def fnStreamOverRow : OpenClaim := { program := "ytoebcbmkkhbldaagreatdoor", sum := "0b3004d00124cfa58bfce84fd73aa1b13651201fc08e24e1c3c90531213f4a6d", func := "lib-bellfounder/laws.FnStreamOver", spec := "fnStreamOver", inPlace := ["internal/bytealg.Compare"], unfollowed := true, recurses := true, named := ["index/suffixarray.maxData32", "index/suffixarray.errCorrupted", "io.ErrShortBuffer", "io.EOF", "io.ErrUnexpectedEOF"], apart := false, laid := [("io.ErrShortBuffer", laid_io_ErrShortBuffer), ("io.EOF", laid_io_EOF), ("io.ErrUnexpectedEOF", laid_io_ErrUnexpectedEOF), ("index/suffixarray.maxData32", laid_index_suffixarray_maxData32), ("index/suffixarray.errCorrupted", laid_index_suffixarray_errCorrupted)] }
def FnStreamOverSaid : Prop := fnStreamOverRow.holds Tryz.pinned (OpenSpec.ofChange fnStreamOverSpec)

/-- ITS FALSE NEIGHBOUR: 'it returns false'. Refute it at one input. -/
def fnStreamOverWrong : ChangeSpec := { name := "fnStreamOver", fn := fun _ => fun
  | [d1, d2] => { results := [.lit (.bool false)], args := [d1, d2] }
  | _ => none }
def FnStreamOverWrongFalsely : Prop := fnStreamOverRow.holds Tryz.pinned (OpenSpec.ofChange fnStreamOverWrong)

/-- 'laws.FnStreamOrder': WHATEVER THE INPUT: true; the input reads as it did. -/
def fnStreamOrderSpec : ChangeSpec := { name := "fnStreamOrder", fn := fun _ => fun
  | [d1, d2, d3] => { results := [.lit (.bool true)], args := [d1, d2, d3] }
  | _ => none }
def fnStreamOrderRow : OpenClaim := { program := "ytoebcbmkkhbldaagreatdoor", sum := "0b3004d00124cfa58bfce84fd73aa1b13651201fc08e24e1c3c90531213f4a6d", func := "lib-bellfounder/laws.FnStreamOrder", spec := "fnStreamOrder", inPlace := ["internal/bytealg.Compare"], unfollowed := true, recurses := true, named := ["index/suffixarray.maxData32", "index/suffixarray.errCorrupted", "io.ErrShortBuffer", "io.EOF", "io.ErrUnexpectedEOF"], apart := false, laid := [("io.ErrShortBuffer", laid_io_ErrShortBuffer), ("io.EOF", laid_io_EOF), ("io.ErrUnexpectedEOF", laid_io_ErrUnexpectedEOF), ("index/suffixarray.maxData32", laid_index_suffixarray_maxData32), ("index/suffixarray.errCorrupted", laid_index_suffixarray_errCorrupted)] }
def FnStreamOrderSaid : Prop := fnStreamOrderRow.holds Tryz.pinned (OpenSpec.ofChange fnStreamOrderSpec)

/-- ITS FALSE NEIGHBOUR: 'it returns false'. Refute it at one input. -/
def fnStreamOrderWrong : ChangeSpec := { name := "fnStreamOrder", fn := fun _ => fun
  | [d1, d2, d3] => { results := [.lit (.bool false)], args := [d1, d2, d3] }
  | _ => none }
def FnStreamOrderWrongFalsely : Prop := fnStreamOrderRow.holds Tryz.pinned (OpenSpec.ofChange fnStreamOrderWrong)

/-- 'laws.FnChunks': WHATEVER THE INPUT: true; the input reads as it did. -/
def fnChunksSpec : ChangeSpec := { name := "fnChunks", fn := fun _ => fun
  | [d1, d2, d3] => { results := [.lit (.bool true)], args := [d1, d2, d3] }
  | _ => none }
def fnChunksRow : OpenClaim := { program := "ytoebcbmkkhbldaagreatdoor", sum := "0b3004d00124cfa58bfce84fd73aa1b13651201fc08e24e1c3c90531213f4a6d", func := "lib-bellfounder/laws.FnChunks", spec := "fnChunks", inPlace := ["internal/bytealg.Compare"], unfollowed := true, recurses := true, named := ["index/suffixarray.maxData32", "index/suffixarray.errCorrupted", "io.ErrShortBuffer", "io.EOF", "io.ErrUnexpectedEOF"], apart := false, laid := [("io.ErrShortBuffer", laid_io_ErrShortBuffer), ("io.EOF", laid_io_EOF), ("io.ErrUnexpectedEOF", laid_io_ErrUnexpectedEOF), ("index/suffixarray.maxData32", laid_index_suffixarray_maxData32), ("index/suffixarray.errCorrupted", laid_index_suffixarray_errCorrupted)] }
def FnChunksSaid : Prop := fnChunksRow.holds Tryz.pinned (OpenSpec.ofChange fnChunksSpec)

/-- ITS FALSE NEIGHBOUR: 'it returns false'. Refute it at one input. -/
def fnChunksWrong : ChangeSpec := { name := "fnChunks", fn := fun _ => fun
  | [d1, d2, d3] => { results := [.lit (.bool false)], args := [d1, d2, d3] }
  | _ => none }
def FnChunksWrongFalsely : Prop := fnChunksRow.holds Tryz.pinned (OpenSpec.ofChange fnChunksWrong)

/-- 'laws.FnChunksAgree': WHATEVER THE INPUT: true; the input reads as it did. -/
def fnChunksAgreeSpec : ChangeSpec := { name := "fnChunksAgree", fn := fun _ => fun
  | [d1, d2, d3] => { results := [.lit (.bool true)], args := [d1, d2, d3] }
  | _ => none }
def fnChunksAgreeRow : OpenClaim := { program := "ytoebcbmkkhbldaagreatdoor", sum := "0b3004d00124cfa58bfce84fd73aa1b13651201fc08e24e1c3c90531213f4a6d", func := "lib-bellfounder/laws.FnChunksAgree", spec := "fnChunksAgree", inPlace := ["internal/bytealg.Compare"], unfollowed := true, recurses := true, named := ["index/suffixarray.maxData32", "index/suffixarray.errCorrupted", "io.ErrShortBuffer", "io.EOF", "io.ErrUnexpectedEOF"], apart := false, laid := [("io.ErrShortBuffer", laid_io_ErrShortBuffer), ("io.EOF", laid_io_EOF), ("io.ErrUnexpectedEOF", laid_io_ErrUnexpectedEOF), ("index/suffixarray.maxData32", laid_index_suffixarray_maxData32), ("index/suffixarray.errCorrupted", laid_index_suffixarray_errCorrupted)] }
def FnChunksAgreeSaid : Prop := fnChunksAgreeRow.holds Tryz.pinned (OpenSpec.ofChange fnChunksAgreeSpec)

/-- ITS FALSE NEIGHBOUR: 'it returns false'. Refute it at one input. -/
def fnChunksAgreeWrong : ChangeSpec := { name := "fnChunksAgree", fn := fun _ => fun
  | [d1, d2, d3] => { results := [.lit (.bool false)], args := [d1, d2, d3] }
  | _ => none }
def FnChunksAgreeWrongFalsely : Prop := fnChunksAgreeRow.holds Tryz.pinned (OpenSpec.ofChange fnChunksAgreeWrong)

/-- 'laws.FnCut': WHATEVER THE INPUT: true; the input reads as it did. -/
def fnCutSpec : ChangeSpec := { name := "fnCut", fn := fun _ => fun
  | [d1, d2] => { results := [.lit (.bool true)], args := [d1, d2] }
  | _ => none }
def fnCutRow : OpenClaim := { program := "ytoebcbmkkhbldaagreatdoor", sum := "0b3004d00124cfa58bfce84fd73aa1b13651201fc08e24e1c3c90531213f4a6d", func := "lib-bellfounder/laws.FnCut", spec := "fnCut", inPlace := ["internal/bytealg.Compare"], unfollowed := true, recurses := true, named := ["index/suffixarray.maxData32", "index/suffixarray.errCorrupted", "io.ErrShortBuffer", "io.EOF", "io.ErrUnexpectedEOF"], apart := false, laid := [("io.ErrShortBuffer", laid_io_ErrShortBuffer), ("io.EOF", laid_io_EOF), ("io.ErrUnexpectedEOF", laid_io_ErrUnexpectedEOF), ("index/suffixarray.maxData32", laid_index_suffixarray_maxData32), ("index/suffixarray.errCorrupted", laid_index_suffixarray_errCorrupted)] }
def FnCutSaid : Prop := fnCutRow.holds Tryz.pinned (OpenSpec.ofChange fnCutSpec)

/-- ITS FALSE NEIGHBOUR: 'it returns false'. Refute it at one input. -/
def fnCutWrong : ChangeSpec := { name := "fnCut", fn := fun _ => fun
  | [d1, d2] => { results := [.lit (.bool false)], args := [d1, d2] }
  | _ => none }
def FnCutWrongFalsely : Prop := fnCutRow.holds Tryz.pinned (OpenSpec.ofChange fnCutWrong)

/- THE SECOND FORM. 'bulk': how many values and letters a reading holds, each counted each time it is reached (what is shared counts as often as it is met; a slice's spare places count too). A statement '..UptoSaid' is the law's where the arguments, and the package variables that the reading takes, are together of bulk at most 1048576: NARROWER than '..Said'. Prove '..Said' where nothing that the law and all that it calls make is longer than what came in: it says more and counts as full. Else prove '..UptoSaid'. A law counts once. -/
mutual
def uptoBulk {H : Type} : DataW H → Nat
  | .lit (.string bytes) => bytes.length + 1
  | .lit _ => 1
  | .nil => 1
  | .ptr d => uptoBulk d + 1
  | .slice elems spare => uptoBulkAll elems + uptoBulkAll spare + 1
  | .agg parts => uptoBulkAll parts + 1
  | .iface _ d => uptoBulk d + 1
  | .map entries => uptoBulkEntries entries + 1
  | .held _ => 1
def uptoBulkAll {H : Type} : List (DataW H) → Nat
  | [] => 0
  | d :: r => uptoBulk d + uptoBulkAll r
def uptoBulkEntries {H : Type} : List (Lit × DataW H) → Nat
  | [] => 0
  | x :: r => uptoBulkEntry x + uptoBulkEntries r
def uptoBulkEntry {H : Type} : Lit × DataW H → Nat
  | (.string bytes, d) => bytes.length + uptoBulk d + 1
  | (_, d) => uptoBulk d + 1
 end
def uptoSmall : (H : Type) → List (DataW H) → Bool := fun _ ds => decide (uptoBulkAll ds ≤ 1048576)
def OpenSpec.upto (s : _root_.Go.ChangeSpec) : _root_.Go.OpenSpec := { _root_.Go.OpenSpec.ofChange s with cond := some uptoSmall }

/-- 'laws.FnStream', WHERE WHAT IT READS IS OF BULK AT MOST 1048576: true; the input reads as it did. -/
def fnStreamUptoRow : OpenClaim := { program := "ytoebcbmkkhbldaagreatdoor", sum := "0b3004d00124cfa58bfce84fd73aa1b13651201fc08e24e1c3c90531213f4a6d", func := "lib-bellfounder/laws.FnStream", spec := "fnStream", inPlace := ["internal/bytealg.Compare"], unfollowed := true, recurses := true, named := ["index/suffixarray.maxData32", "index/suffixarray.errCorrupted", "io.ErrShortBuffer", "io.EOF", "io.ErrUnexpectedEOF"], apart := false, laid := [("io.ErrShortBuffer", laid_io_ErrShortBuffer), ("io.EOF", laid_io_EOF), ("io.ErrUnexpectedEOF", laid_io_ErrUnexpectedEOF), ("index/suffixarray.maxData32", laid_index_suffixarray_maxData32), ("index/suffixarray.errCorrupted", laid_index_suffixarray_errCorrupted)], narrowed := true }
def FnStreamUptoSaid : Prop := fnStreamUptoRow.holds Tryz.pinned (OpenSpec.upto fnStreamSpec)

/-- 'laws.FnStreamApart', WHERE WHAT IT READS IS OF BULK AT MOST 1048576: true; the input reads as it did. -/
def fnStreamApartUptoRow : OpenClaim := { program := "ytoebcbmkkhbldaagreatdoor", sum := "0b3004d00124cfa58bfce84fd73aa1b13651201fc08e24e1c3c90531213f4a6d", func := "lib-bellfounder/laws.FnStreamApart", spec := "fnStreamApart", inPlace := ["internal/bytealg.Compare"], unfollowed := true, recurses := true, named := ["index/suffixarray.maxData32", "index/suffixarray.errCorrupted", "io.ErrShortBuffer", "io.EOF", "io.ErrUnexpectedEOF"], apart := false, laid := [("io.ErrShortBuffer", laid_io_ErrShortBuffer), ("io.EOF", laid_io_EOF), ("io.ErrUnexpectedEOF", laid_io_ErrUnexpectedEOF), ("index/suffixarray.maxData32", laid_index_suffixarray_maxData32), ("index/suffixarray.errCorrupted", laid_index_suffixarray_errCorrupted)], narrowed := true }
def FnStreamApartUptoSaid : Prop := fnStreamApartUptoRow.holds Tryz.pinned (OpenSpec.upto fnStreamApartSpec)

/-- 'laws.FnStreamOver', WHERE WHAT IT READS IS OF BULK AT MOST 1048576: true; the input reads as it did. -/
def fnStreamOverUptoRow : OpenClaim := { program := "ytoebcbmkkhbldaagreatdoor", sum := "0b3004d00124cfa58bfce84fd73aa1b13651201fc08e24e1c3c90531213f4a6d", func := "lib-bellfounder/laws.FnStreamOver", spec := "fnStreamOver", inPlace := ["internal/bytealg.Compare"], unfollowed := true, recurses := true, named := ["index/suffixarray.maxData32", "index/suffixarray.errCorrupted", "io.ErrShortBuffer", "io.EOF", "io.ErrUnexpectedEOF"], apart := false, laid := [("io.ErrShortBuffer", laid_io_ErrShortBuffer), ("io.EOF", laid_io_EOF), ("io.ErrUnexpectedEOF", laid_io_ErrUnexpectedEOF), ("index/suffixarray.maxData32", laid_index_suffixarray_maxData32), ("index/suffixarray.errCorrupted", laid_index_suffixarray_errCorrupted)], narrowed := true }
def FnStreamOverUptoSaid : Prop := fnStreamOverUptoRow.holds Tryz.pinned (OpenSpec.upto fnStreamOverSpec)

/-- 'laws.FnStreamOrder', WHERE WHAT IT READS IS OF BULK AT MOST 1048576: true; the input reads as it did. -/
def fnStreamOrderUptoRow : OpenClaim := { program := "ytoebcbmkkhbldaagreatdoor", sum := "0b3004d00124cfa58bfce84fd73aa1b13651201fc08e24e1c3c90531213f4a6d", func := "lib-bellfounder/laws.FnStreamOrder", spec := "fnStreamOrder", inPlace := ["internal/bytealg.Compare"], unfollowed := true, recurses := true, named := ["index/suffixarray.maxData32", "index/suffixarray.errCorrupted", "io.ErrShortBuffer", "io.EOF", "io.ErrUnexpectedEOF"], apart := false, laid := [("io.ErrShortBuffer", laid_io_ErrShortBuffer), ("io.EOF", laid_io_EOF), ("io.ErrUnexpectedEOF", laid_io_ErrUnexpectedEOF), ("index/suffixarray.maxData32", laid_index_suffixarray_maxData32), ("index/suffixarray.errCorrupted", laid_index_suffixarray_errCorrupted)], narrowed := true }
def FnStreamOrderUptoSaid : Prop := fnStreamOrderUptoRow.holds Tryz.pinned (OpenSpec.upto fnStreamOrderSpec)

/-- 'laws.FnChunks', WHERE WHAT IT READS IS OF BULK AT MOST 1048576: true; the input reads as it did. -/
def fnChunksUptoRow : OpenClaim := { program := "ytoebcbmkkhbldaagreatdoor", sum := "0b3004d00124cfa58bfce84fd73aa1b13651201fc08e24e1c3c90531213f4a6d", func := "lib-bellfounder/laws.FnChunks", spec := "fnChunks", inPlace := ["internal/bytealg.Compare"], unfollowed := true, recurses := true, named := ["index/suffixarray.maxData32", "index/suffixarray.errCorrupted", "io.ErrShortBuffer", "io.EOF", "io.ErrUnexpectedEOF"], apart := false, laid := [("io.ErrShortBuffer", laid_io_ErrShortBuffer), ("io.EOF", laid_io_EOF), ("io.ErrUnexpectedEOF", laid_io_ErrUnexpectedEOF), ("index/suffixarray.maxData32", laid_index_suffixarray_maxData32), ("index/suffixarray.errCorrupted", laid_index_suffixarray_errCorrupted)], narrowed := true }
def FnChunksUptoSaid : Prop := fnChunksUptoRow.holds Tryz.pinned (OpenSpec.upto fnChunksSpec)

/-- 'laws.FnChunksAgree', WHERE WHAT IT READS IS OF BULK AT MOST 1048576: true; the input reads as it did. -/
def fnChunksAgreeUptoRow : OpenClaim := { program := "ytoebcbmkkhbldaagreatdoor", sum := "0b3004d00124cfa58bfce84fd73aa1b13651201fc08e24e1c3c90531213f4a6d", func := "lib-bellfounder/laws.FnChunksAgree", spec := "fnChunksAgree", inPlace := ["internal/bytealg.Compare"], unfollowed := true, recurses := true, named := ["index/suffixarray.maxData32", "index/suffixarray.errCorrupted", "io.ErrShortBuffer", "io.EOF", "io.ErrUnexpectedEOF"], apart := false, laid := [("io.ErrShortBuffer", laid_io_ErrShortBuffer), ("io.EOF", laid_io_EOF), ("io.ErrUnexpectedEOF", laid_io_ErrUnexpectedEOF), ("index/suffixarray.maxData32", laid_index_suffixarray_maxData32), ("index/suffixarray.errCorrupted", laid_index_suffixarray_errCorrupted)], narrowed := true }
def FnChunksAgreeUptoSaid : Prop := fnChunksAgreeUptoRow.holds Tryz.pinned (OpenSpec.upto fnChunksAgreeSpec)

/-- 'laws.FnCut', WHERE WHAT IT READS IS OF BULK AT MOST 1048576: true; the input reads as it did. -/
def fnCutUptoRow : OpenClaim := { program := "ytoebcbmkkhbldaagreatdoor", sum := "0b3004d00124cfa58bfce84fd73aa1b13651201fc08e24e1c3c90531213f4a6d", func := "lib-bellfounder/laws.FnCut", spec := "fnCut", inPlace := ["internal/bytealg.Compare"], unfollowed := true, recurses := true, named := ["index/suffixarray.maxData32", "index/suffixarray.errCorrupted", "io.ErrShortBuffer", "io.EOF", "io.ErrUnexpectedEOF"], apart := false, laid := [("io.ErrShortBuffer", laid_io_ErrShortBuffer), ("io.EOF", laid_io_EOF), ("io.ErrUnexpectedEOF", laid_io_ErrUnexpectedEOF), ("index/suffixarray.maxData32", laid_index_suffixarray_maxData32), ("index/suffixarray.errCorrupted", laid_index_suffixarray_errCorrupted)], narrowed := true }
def FnCutUptoSaid : Prop := fnCutUptoRow.holds Tryz.pinned (OpenSpec.upto fnCutSpec)

end Rows
end Go.Proofs.YtoebcbmkkhbldaaGreatDoor

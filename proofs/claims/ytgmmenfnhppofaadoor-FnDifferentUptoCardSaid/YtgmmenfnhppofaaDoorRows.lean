/-
  NARROWER THAN 'FOR EVERY INPUT', by the rows' own cells (each row's printed sentence says how): FnApart: laid · FnChanged: laid · FnInside: laid · FnPeriod: laid · FnPut: laid · FnSplit: laid · FnThrough: laid · FnTimes: laid · FnTurned: laid · FnAlone: laid · FnBefore: laid · FnDifferent: laid · FnFree: laid · FnLookups: laid · FnMost: laid · FnRepeated: laid · FnShared: laid · FnWhere: laid · FnFull: laid · FnRest: laid · FnWrittenPieces: laid · FnAgain: laid · FnStreamLess: laid.
  DERIVED. THE GIVEN ROWS OF THIS SEAT. 23 by the template 'for every input the law returns true; each argument reads behind the call as it read before'; 0 by the template 'total and deterministic' (their statements: YtgmmenfnhppofaaDoorTotals.lean).
  GIVEN WITH THE SEED: the statements are not yours to turn. If you find one false, say at which input.
  Laid BY PROGRAM, IN A SANDBOX (cutbox-rows.mjs): the forced cells as the released guide's own fill.sh prints them over the translation c00b534a4d5ad314… (all of the seat's roots in one cut). By AI agents, Wed Nov 11 2026. No macro, syntax, notation, axiom, sorry.
-/
import Derived.Test.YtgmmenfnhppofaaDoorChecked
import GoSem.Claim
import GoSem.ClaimJoined
import GoSem.ClaimMapViews
import Derived.JoinedTies
import Derived.KernelRfl
namespace Go.Proofs.YtgmmenfnhppofaaDoor
/- THE CELL 'sum', in the pinned program and in every row, IS THE sha256 OF THE DUMP (.gsa) THAT YtgmmenfnhppofaaDoorProg.lean LOADS. Nothing in Lean hashes anything: it is a label: what it is worth is what the hold of that sum in a sandbox is worth. -/
noncomputable def Tryd.pinned : Pinned := { name := "ytgmmenfnhppofaadoor", sum := "c00b534a4d5ad3149296bc21e15fe9c74efa89a1e8148f76cc2673a84ac0e7b9", checked := Tryd.checked }
namespace Rows
def none {H : Type} : Left H := { results := [], args := [] }

/- WHAT THE LISTED PACKAGE-LEVEL VARIABLES READ AS WHEN THE CALL BEGINS. Each datum BY PROGRAM (the guide's laid-datum.mjs) off the statement by which the dump's own 'gosem.cut.vars' lays the variable. In a bare row this is a premise. The card (YtgmmenfnhppofaaDoorCards.lean) ties it to the program's text. -/
def laid_index_suffixarray_maxData32 {H : Type} : DataW H := .lit (.int .i64 2147483647)
def laid_io_ErrShortBuffer {H : Type} : DataW H := .iface "*errors.errorString" (.ptr (.agg [.lit (.string [115, 104, 111, 114, 116, 32, 98, 117, 102, 102, 101, 114])]))
def laid_io_EOF {H : Type} : DataW H := .iface "*errors.errorString" (.ptr (.agg [.lit (.string [69, 79, 70])]))
def laid_io_ErrUnexpectedEOF {H : Type} : DataW H := .iface "*errors.errorString" (.ptr (.agg [.lit (.string [117, 110, 101, 120, 112, 101, 99, 116, 101, 100, 32, 69, 79, 70])]))
def laid_index_suffixarray_errCorrupted {H : Type} : DataW H := .iface "*errors.errorString" (.ptr (.agg [.lit (.string [115, 117, 102, 102, 105, 120, 97, 114, 114, 97, 121, 58, 32, 100, 97, 116, 97, 32, 99, 111, 114, 114, 117, 112, 116, 101, 100])]))

/-- 'laws.FnApart': WHATEVER THE INPUT: true; the input reads as it did. -/
def fnApartSpec : ChangeSpec := { name := "fnApart", fn := fun _ => fun
  | [d1, d2] => { results := [.lit (.bool true)], args := [d1, d2] }
  | _ => none }
def fnApartRow : OpenClaim := { program := "ytgmmenfnhppofaadoor", sum := "c00b534a4d5ad3149296bc21e15fe9c74efa89a1e8148f76cc2673a84ac0e7b9", func := "lib-bellfounder/laws.FnApart", spec := "fnApart", inPlace := ["internal/bytealg.Compare"], unfollowed := true, recurses := true, named := ["index/suffixarray.maxData32"], apart := false, laid := [("index/suffixarray.maxData32", laid_index_suffixarray_maxData32)] }
def FnApartSaid : Prop := fnApartRow.holds Tryd.pinned (OpenSpec.ofChange fnApartSpec)

/-- ITS FALSE NEIGHBOUR: 'it returns false'. Refute it at one input. -/
def fnApartWrong : ChangeSpec := { name := "fnApart", fn := fun _ => fun
  | [d1, d2] => { results := [.lit (.bool false)], args := [d1, d2] }
  | _ => none }
def FnApartWrongFalsely : Prop := fnApartRow.holds Tryd.pinned (OpenSpec.ofChange fnApartWrong)

/-- 'laws.FnChanged': WHATEVER THE INPUT: true; the input reads as it did. -/
def fnChangedSpec : ChangeSpec := { name := "fnChanged", fn := fun _ => fun
  | [d1, d2, d3, d4] => { results := [.lit (.bool true)], args := [d1, d2, d3, d4] }
  | _ => none }
def fnChangedRow : OpenClaim := { program := "ytgmmenfnhppofaadoor", sum := "c00b534a4d5ad3149296bc21e15fe9c74efa89a1e8148f76cc2673a84ac0e7b9", func := "lib-bellfounder/laws.FnChanged", spec := "fnChanged", inPlace := ["internal/bytealg.Compare"], unfollowed := true, recurses := true, named := ["index/suffixarray.maxData32"], apart := false, laid := [("index/suffixarray.maxData32", laid_index_suffixarray_maxData32)] }
def FnChangedSaid : Prop := fnChangedRow.holds Tryd.pinned (OpenSpec.ofChange fnChangedSpec)

/-- ITS FALSE NEIGHBOUR: 'it returns false'. Refute it at one input. -/
def fnChangedWrong : ChangeSpec := { name := "fnChanged", fn := fun _ => fun
  | [d1, d2, d3, d4] => { results := [.lit (.bool false)], args := [d1, d2, d3, d4] }
  | _ => none }
def FnChangedWrongFalsely : Prop := fnChangedRow.holds Tryd.pinned (OpenSpec.ofChange fnChangedWrong)

/-- 'laws.FnInside': WHATEVER THE INPUT: true; the input reads as it did. -/
def fnInsideSpec : ChangeSpec := { name := "fnInside", fn := fun _ => fun
  | [d1, d2] => { results := [.lit (.bool true)], args := [d1, d2] }
  | _ => none }
def fnInsideRow : OpenClaim := { program := "ytgmmenfnhppofaadoor", sum := "c00b534a4d5ad3149296bc21e15fe9c74efa89a1e8148f76cc2673a84ac0e7b9", func := "lib-bellfounder/laws.FnInside", spec := "fnInside", inPlace := ["internal/bytealg.Compare"], unfollowed := true, recurses := true, named := ["index/suffixarray.maxData32"], apart := false, laid := [("index/suffixarray.maxData32", laid_index_suffixarray_maxData32)] }
def FnInsideSaid : Prop := fnInsideRow.holds Tryd.pinned (OpenSpec.ofChange fnInsideSpec)

/-- ITS FALSE NEIGHBOUR: 'it returns false'. Refute it at one input. -/
def fnInsideWrong : ChangeSpec := { name := "fnInside", fn := fun _ => fun
  | [d1, d2] => { results := [.lit (.bool false)], args := [d1, d2] }
  | _ => none }
def FnInsideWrongFalsely : Prop := fnInsideRow.holds Tryd.pinned (OpenSpec.ofChange fnInsideWrong)

/-- 'laws.FnPeriod': WHATEVER THE INPUT: true; the input reads as it did. -/
def fnPeriodSpec : ChangeSpec := { name := "fnPeriod", fn := fun _ => fun
  | [d1, d2] => { results := [.lit (.bool true)], args := [d1, d2] }
  | _ => none }
def fnPeriodRow : OpenClaim := { program := "ytgmmenfnhppofaadoor", sum := "c00b534a4d5ad3149296bc21e15fe9c74efa89a1e8148f76cc2673a84ac0e7b9", func := "lib-bellfounder/laws.FnPeriod", spec := "fnPeriod", inPlace := ["internal/bytealg.Compare"], unfollowed := true, recurses := true, named := ["index/suffixarray.maxData32"], apart := false, laid := [("index/suffixarray.maxData32", laid_index_suffixarray_maxData32)] }
def FnPeriodSaid : Prop := fnPeriodRow.holds Tryd.pinned (OpenSpec.ofChange fnPeriodSpec)

/-- ITS FALSE NEIGHBOUR: 'it returns false'. Refute it at one input. -/
def fnPeriodWrong : ChangeSpec := { name := "fnPeriod", fn := fun _ => fun
  | [d1, d2] => { results := [.lit (.bool false)], args := [d1, d2] }
  | _ => none }
def FnPeriodWrongFalsely : Prop := fnPeriodRow.holds Tryd.pinned (OpenSpec.ofChange fnPeriodWrong)

/-- 'laws.FnPut': WHATEVER THE INPUT: true; the input reads as it did. -/
def fnPutSpec : ChangeSpec := { name := "fnPut", fn := fun _ => fun
  | [d1, d2, d3, d4] => { results := [.lit (.bool true)], args := [d1, d2, d3, d4] }
  | _ => none }
def fnPutRow : OpenClaim := { program := "ytgmmenfnhppofaadoor", sum := "c00b534a4d5ad3149296bc21e15fe9c74efa89a1e8148f76cc2673a84ac0e7b9", func := "lib-bellfounder/laws.FnPut", spec := "fnPut", inPlace := ["internal/bytealg.Compare"], unfollowed := true, recurses := true, named := ["index/suffixarray.maxData32"], apart := false, laid := [("index/suffixarray.maxData32", laid_index_suffixarray_maxData32)] }
def FnPutSaid : Prop := fnPutRow.holds Tryd.pinned (OpenSpec.ofChange fnPutSpec)

/-- ITS FALSE NEIGHBOUR: 'it returns false'. Refute it at one input. -/
def fnPutWrong : ChangeSpec := { name := "fnPut", fn := fun _ => fun
  | [d1, d2, d3, d4] => { results := [.lit (.bool false)], args := [d1, d2, d3, d4] }
  | _ => none }
def FnPutWrongFalsely : Prop := fnPutRow.holds Tryd.pinned (OpenSpec.ofChange fnPutWrong)

/-- 'laws.FnSplit': WHATEVER THE INPUT: true; the input reads as it did. -/
def fnSplitSpec : ChangeSpec := { name := "fnSplit", fn := fun _ => fun
  | [d1, d2, d3] => { results := [.lit (.bool true)], args := [d1, d2, d3] }
  | _ => none }
def fnSplitRow : OpenClaim := { program := "ytgmmenfnhppofaadoor", sum := "c00b534a4d5ad3149296bc21e15fe9c74efa89a1e8148f76cc2673a84ac0e7b9", func := "lib-bellfounder/laws.FnSplit", spec := "fnSplit", inPlace := ["internal/bytealg.Compare"], unfollowed := true, recurses := true, named := ["index/suffixarray.maxData32"], apart := false, laid := [("index/suffixarray.maxData32", laid_index_suffixarray_maxData32)] }
def FnSplitSaid : Prop := fnSplitRow.holds Tryd.pinned (OpenSpec.ofChange fnSplitSpec)

/-- ITS FALSE NEIGHBOUR: 'it returns false'. Refute it at one input. -/
def fnSplitWrong : ChangeSpec := { name := "fnSplit", fn := fun _ => fun
  | [d1, d2, d3] => { results := [.lit (.bool false)], args := [d1, d2, d3] }
  | _ => none }
def FnSplitWrongFalsely : Prop := fnSplitRow.holds Tryd.pinned (OpenSpec.ofChange fnSplitWrong)

/-- 'laws.FnThrough': WHATEVER THE INPUT: true; the input reads as it did. -/
def fnThroughSpec : ChangeSpec := { name := "fnThrough", fn := fun _ => fun
  | [d1, d2, d3] => { results := [.lit (.bool true)], args := [d1, d2, d3] }
  | _ => none }
def fnThroughRow : OpenClaim := { program := "ytgmmenfnhppofaadoor", sum := "c00b534a4d5ad3149296bc21e15fe9c74efa89a1e8148f76cc2673a84ac0e7b9", func := "lib-bellfounder/laws.FnThrough", spec := "fnThrough", inPlace := ["internal/bytealg.Compare"], unfollowed := true, recurses := true, named := ["index/suffixarray.maxData32"], apart := false, laid := [("index/suffixarray.maxData32", laid_index_suffixarray_maxData32)] }
def FnThroughSaid : Prop := fnThroughRow.holds Tryd.pinned (OpenSpec.ofChange fnThroughSpec)

/-- ITS FALSE NEIGHBOUR: 'it returns false'. Refute it at one input. -/
def fnThroughWrong : ChangeSpec := { name := "fnThrough", fn := fun _ => fun
  | [d1, d2, d3] => { results := [.lit (.bool false)], args := [d1, d2, d3] }
  | _ => none }
def FnThroughWrongFalsely : Prop := fnThroughRow.holds Tryd.pinned (OpenSpec.ofChange fnThroughWrong)

/-- 'laws.FnTimes': WHATEVER THE INPUT: true; the input reads as it did. -/
def fnTimesSpec : ChangeSpec := { name := "fnTimes", fn := fun _ => fun
  | [d1, d2] => { results := [.lit (.bool true)], args := [d1, d2] }
  | _ => none }
def fnTimesRow : OpenClaim := { program := "ytgmmenfnhppofaadoor", sum := "c00b534a4d5ad3149296bc21e15fe9c74efa89a1e8148f76cc2673a84ac0e7b9", func := "lib-bellfounder/laws.FnTimes", spec := "fnTimes", inPlace := ["internal/bytealg.Compare"], unfollowed := true, recurses := true, named := ["index/suffixarray.maxData32"], apart := false, laid := [("index/suffixarray.maxData32", laid_index_suffixarray_maxData32)] }
def FnTimesSaid : Prop := fnTimesRow.holds Tryd.pinned (OpenSpec.ofChange fnTimesSpec)

/-- ITS FALSE NEIGHBOUR: 'it returns false'. Refute it at one input. -/
def fnTimesWrong : ChangeSpec := { name := "fnTimes", fn := fun _ => fun
  | [d1, d2] => { results := [.lit (.bool false)], args := [d1, d2] }
  | _ => none }
def FnTimesWrongFalsely : Prop := fnTimesRow.holds Tryd.pinned (OpenSpec.ofChange fnTimesWrong)

/-- 'laws.FnTurned': WHATEVER THE INPUT: true; the input reads as it did. -/
def fnTurnedSpec : ChangeSpec := { name := "fnTurned", fn := fun _ => fun
  | [d] => { results := [.lit (.bool true)], args := [d] }
  | _ => none }
def fnTurnedRow : OpenClaim := { program := "ytgmmenfnhppofaadoor", sum := "c00b534a4d5ad3149296bc21e15fe9c74efa89a1e8148f76cc2673a84ac0e7b9", func := "lib-bellfounder/laws.FnTurned", spec := "fnTurned", inPlace := ["internal/bytealg.Compare"], unfollowed := true, recurses := true, named := ["index/suffixarray.maxData32"], apart := false, laid := [("index/suffixarray.maxData32", laid_index_suffixarray_maxData32)] }
def FnTurnedSaid : Prop := fnTurnedRow.holds Tryd.pinned (OpenSpec.ofChange fnTurnedSpec)

/-- ITS FALSE NEIGHBOUR: 'it returns false'. Refute it at one input. -/
def fnTurnedWrong : ChangeSpec := { name := "fnTurned", fn := fun _ => fun
  | [d] => { results := [.lit (.bool false)], args := [d] }
  | _ => none }
def FnTurnedWrongFalsely : Prop := fnTurnedRow.holds Tryd.pinned (OpenSpec.ofChange fnTurnedWrong)

/-- 'laws.FnAlone': WHATEVER THE INPUT: true; the input reads as it did. -/
def fnAloneSpec : ChangeSpec := { name := "fnAlone", fn := fun _ => fun
  | [d1, d2] => { results := [.lit (.bool true)], args := [d1, d2] }
  | _ => none }
def fnAloneRow : OpenClaim := { program := "ytgmmenfnhppofaadoor", sum := "c00b534a4d5ad3149296bc21e15fe9c74efa89a1e8148f76cc2673a84ac0e7b9", func := "lib-bellfounder/laws.FnAlone", spec := "fnAlone", inPlace := ["internal/bytealg.Compare"], unfollowed := true, recurses := true, named := ["index/suffixarray.maxData32"], apart := false, laid := [("index/suffixarray.maxData32", laid_index_suffixarray_maxData32)] }
def FnAloneSaid : Prop := fnAloneRow.holds Tryd.pinned (OpenSpec.ofChange fnAloneSpec)

/-- ITS FALSE NEIGHBOUR: 'it returns false'. Refute it at one input. -/
def fnAloneWrong : ChangeSpec := { name := "fnAlone", fn := fun _ => fun
  | [d1, d2] => { results := [.lit (.bool false)], args := [d1, d2] }
  | _ => none }
def FnAloneWrongFalsely : Prop := fnAloneRow.holds Tryd.pinned (OpenSpec.ofChange fnAloneWrong)

/-- 'laws.FnBefore': WHATEVER THE INPUT: true; the input reads as it did. -/
def fnBeforeSpec : ChangeSpec := { name := "fnBefore", fn := fun _ => fun
  | [d1, d2] => { results := [.lit (.bool true)], args := [d1, d2] }
  | _ => none }
def fnBeforeRow : OpenClaim := { program := "ytgmmenfnhppofaadoor", sum := "c00b534a4d5ad3149296bc21e15fe9c74efa89a1e8148f76cc2673a84ac0e7b9", func := "lib-bellfounder/laws.FnBefore", spec := "fnBefore", inPlace := ["internal/bytealg.Compare"], unfollowed := true, recurses := true, named := ["index/suffixarray.maxData32"], apart := false, laid := [("index/suffixarray.maxData32", laid_index_suffixarray_maxData32)] }
def FnBeforeSaid : Prop := fnBeforeRow.holds Tryd.pinned (OpenSpec.ofChange fnBeforeSpec)

/-- ITS FALSE NEIGHBOUR: 'it returns false'. Refute it at one input. -/
def fnBeforeWrong : ChangeSpec := { name := "fnBefore", fn := fun _ => fun
  | [d1, d2] => { results := [.lit (.bool false)], args := [d1, d2] }
  | _ => none }
def FnBeforeWrongFalsely : Prop := fnBeforeRow.holds Tryd.pinned (OpenSpec.ofChange fnBeforeWrong)

/-- 'laws.FnDifferent': WHATEVER THE INPUT: true; the input reads as it did. -/
def fnDifferentSpec : ChangeSpec := { name := "fnDifferent", fn := fun _ => fun
  | [d1, d2] => { results := [.lit (.bool true)], args := [d1, d2] }
  | _ => none }
def fnDifferentRow : OpenClaim := { program := "ytgmmenfnhppofaadoor", sum := "c00b534a4d5ad3149296bc21e15fe9c74efa89a1e8148f76cc2673a84ac0e7b9", func := "lib-bellfounder/laws.FnDifferent", spec := "fnDifferent", inPlace := ["internal/bytealg.Compare"], unfollowed := true, recurses := true, named := ["index/suffixarray.maxData32"], apart := false, laid := [("index/suffixarray.maxData32", laid_index_suffixarray_maxData32)] }
def FnDifferentSaid : Prop := fnDifferentRow.holds Tryd.pinned (OpenSpec.ofChange fnDifferentSpec)

/-- ITS FALSE NEIGHBOUR: 'it returns false'. Refute it at one input. -/
def fnDifferentWrong : ChangeSpec := { name := "fnDifferent", fn := fun _ => fun
  | [d1, d2] => { results := [.lit (.bool false)], args := [d1, d2] }
  | _ => none }
def FnDifferentWrongFalsely : Prop := fnDifferentRow.holds Tryd.pinned (OpenSpec.ofChange fnDifferentWrong)

/-- 'laws.FnFree': WHATEVER THE INPUT: true; the input reads as it did. -/
def fnFreeSpec : ChangeSpec := { name := "fnFree", fn := fun _ => fun
  | [d1, d2, d3] => { results := [.lit (.bool true)], args := [d1, d2, d3] }
  | _ => none }
def fnFreeRow : OpenClaim := { program := "ytgmmenfnhppofaadoor", sum := "c00b534a4d5ad3149296bc21e15fe9c74efa89a1e8148f76cc2673a84ac0e7b9", func := "lib-bellfounder/laws.FnFree", spec := "fnFree", inPlace := ["internal/bytealg.Compare"], unfollowed := true, recurses := true, named := ["index/suffixarray.maxData32"], apart := false, laid := [("index/suffixarray.maxData32", laid_index_suffixarray_maxData32)] }
def FnFreeSaid : Prop := fnFreeRow.holds Tryd.pinned (OpenSpec.ofChange fnFreeSpec)

/-- ITS FALSE NEIGHBOUR: 'it returns false'. Refute it at one input. -/
def fnFreeWrong : ChangeSpec := { name := "fnFree", fn := fun _ => fun
  | [d1, d2, d3] => { results := [.lit (.bool false)], args := [d1, d2, d3] }
  | _ => none }
def FnFreeWrongFalsely : Prop := fnFreeRow.holds Tryd.pinned (OpenSpec.ofChange fnFreeWrong)

/-- 'laws.FnLookups': WHATEVER THE INPUT: true; the input reads as it did. -/
def fnLookupsSpec : ChangeSpec := { name := "fnLookups", fn := fun _ => fun
  | [d1, d2] => { results := [.lit (.bool true)], args := [d1, d2] }
  | _ => none }
def fnLookupsRow : OpenClaim := { program := "ytgmmenfnhppofaadoor", sum := "c00b534a4d5ad3149296bc21e15fe9c74efa89a1e8148f76cc2673a84ac0e7b9", func := "lib-bellfounder/laws.FnLookups", spec := "fnLookups", inPlace := ["internal/bytealg.Compare"], unfollowed := true, recurses := true, named := ["index/suffixarray.maxData32"], apart := false, laid := [("index/suffixarray.maxData32", laid_index_suffixarray_maxData32)] }
def FnLookupsSaid : Prop := fnLookupsRow.holds Tryd.pinned (OpenSpec.ofChange fnLookupsSpec)

/-- ITS FALSE NEIGHBOUR: 'it returns false'. Refute it at one input. -/
def fnLookupsWrong : ChangeSpec := { name := "fnLookups", fn := fun _ => fun
  | [d1, d2] => { results := [.lit (.bool false)], args := [d1, d2] }
  | _ => none }
def FnLookupsWrongFalsely : Prop := fnLookupsRow.holds Tryd.pinned (OpenSpec.ofChange fnLookupsWrong)

/-- 'laws.FnMost': WHATEVER THE INPUT: true; the input reads as it did. -/
def fnMostSpec : ChangeSpec := { name := "fnMost", fn := fun _ => fun
  | [d1, d2, d3, d4] => { results := [.lit (.bool true)], args := [d1, d2, d3, d4] }
  | _ => none }
def fnMostRow : OpenClaim := { program := "ytgmmenfnhppofaadoor", sum := "c00b534a4d5ad3149296bc21e15fe9c74efa89a1e8148f76cc2673a84ac0e7b9", func := "lib-bellfounder/laws.FnMost", spec := "fnMost", inPlace := ["internal/bytealg.Compare"], unfollowed := true, recurses := true, named := ["index/suffixarray.maxData32"], apart := false, laid := [("index/suffixarray.maxData32", laid_index_suffixarray_maxData32)] }
def FnMostSaid : Prop := fnMostRow.holds Tryd.pinned (OpenSpec.ofChange fnMostSpec)

/-- ITS FALSE NEIGHBOUR: 'it returns false'. Refute it at one input. -/
def fnMostWrong : ChangeSpec := { name := "fnMost", fn := fun _ => fun
  | [d1, d2, d3, d4] => { results := [.lit (.bool false)], args := [d1, d2, d3, d4] }
  | _ => none }
def FnMostWrongFalsely : Prop := fnMostRow.holds Tryd.pinned (OpenSpec.ofChange fnMostWrong)

/-- 'laws.FnRepeated': WHATEVER THE INPUT: true; the input reads as it did. -/
def fnRepeatedSpec : ChangeSpec := { name := "fnRepeated", fn := fun _ => fun
  | [d] => { results := [.lit (.bool true)], args := [d] }
  | _ => none }
def fnRepeatedRow : OpenClaim := { program := "ytgmmenfnhppofaadoor", sum := "c00b534a4d5ad3149296bc21e15fe9c74efa89a1e8148f76cc2673a84ac0e7b9", func := "lib-bellfounder/laws.FnRepeated", spec := "fnRepeated", inPlace := ["internal/bytealg.Compare"], unfollowed := true, recurses := true, named := ["index/suffixarray.maxData32"], apart := false, laid := [("index/suffixarray.maxData32", laid_index_suffixarray_maxData32)] }
def FnRepeatedSaid : Prop := fnRepeatedRow.holds Tryd.pinned (OpenSpec.ofChange fnRepeatedSpec)

/-- ITS FALSE NEIGHBOUR: 'it returns false'. Refute it at one input. -/
def fnRepeatedWrong : ChangeSpec := { name := "fnRepeated", fn := fun _ => fun
  | [d] => { results := [.lit (.bool false)], args := [d] }
  | _ => none }
def FnRepeatedWrongFalsely : Prop := fnRepeatedRow.holds Tryd.pinned (OpenSpec.ofChange fnRepeatedWrong)

/-- 'laws.FnShared': WHATEVER THE INPUT: true; the input reads as it did. -/
def fnSharedSpec : ChangeSpec := { name := "fnShared", fn := fun _ => fun
  | [d1, d2] => { results := [.lit (.bool true)], args := [d1, d2] }
  | _ => none }
def fnSharedRow : OpenClaim := { program := "ytgmmenfnhppofaadoor", sum := "c00b534a4d5ad3149296bc21e15fe9c74efa89a1e8148f76cc2673a84ac0e7b9", func := "lib-bellfounder/laws.FnShared", spec := "fnShared", inPlace := ["internal/bytealg.Compare"], unfollowed := true, recurses := true, named := ["index/suffixarray.maxData32"], apart := false, laid := [("index/suffixarray.maxData32", laid_index_suffixarray_maxData32)] }
def FnSharedSaid : Prop := fnSharedRow.holds Tryd.pinned (OpenSpec.ofChange fnSharedSpec)

/-- ITS FALSE NEIGHBOUR: 'it returns false'. Refute it at one input. -/
def fnSharedWrong : ChangeSpec := { name := "fnShared", fn := fun _ => fun
  | [d1, d2] => { results := [.lit (.bool false)], args := [d1, d2] }
  | _ => none }
def FnSharedWrongFalsely : Prop := fnSharedRow.holds Tryd.pinned (OpenSpec.ofChange fnSharedWrong)

/-- 'laws.FnWhere': WHATEVER THE INPUT: true; the input reads as it did. -/
def fnWhereSpec : ChangeSpec := { name := "fnWhere", fn := fun _ => fun
  | [d1, d2] => { results := [.lit (.bool true)], args := [d1, d2] }
  | _ => none }
def fnWhereRow : OpenClaim := { program := "ytgmmenfnhppofaadoor", sum := "c00b534a4d5ad3149296bc21e15fe9c74efa89a1e8148f76cc2673a84ac0e7b9", func := "lib-bellfounder/laws.FnWhere", spec := "fnWhere", inPlace := ["internal/bytealg.Compare"], unfollowed := true, recurses := true, named := ["index/suffixarray.maxData32"], apart := false, laid := [("index/suffixarray.maxData32", laid_index_suffixarray_maxData32)] }
def FnWhereSaid : Prop := fnWhereRow.holds Tryd.pinned (OpenSpec.ofChange fnWhereSpec)

/-- ITS FALSE NEIGHBOUR: 'it returns false'. Refute it at one input. -/
def fnWhereWrong : ChangeSpec := { name := "fnWhere", fn := fun _ => fun
  | [d1, d2] => { results := [.lit (.bool false)], args := [d1, d2] }
  | _ => none }
def FnWhereWrongFalsely : Prop := fnWhereRow.holds Tryd.pinned (OpenSpec.ofChange fnWhereWrong)

/-- 'laws.FnFull': WHATEVER THE INPUT: true; the input reads as it did. -/
def fnFullSpec : ChangeSpec := { name := "fnFull", fn := fun _ => fun
  | [d1, d2] => { results := [.lit (.bool true)], args := [d1, d2] }
  | _ => none }
def fnFullRow : OpenClaim := { program := "ytgmmenfnhppofaadoor", sum := "c00b534a4d5ad3149296bc21e15fe9c74efa89a1e8148f76cc2673a84ac0e7b9", func := "lib-bellfounder/laws.FnFull", spec := "fnFull", inPlace := ["internal/bytealg.Compare"], unfollowed := true, recurses := true, named := ["index/suffixarray.maxData32"], apart := false, laid := [("index/suffixarray.maxData32", laid_index_suffixarray_maxData32)] }
def FnFullSaid : Prop := fnFullRow.holds Tryd.pinned (OpenSpec.ofChange fnFullSpec)

/-- ITS FALSE NEIGHBOUR: 'it returns false'. Refute it at one input. -/
def fnFullWrong : ChangeSpec := { name := "fnFull", fn := fun _ => fun
  | [d1, d2] => { results := [.lit (.bool false)], args := [d1, d2] }
  | _ => none }
def FnFullWrongFalsely : Prop := fnFullRow.holds Tryd.pinned (OpenSpec.ofChange fnFullWrong)

/-- 'laws.FnRest': WHATEVER THE INPUT: true; the input reads as it did. -/
def fnRestSpec : ChangeSpec := { name := "fnRest", fn := fun _ => fun
  | [d1, d2] => { results := [.lit (.bool true)], args := [d1, d2] }
  | _ => none }
def fnRestRow : OpenClaim := { program := "ytgmmenfnhppofaadoor", sum := "c00b534a4d5ad3149296bc21e15fe9c74efa89a1e8148f76cc2673a84ac0e7b9", func := "lib-bellfounder/laws.FnRest", spec := "fnRest", unfollowed := true, recurses := true, named := ["index/suffixarray.maxData32", "index/suffixarray.errCorrupted", "io.ErrShortBuffer", "io.EOF", "io.ErrUnexpectedEOF"], apart := false, laid := [("io.ErrShortBuffer", laid_io_ErrShortBuffer), ("io.EOF", laid_io_EOF), ("io.ErrUnexpectedEOF", laid_io_ErrUnexpectedEOF), ("index/suffixarray.maxData32", laid_index_suffixarray_maxData32), ("index/suffixarray.errCorrupted", laid_index_suffixarray_errCorrupted)] }
def FnRestSaid : Prop := fnRestRow.holds Tryd.pinned (OpenSpec.ofChange fnRestSpec)

/-- ITS FALSE NEIGHBOUR: 'it returns false'. Refute it at one input. -/
def fnRestWrong : ChangeSpec := { name := "fnRest", fn := fun _ => fun
  | [d1, d2] => { results := [.lit (.bool false)], args := [d1, d2] }
  | _ => none }
def FnRestWrongFalsely : Prop := fnRestRow.holds Tryd.pinned (OpenSpec.ofChange fnRestWrong)

/-- 'laws.FnWrittenPieces': WHATEVER THE INPUT: true; the input reads as it did. -/
def fnWrittenPiecesSpec : ChangeSpec := { name := "fnWrittenPieces", fn := fun _ => fun
  | [d1, d2] => { results := [.lit (.bool true)], args := [d1, d2] }
  | _ => none }
def fnWrittenPiecesRow : OpenClaim := { program := "ytgmmenfnhppofaadoor", sum := "c00b534a4d5ad3149296bc21e15fe9c74efa89a1e8148f76cc2673a84ac0e7b9", func := "lib-bellfounder/laws.FnWrittenPieces", spec := "fnWrittenPieces", unfollowed := true, recurses := true, named := ["index/suffixarray.maxData32", "index/suffixarray.errCorrupted", "io.ErrShortBuffer", "io.EOF", "io.ErrUnexpectedEOF"], apart := false, laid := [("io.ErrShortBuffer", laid_io_ErrShortBuffer), ("io.EOF", laid_io_EOF), ("io.ErrUnexpectedEOF", laid_io_ErrUnexpectedEOF), ("index/suffixarray.maxData32", laid_index_suffixarray_maxData32), ("index/suffixarray.errCorrupted", laid_index_suffixarray_errCorrupted)] }
def FnWrittenPiecesSaid : Prop := fnWrittenPiecesRow.holds Tryd.pinned (OpenSpec.ofChange fnWrittenPiecesSpec)

/-- ITS FALSE NEIGHBOUR: 'it returns false'. Refute it at one input. -/
def fnWrittenPiecesWrong : ChangeSpec := { name := "fnWrittenPieces", fn := fun _ => fun
  | [d1, d2] => { results := [.lit (.bool false)], args := [d1, d2] }
  | _ => none }
def FnWrittenPiecesWrongFalsely : Prop := fnWrittenPiecesRow.holds Tryd.pinned (OpenSpec.ofChange fnWrittenPiecesWrong)

/-- 'laws.FnAgain': WHATEVER THE INPUT: true; the input reads as it did. -/
def fnAgainSpec : ChangeSpec := { name := "fnAgain", fn := fun _ => fun
  | [d] => { results := [.lit (.bool true)], args := [d] }
  | _ => none }
def fnAgainRow : OpenClaim := { program := "ytgmmenfnhppofaadoor", sum := "c00b534a4d5ad3149296bc21e15fe9c74efa89a1e8148f76cc2673a84ac0e7b9", func := "lib-bellfounder/laws.FnAgain", spec := "fnAgain", unfollowed := true, recurses := true, named := ["index/suffixarray.maxData32", "index/suffixarray.errCorrupted", "io.ErrShortBuffer", "io.EOF", "io.ErrUnexpectedEOF"], apart := false, laid := [("io.ErrShortBuffer", laid_io_ErrShortBuffer), ("io.EOF", laid_io_EOF), ("io.ErrUnexpectedEOF", laid_io_ErrUnexpectedEOF), ("index/suffixarray.maxData32", laid_index_suffixarray_maxData32), ("index/suffixarray.errCorrupted", laid_index_suffixarray_errCorrupted)] }
def FnAgainSaid : Prop := fnAgainRow.holds Tryd.pinned (OpenSpec.ofChange fnAgainSpec)

/-- ITS FALSE NEIGHBOUR: 'it returns false'. Refute it at one input. -/
def fnAgainWrong : ChangeSpec := { name := "fnAgain", fn := fun _ => fun
  | [d] => { results := [.lit (.bool false)], args := [d] }
  | _ => none }
def FnAgainWrongFalsely : Prop := fnAgainRow.holds Tryd.pinned (OpenSpec.ofChange fnAgainWrong)

/-- 'laws.FnStreamLess': WHATEVER THE INPUT: true; the input reads as it did. -/
def fnStreamLessSpec : ChangeSpec := { name := "fnStreamLess", fn := fun _ => fun
  | [d1, d2] => { results := [.lit (.bool true)], args := [d1, d2] }
  | _ => none }
def fnStreamLessRow : OpenClaim := { program := "ytgmmenfnhppofaadoor", sum := "c00b534a4d5ad3149296bc21e15fe9c74efa89a1e8148f76cc2673a84ac0e7b9", func := "lib-bellfounder/laws.FnStreamLess", spec := "fnStreamLess", inPlace := ["internal/bytealg.Compare"], unfollowed := true, recurses := true, named := ["index/suffixarray.maxData32", "index/suffixarray.errCorrupted", "io.ErrShortBuffer", "io.EOF", "io.ErrUnexpectedEOF"], apart := false, laid := [("io.ErrShortBuffer", laid_io_ErrShortBuffer), ("io.EOF", laid_io_EOF), ("io.ErrUnexpectedEOF", laid_io_ErrUnexpectedEOF), ("index/suffixarray.maxData32", laid_index_suffixarray_maxData32), ("index/suffixarray.errCorrupted", laid_index_suffixarray_errCorrupted)] }
def FnStreamLessSaid : Prop := fnStreamLessRow.holds Tryd.pinned (OpenSpec.ofChange fnStreamLessSpec)

/-- ITS FALSE NEIGHBOUR: 'it returns false'. Refute it at one input. -/
def fnStreamLessWrong : ChangeSpec := { name := "fnStreamLess", fn := fun _ => fun
  | [d1, d2] => { results := [.lit (.bool false)], args := [d1, d2] }
  | _ => none }
def FnStreamLessWrongFalsely : Prop := fnStreamLessRow.holds Tryd.pinned (OpenSpec.ofChange fnStreamLessWrong)

/- THE SECOND FORM. 'bulk': how many values and letters a reading holds, each counted each time it is reached (what is shared counts as often as it is met; a slice's spare places count too). A statement '..UptoSaid' is the law's where the arguments, and the package variables that the reading takes, are together of bulk at most 1048576: NARROWER than '..Said'. Prove '..Said' where nothing that the law and all that it calls make is longer than what came in: it says more and counts as full. Else prove '..UptoSaid'. A law counts once. -/
mutual
def uptoBulk {H : Type} : DataW H → Nat
  | .lit (.string bytes) => bytes.length + 1
  | .lit _ => 1
  | .nil => 1
  | .ptr d => uptoBulk d + 1
  | .slice elems spare => uptoBulkAll elems + uptoBulkAll spare + 1
  | .agg parts => uptoBulkAll parts + 1
  | .iface _ d => uptoBulk d + 1
  | .map entries => uptoBulkEntries entries + 1
  | .held _ => 1
def uptoBulkAll {H : Type} : List (DataW H) → Nat
  | [] => 0
  | d :: r => uptoBulk d + uptoBulkAll r
def uptoBulkEntries {H : Type} : List (Lit × DataW H) → Nat
  | [] => 0
  | x :: r => uptoBulkEntry x + uptoBulkEntries r
def uptoBulkEntry {H : Type} : Lit × DataW H → Nat
  | (.string bytes, d) => bytes.length + uptoBulk d + 1
  | (_, d) => uptoBulk d + 1
 end
def uptoSmall : (H : Type) → List (DataW H) → Bool := fun _ ds => decide (uptoBulkAll ds ≤ 1048576)
def OpenSpec.upto (s : _root_.Go.ChangeSpec) : _root_.Go.OpenSpec := { _root_.Go.OpenSpec.ofChange s with cond := some uptoSmall }

/-- 'laws.FnApart', WHERE WHAT IT READS IS OF BULK AT MOST 1048576: true; the input reads as it did. -/
def fnApartUptoRow : OpenClaim := { program := "ytgmmenfnhppofaadoor", sum := "c00b534a4d5ad3149296bc21e15fe9c74efa89a1e8148f76cc2673a84ac0e7b9", func := "lib-bellfounder/laws.FnApart", spec := "fnApart", inPlace := ["internal/bytealg.Compare"], unfollowed := true, recurses := true, named := ["index/suffixarray.maxData32"], apart := false, laid := [("index/suffixarray.maxData32", laid_index_suffixarray_maxData32)], narrowed := true }
def FnApartUptoSaid : Prop := fnApartUptoRow.holds Tryd.pinned (OpenSpec.upto fnApartSpec)

/-- 'laws.FnChanged', WHERE WHAT IT READS IS OF BULK AT MOST 1048576: true; the input reads as it did. -/
def fnChangedUptoRow : OpenClaim := { program := "ytgmmenfnhppofaadoor", sum := "c00b534a4d5ad3149296bc21e15fe9c74efa89a1e8148f76cc2673a84ac0e7b9", func := "lib-bellfounder/laws.FnChanged", spec := "fnChanged", inPlace := ["internal/bytealg.Compare"], unfollowed := true, recurses := true, named := ["index/suffixarray.maxData32"], apart := false, laid := [("index/suffixarray.maxData32", laid_index_suffixarray_maxData32)], narrowed := true }
def FnChangedUptoSaid : Prop := fnChangedUptoRow.holds Tryd.pinned (OpenSpec.upto fnChangedSpec)

/-- 'laws.FnInside', WHERE WHAT IT READS IS OF BULK AT MOST 1048576: true; the input reads as it did. -/
def fnInsideUptoRow : OpenClaim := { program := "ytgmmenfnhppofaadoor", sum := "c00b534a4d5ad3149296bc21e15fe9c74efa89a1e8148f76cc2673a84ac0e7b9", func := "lib-bellfounder/laws.FnInside", spec := "fnInside", inPlace := ["internal/bytealg.Compare"], unfollowed := true, recurses := true, named := ["index/suffixarray.maxData32"], apart := false, laid := [("index/suffixarray.maxData32", laid_index_suffixarray_maxData32)], narrowed := true }
def FnInsideUptoSaid : Prop := fnInsideUptoRow.holds Tryd.pinned (OpenSpec.upto fnInsideSpec)

/-- 'laws.FnPeriod', WHERE WHAT IT READS IS OF BULK AT MOST 1048576: true; the input reads as it did. -/
def fnPeriodUptoRow : OpenClaim := { program := "ytgmmenfnhppofaadoor", sum := "c00b534a4d5ad3149296bc21e15fe9c74efa89a1e8148f76cc2673a84ac0e7b9", func := "lib-bellfounder/laws.FnPeriod", spec := "fnPeriod", inPlace := ["internal/bytealg.Compare"], unfollowed := true, recurses := true, named := ["index/suffixarray.maxData32"], apart := false, laid := [("index/suffixarray.maxData32", laid_index_suffixarray_maxData32)], narrowed := true }
def FnPeriodUptoSaid : Prop := fnPeriodUptoRow.holds Tryd.pinned (OpenSpec.upto fnPeriodSpec)

/-- 'laws.FnPut', WHERE WHAT IT READS IS OF BULK AT MOST 1048576: true; the input reads as it did. -/
def fnPutUptoRow : OpenClaim := { program := "ytgmmenfnhppofaadoor", sum := "c00b534a4d5ad3149296bc21e15fe9c74efa89a1e8148f76cc2673a84ac0e7b9", func := "lib-bellfounder/laws.FnPut", spec := "fnPut", inPlace := ["internal/bytealg.Compare"], unfollowed := true, recurses := true, named := ["index/suffixarray.maxData32"], apart := false, laid := [("index/suffixarray.maxData32", laid_index_suffixarray_maxData32)], narrowed := true }
def FnPutUptoSaid : Prop := fnPutUptoRow.holds Tryd.pinned (OpenSpec.upto fnPutSpec)

/-- 'laws.FnSplit', WHERE WHAT IT READS IS OF BULK AT MOST 1048576: true; the input reads as it did. -/
def fnSplitUptoRow : OpenClaim := { program := "ytgmmenfnhppofaadoor", sum := "c00b534a4d5ad3149296bc21e15fe9c74efa89a1e8148f76cc2673a84ac0e7b9", func := "lib-bellfounder/laws.FnSplit", spec := "fnSplit", inPlace := ["internal/bytealg.Compare"], unfollowed := true, recurses := true, named := ["index/suffixarray.maxData32"], apart := false, laid := [("index/suffixarray.maxData32", laid_index_suffixarray_maxData32)], narrowed := true }
def FnSplitUptoSaid : Prop := fnSplitUptoRow.holds Tryd.pinned (OpenSpec.upto fnSplitSpec)

/-- 'laws.FnThrough', WHERE WHAT IT READS IS OF BULK AT MOST 1048576: true; the input reads as it did. -/
def fnThroughUptoRow : OpenClaim := { program := "ytgmmenfnhppofaadoor", sum := "c00b534a4d5ad3149296bc21e15fe9c74efa89a1e8148f76cc2673a84ac0e7b9", func := "lib-bellfounder/laws.FnThrough", spec := "fnThrough", inPlace := ["internal/bytealg.Compare"], unfollowed := true, recurses := true, named := ["index/suffixarray.maxData32"], apart := false, laid := [("index/suffixarray.maxData32", laid_index_suffixarray_maxData32)], narrowed := true }
def FnThroughUptoSaid : Prop := fnThroughUptoRow.holds Tryd.pinned (OpenSpec.upto fnThroughSpec)

/-- 'laws.FnTimes', WHERE WHAT IT READS IS OF BULK AT MOST 1048576: true; the input reads as it did. -/
def fnTimesUptoRow : OpenClaim := { program := "ytgmmenfnhppofaadoor", sum := "c00b534a4d5ad3149296bc21e15fe9c74efa89a1e8148f76cc2673a84ac0e7b9", func := "lib-bellfounder/laws.FnTimes", spec := "fnTimes", inPlace := ["internal/bytealg.Compare"], unfollowed := true, recurses := true, named := ["index/suffixarray.maxData32"], apart := false, laid := [("index/suffixarray.maxData32", laid_index_suffixarray_maxData32)], narrowed := true }
def FnTimesUptoSaid : Prop := fnTimesUptoRow.holds Tryd.pinned (OpenSpec.upto fnTimesSpec)

/-- 'laws.FnTurned', WHERE WHAT IT READS IS OF BULK AT MOST 1048576: true; the input reads as it did. -/
def fnTurnedUptoRow : OpenClaim := { program := "ytgmmenfnhppofaadoor", sum := "c00b534a4d5ad3149296bc21e15fe9c74efa89a1e8148f76cc2673a84ac0e7b9", func := "lib-bellfounder/laws.FnTurned", spec := "fnTurned", inPlace := ["internal/bytealg.Compare"], unfollowed := true, recurses := true, named := ["index/suffixarray.maxData32"], apart := false, laid := [("index/suffixarray.maxData32", laid_index_suffixarray_maxData32)], narrowed := true }
def FnTurnedUptoSaid : Prop := fnTurnedUptoRow.holds Tryd.pinned (OpenSpec.upto fnTurnedSpec)

/-- 'laws.FnAlone', WHERE WHAT IT READS IS OF BULK AT MOST 1048576: true; the input reads as it did. -/
def fnAloneUptoRow : OpenClaim := { program := "ytgmmenfnhppofaadoor", sum := "c00b534a4d5ad3149296bc21e15fe9c74efa89a1e8148f76cc2673a84ac0e7b9", func := "lib-bellfounder/laws.FnAlone", spec := "fnAlone", inPlace := ["internal/bytealg.Compare"], unfollowed := true, recurses := true, named := ["index/suffixarray.maxData32"], apart := false, laid := [("index/suffixarray.maxData32", laid_index_suffixarray_maxData32)], narrowed := true }
def FnAloneUptoSaid : Prop := fnAloneUptoRow.holds Tryd.pinned (OpenSpec.upto fnAloneSpec)

/-- 'laws.FnBefore', WHERE WHAT IT READS IS OF BULK AT MOST 1048576: true; the input reads as it did. -/
def fnBeforeUptoRow : OpenClaim := { program := "ytgmmenfnhppofaadoor", sum := "c00b534a4d5ad3149296bc21e15fe9c74efa89a1e8148f76cc2673a84ac0e7b9", func := "lib-bellfounder/laws.FnBefore", spec := "fnBefore", inPlace := ["internal/bytealg.Compare"], unfollowed := true, recurses := true, named := ["index/suffixarray.maxData32"], apart := false, laid := [("index/suffixarray.maxData32", laid_index_suffixarray_maxData32)], narrowed := true }
def FnBeforeUptoSaid : Prop := fnBeforeUptoRow.holds Tryd.pinned (OpenSpec.upto fnBeforeSpec)

/-- 'laws.FnDifferent', WHERE WHAT IT READS IS OF BULK AT MOST 1048576: true; the input reads as it did. -/
def fnDifferentUptoRow : OpenClaim := { program := "ytgmmenfnhppofaadoor", sum := "c00b534a4d5ad3149296bc21e15fe9c74efa89a1e8148f76cc2673a84ac0e7b9", func := "lib-bellfounder/laws.FnDifferent", spec := "fnDifferent", inPlace := ["internal/bytealg.Compare"], unfollowed := true, recurses := true, named := ["index/suffixarray.maxData32"], apart := false, laid := [("index/suffixarray.maxData32", laid_index_suffixarray_maxData32)], narrowed := true }
def FnDifferentUptoSaid : Prop := fnDifferentUptoRow.holds Tryd.pinned (OpenSpec.upto fnDifferentSpec)

/-- 'laws.FnFree', WHERE WHAT IT READS IS OF BULK AT MOST 1048576: true; the input reads as it did. -/
def fnFreeUptoRow : OpenClaim := { program := "ytgmmenfnhppofaadoor", sum := "c00b534a4d5ad3149296bc21e15fe9c74efa89a1e8148f76cc2673a84ac0e7b9", func := "lib-bellfounder/laws.FnFree", spec := "fnFree", inPlace := ["internal/bytealg.Compare"], unfollowed := true, recurses := true, named := ["index/suffixarray.maxData32"], apart := false, laid := [("index/suffixarray.maxData32", laid_index_suffixarray_maxData32)], narrowed := true }
def FnFreeUptoSaid : Prop := fnFreeUptoRow.holds Tryd.pinned (OpenSpec.upto fnFreeSpec)

/-- 'laws.FnLookups', WHERE WHAT IT READS IS OF BULK AT MOST 1048576: true; the input reads as it did. -/
def fnLookupsUptoRow : OpenClaim := { program := "ytgmmenfnhppofaadoor", sum := "c00b534a4d5ad3149296bc21e15fe9c74efa89a1e8148f76cc2673a84ac0e7b9", func := "lib-bellfounder/laws.FnLookups", spec := "fnLookups", inPlace := ["internal/bytealg.Compare"], unfollowed := true, recurses := true, named := ["index/suffixarray.maxData32"], apart := false, laid := [("index/suffixarray.maxData32", laid_index_suffixarray_maxData32)], narrowed := true }
def FnLookupsUptoSaid : Prop := fnLookupsUptoRow.holds Tryd.pinned (OpenSpec.upto fnLookupsSpec)

/-- 'laws.FnMost', WHERE WHAT IT READS IS OF BULK AT MOST 1048576: true; the input reads as it did. -/
def fnMostUptoRow : OpenClaim := { program := "ytgmmenfnhppofaadoor", sum := "c00b534a4d5ad3149296bc21e15fe9c74efa89a1e8148f76cc2673a84ac0e7b9", func := "lib-bellfounder/laws.FnMost", spec := "fnMost", inPlace := ["internal/bytealg.Compare"], unfollowed := true, recurses := true, named := ["index/suffixarray.maxData32"], apart := false, laid := [("index/suffixarray.maxData32", laid_index_suffixarray_maxData32)], narrowed := true }
def FnMostUptoSaid : Prop := fnMostUptoRow.holds Tryd.pinned (OpenSpec.upto fnMostSpec)

/-- 'laws.FnRepeated', WHERE WHAT IT READS IS OF BULK AT MOST 1048576: true; the input reads as it did. -/
def fnRepeatedUptoRow : OpenClaim := { program := "ytgmmenfnhppofaadoor", sum := "c00b534a4d5ad3149296bc21e15fe9c74efa89a1e8148f76cc2673a84ac0e7b9", func := "lib-bellfounder/laws.FnRepeated", spec := "fnRepeated", inPlace := ["internal/bytealg.Compare"], unfollowed := true, recurses := true, named := ["index/suffixarray.maxData32"], apart := false, laid := [("index/suffixarray.maxData32", laid_index_suffixarray_maxData32)], narrowed := true }
def FnRepeatedUptoSaid : Prop := fnRepeatedUptoRow.holds Tryd.pinned (OpenSpec.upto fnRepeatedSpec)

/-- 'laws.FnShared', WHERE WHAT IT READS IS OF BULK AT MOST 1048576: true; the input reads as it did. -/
def fnSharedUptoRow : OpenClaim := { program := "ytgmmenfnhppofaadoor", sum := "c00b534a4d5ad3149296bc21e15fe9c74efa89a1e8148f76cc2673a84ac0e7b9", func := "lib-bellfounder/laws.FnShared", spec := "fnShared", inPlace := ["internal/bytealg.Compare"], unfollowed := true, recurses := true, named := ["index/suffixarray.maxData32"], apart := false, laid := [("index/suffixarray.maxData32", laid_index_suffixarray_maxData32)], narrowed := true }
def FnSharedUptoSaid : Prop := fnSharedUptoRow.holds Tryd.pinned (OpenSpec.upto fnSharedSpec)

/-- 'laws.FnWhere', WHERE WHAT IT READS IS OF BULK AT MOST 1048576: true; the input reads as it did. -/
def fnWhereUptoRow : OpenClaim := { program := "ytgmmenfnhppofaadoor", sum := "c00b534a4d5ad3149296bc21e15fe9c74efa89a1e8148f76cc2673a84ac0e7b9", func := "lib-bellfounder/laws.FnWhere", spec := "fnWhere", inPlace := ["internal/bytealg.Compare"], unfollowed := true, recurses := true, named := ["index/suffixarray.maxData32"], apart := false, laid := [("index/suffixarray.maxData32", laid_index_suffixarray_maxData32)], narrowed := true }
def FnWhereUptoSaid : Prop := fnWhereUptoRow.holds Tryd.pinned (OpenSpec.upto fnWhereSpec)

/-- 'laws.FnFull', WHERE WHAT IT READS IS OF BULK AT MOST 1048576: true; the input reads as it did. -/
def fnFullUptoRow : OpenClaim := { program := "ytgmmenfnhppofaadoor", sum := "c00b534a4d5ad3149296bc21e15fe9c74efa89a1e8148f76cc2673a84ac0e7b9", func := "lib-bellfounder/laws.FnFull", spec := "fnFull", inPlace := ["internal/bytealg.Compare"], unfollowed := true, recurses := true, named := ["index/suffixarray.maxData32"], apart := false, laid := [("index/suffixarray.maxData32", laid_index_suffixarray_maxData32)], narrowed := true }
def FnFullUptoSaid : Prop := fnFullUptoRow.holds Tryd.pinned (OpenSpec.upto fnFullSpec)

/-- 'laws.FnRest', WHERE WHAT IT READS IS OF BULK AT MOST 1048576: true; the input reads as it did. -/
def fnRestUptoRow : OpenClaim := { program := "ytgmmenfnhppofaadoor", sum := "c00b534a4d5ad3149296bc21e15fe9c74efa89a1e8148f76cc2673a84ac0e7b9", func := "lib-bellfounder/laws.FnRest", spec := "fnRest", unfollowed := true, recurses := true, named := ["index/suffixarray.maxData32", "index/suffixarray.errCorrupted", "io.ErrShortBuffer", "io.EOF", "io.ErrUnexpectedEOF"], apart := false, laid := [("io.ErrShortBuffer", laid_io_ErrShortBuffer), ("io.EOF", laid_io_EOF), ("io.ErrUnexpectedEOF", laid_io_ErrUnexpectedEOF), ("index/suffixarray.maxData32", laid_index_suffixarray_maxData32), ("index/suffixarray.errCorrupted", laid_index_suffixarray_errCorrupted)], narrowed := true }
def FnRestUptoSaid : Prop := fnRestUptoRow.holds Tryd.pinned (OpenSpec.upto fnRestSpec)

/-- 'laws.FnWrittenPieces', WHERE WHAT IT READS IS OF BULK AT MOST 1048576: true; the input reads as it did. -/
def fnWrittenPiecesUptoRow : OpenClaim := { program := "ytgmmenfnhppofaadoor", sum := "c00b534a4d5ad3149296bc21e15fe9c74efa89a1e8148f76cc2673a84ac0e7b9", func := "lib-bellfounder/laws.FnWrittenPieces", spec := "fnWrittenPieces", unfollowed := true, recurses := true, named := ["index/suffixarray.maxData32", "index/suffixarray.errCorrupted", "io.ErrShortBuffer", "io.EOF", "io.ErrUnexpectedEOF"], apart := false, laid := [("io.ErrShortBuffer", laid_io_ErrShortBuffer), ("io.EOF", laid_io_EOF), ("io.ErrUnexpectedEOF", laid_io_ErrUnexpectedEOF), ("index/suffixarray.maxData32", laid_index_suffixarray_maxData32), ("index/suffixarray.errCorrupted", laid_index_suffixarray_errCorrupted)], narrowed := true }
def FnWrittenPiecesUptoSaid : Prop := fnWrittenPiecesUptoRow.holds Tryd.pinned (OpenSpec.upto fnWrittenPiecesSpec)

/-- 'laws.FnAgain', WHERE WHAT IT READS IS OF BULK AT MOST 1048576: true; the input reads as it did. -/
def fnAgainUptoRow : OpenClaim := { program := "ytgmmenfnhppofaadoor", sum := "c00b534a4d5ad3149296bc21e15fe9c74efa89a1e8148f76cc2673a84ac0e7b9", func := "lib-bellfounder/laws.FnAgain", spec := "fnAgain", unfollowed := true, recurses := true, named := ["index/suffixarray.maxData32", "index/suffixarray.errCorrupted", "io.ErrShortBuffer", "io.EOF", "io.ErrUnexpectedEOF"], apart := false, laid := [("io.ErrShortBuffer", laid_io_ErrShortBuffer), ("io.EOF", laid_io_EOF), ("io.ErrUnexpectedEOF", laid_io_ErrUnexpectedEOF), ("index/suffixarray.maxData32", laid_index_suffixarray_maxData32), ("index/suffixarray.errCorrupted", laid_index_suffixarray_errCorrupted)], narrowed := true }
def FnAgainUptoSaid : Prop := fnAgainUptoRow.holds Tryd.pinned (OpenSpec.upto fnAgainSpec)

/-- 'laws.FnStreamLess', WHERE WHAT IT READS IS OF BULK AT MOST 1048576: true; the input reads as it did. -/
def fnStreamLessUptoRow : OpenClaim := { program := "ytgmmenfnhppofaadoor", sum := "c00b534a4d5ad3149296bc21e15fe9c74efa89a1e8148f76cc2673a84ac0e7b9", func := "lib-bellfounder/laws.FnStreamLess", spec := "fnStreamLess", inPlace := ["internal/bytealg.Compare"], unfollowed := true, recurses := true, named := ["index/suffixarray.maxData32", "index/suffixarray.errCorrupted", "io.ErrShortBuffer", "io.EOF", "io.ErrUnexpectedEOF"], apart := false, laid := [("io.ErrShortBuffer", laid_io_ErrShortBuffer), ("io.EOF", laid_io_EOF), ("io.ErrUnexpectedEOF", laid_io_ErrUnexpectedEOF), ("index/suffixarray.maxData32", laid_index_suffixarray_maxData32), ("index/suffixarray.errCorrupted", laid_index_suffixarray_errCorrupted)], narrowed := true }
def FnStreamLessUptoSaid : Prop := fnStreamLessUptoRow.holds Tryd.pinned (OpenSpec.upto fnStreamLessSpec)

end Rows
end Go.Proofs.YtgmmenfnhppofaaDoor

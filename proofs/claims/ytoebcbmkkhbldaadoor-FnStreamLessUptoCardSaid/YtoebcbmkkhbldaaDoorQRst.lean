/- impl.Rest, FnRest, FnWrittenPieces. -/
import Derived.Test.YtoebcbmkkhbldaaDoorQRdy
import Derived.Test.YtoebcbmkkhbldaaDoorQNbs
import Derived.Laws.IdiomStrings
set_option linter.unusedVariables false
namespace Go.Proofs.YtoebcbmkkhbldaaDoor
open Go.RowKit Go.Mem Sais Go.Lib Go.Wire
set_option maxRecDepth 100000

def RtPost (t : ByteArray) (w : World) (e : Ending) (w' : World) : Prop := e = .returned (.tuple #[.string t, .bool true]) ∧ Grew w w'
/-- An index that is read from a buffer. -/
theorem read_buffer (s : ByteArray) (b q xb tb sb c n0 : Nat) (d : Option Addr) (sa : Nat → Int) (rest : List UInt8) (w : World) (hO : Own w xb tb sb c n0 d) (hs : s.size ≤ 1073741824) (hI : IsSA (chr s) s.size sa) (hS : RB b q (wireS s sa ++ rest) w) (hmax : MaxIs w) (hDm : ¬ DB b q 0) (hxm : xb ≠ 0) (hDx : ¬ DB b q xb) (hDt : ¬ DB b q tb) (hDs : ¬ DB b q sb) :
    Calls Tryd.prog 7 #[.pointer (some ⟨xb, 0, none⟩), .iface 38 (.pointer (some ⟨b, 0, none⟩))] w (IrPost (RB b q) (DB b q) rest xb tb sb s.size (chr s) sa w) :=
  index_Read (buffer_Rdr b q) xb tb sb c n0 s.size d (chr s) sa rest w hO hs (fun i _ => chr_lt s i) hI hS hmax (.inl hDm) hxm hDx hDt hDs
theorem str_nil {a : ByteArray} : a.toList = [] ↔ a.size = 0 := by
  rw [ByteArray.toList_eq]
  constructor
  · intro e
    have := congrArg List.length e
    simpa using this
  · intro e
    refine List.length_eq_zero_iff.1 ?_
    rw [Array.length_toList]; exact e
end Go.Proofs.YtoebcbmkkhbldaaDoor

/- FnPut. -/
import Derived.Test.YtoebcbmkkhbldaaDoorQLwTu
set_option linter.unusedVariables false
namespace Go.Proofs.YtoebcbmkkhbldaaDoor
open Go.RowKit Go.Mem Sais
set_option maxRecDepth 100000

theorem fm_take {l : List Int} {F : Int → Option Int} {k : Nat} (h : k < l.length) : (l.take (k + 1)).filterMap F = (l.take k).filterMap F ++ (F l[k]).toList := by
  rw [List.take_succ_eq_append_getElem h, List.filterMap_append]
  cases hF : F l[k] <;> simp [hF]
theorem fm_len (l : List Int) (F : Int → Option Int) (k : Nat) : ((l.take k).filterMap F).length ≤ l.length := Nat.le_trans (List.length_filterMap_le _ _) (by simp; omega)
def FmRel (l : List Int) (F : Int → Option Int) (w : World) (ov iv : Value) (wr : World) : Prop := ∃ k : Nat, k ≤ l.length ∧ iv = .int .i64 k ∧ Hid (OL w.heap.size ((l.take k).filterMap F) wr ov) ∧ Hid (Grew w wr)
theorem put_same {d d' s : ByteArray} {a k m : Nat} {l1 l2 : List Int} (hlaw : (ints (places d s)).filterMap (putF a k m) = (ints (places d' s)).filter (putB a k m)) (h1 : l1.Perm (ints (places d s))) (h2 : l2.Perm (ints (places d' s))) :
    srt (l2.filter (putB a k m)) = srt (l1.filterMap (putF a k m)) := by
  rw [srt_of_perm (h1.filterMap _), srt_of_perm (h2.filter _), hlaw]
end Go.Proofs.YtoebcbmkkhbldaaDoor

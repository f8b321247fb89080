/- FnDifferent. -/
import Derived.Test.YtpknikogkaogjaaDoorQDif
set_option linter.unusedVariables false
namespace Go.Proofs.YtpknikogkaogjaaDoor
open Go.RowKit Go.Mem Sais
set_option maxRecDepth 100000

theorem flatMap_getD {β : Type} (ts : List ByteArray) (f : ByteArray → List β) : ((List.range ts.length).flatMap fun c => f (ts.getD c ByteArray.empty)) = ts.flatMap f := by
  have e : ts = (List.range ts.length).map fun c => ts.getD c ByteArray.empty := by
    refine List.ext_getElem (by simp) fun i h1 h2 => ?_
    simp [List.getD, h1]
  conv => rhs; rw [e, List.flatMap_map]
theorem dif_srt {d : ByteArray} {L : Nat} {al : List Int} (hL : 0 < L) (hn : L ≤ d.size) (h : al.Perm ((difL d L (d.size - L + 1)).flatMap fun t => ints (places d t))) : srt al = ints (List.range (d.size - L + 1)) := by
  refine srt_eq (List.Perm.trans ?_ h.symm) (ints_le List.pairwise_lt_range)
  unfold difL
  rw [List.flatMap_map, ← ints_flatMap]
  exact (ints_perm (diff_law hL hn)).symm
end Go.Proofs.YtpknikogkaogjaaDoor

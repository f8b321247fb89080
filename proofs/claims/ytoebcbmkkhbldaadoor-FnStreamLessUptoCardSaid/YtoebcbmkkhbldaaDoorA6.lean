/- Texts in one: Idx Cmp Look New All Find All2 All3 Lkp Imp -/
import Derived.Test.YtoebcbmkkhbldaaDoorA5
import Derived.Lib.Bytealg
import Derived.Laws.BytesArg
import Derived.Laws.Externs
import Derived.Lib.BytesEntry
import Derived.IntWalk
import Derived.Deep.DeepCutAuto
import Derived.StillTailTactics
import Derived.Laws.IdiomStrings
import Derived.Laws.AppendOwn
import Derived.OwnWalk
/- The index: its parts, New, and the small methods. -/
set_option linter.unusedVariables false
namespace Go.Proofs.YtoebcbmkkhbldaaDoor
open Go.RowKit Go.Mem Sais
set_option maxRecDepth 100000

/-- An index lies at block xb: data, the suffix array (sb, so), no array of int64. -/
structure Ix (w : World) (xb : Nat) (T : Nat → Nat) (n : Nat) (dv : Value) (tb tx tc sb so sc : Nat) (sa : Nat → Int) : Prop where
  c0 : w.cell? ⟨xb, 0, none⟩ = some dv
  c1 : w.cell? ⟨xb, 1, none⟩ = some (.slice (some ⟨sb, so, none⟩) n sc)
  c2 : w.cell? ⟨xb, 2, none⟩ = some (.slice none 0 0)
  hn : n ≤ 1073741824
  hT : ∀ i, i < n → T i < 256
  sc : n ≤ sc
  t : TextV T n w dv tb tx tc
  s : Rd .i32 w sb so n sa
  isa : IsSA T n sa
theorem TextV.kept {T : Nat → Nat} {n : Nat} {w w' : World} {tv : Value} {tb tx tc : Nat} {S : Nat → Nat → Prop} (h : TextV T n w tv tb tx tc) (hk : Kept S w w') (hs : ∀ j, j < n → ¬ S tb (tx + j)) : TextV T n w' tv tb tx tc := by
  rcases h with h | ⟨h1, h2, h3⟩
  · exact .inl h
  · exact .inr ⟨h1, h2, h3.kept hk hs⟩
abbrev Grew (w w' : World) : Prop := Kept (fun _ _ => False) w w'
theorem Ix.grew {w w' : World} {xb : Nat} {T : Nat → Nat} {n : Nat} {dv : Value} {tb tx tc sb so sc : Nat} {sa : Nat → Int} (h : Ix w xb T n dv tb tx tc sb so sc sa) (hk : Grew w w') : Ix w' xb T n dv tb tx tc sb so sc sa := by
  have hb := World.block_lt_of_cell? w _ h.c0
  exact ⟨(hk.cell xb 0 hb (fun h => h)).trans h.c0, (hk.cell xb 1 hb (fun h => h)).trans h.c1, (hk.cell xb 2 hb (fun h => h)).trans h.c2, h.hn, h.hT, h.sc, h.t.kept hk (fun _ _ h => h), h.s.kept hk (fun _ _ h => h), h.isa⟩

/-- (*ints).len -/
theorem ints_len (xb o n sc : Nat) (a : Option Addr) (w : World) (hn : n ≤ 1073741824) (c1 : w.cell? ⟨xb, o, none⟩ = some (.slice a n sc)) (c2 : w.cell? ⟨xb, o + 1, none⟩ = some (.slice none 0 0)) :
    Calls Tryd.prog 13 #[.pointer (some ⟨xb, o, none⟩)] w fun e w' => e = .returned (.int .i64 n) ∧ ∃ q, w' = w.drewN q := by
  go_enter Tryd.func13, Tryd.ntmps13
  go_wp2
  go_quiet (fail)
  go_wp2
  go_ret
  exact ⟨rfl, _, rfl⟩
/-- (*ints).get -/
theorem ints_get (xb o n sc sb so i : Nat) (v : Int) (w : World) (hn : n ≤ 1073741824) (hi : i < n) (hv : 0 ≤ v ∧ v ≤ 1073741824) (c1 : w.cell? ⟨xb, o, none⟩ = some (.slice (some ⟨sb, so, none⟩) n sc)) (c3 : w.cell? ⟨sb, so + i, none⟩ = some (.int .i32 v)) :
    Calls Tryd.prog 24 #[.pointer (some ⟨xb, o, none⟩), .int .i64 i] w fun e w' => e = .returned (.int .i64 v) ∧ w = w' := by
  have q1 := Tryd.neq77s
  have hi' : (i : Int) < (n : Int) := by omega
  obtain ⟨v0, v1⟩ := hv
  go_enter Tryd.func24, Tryd.ntmps24
  go_wp2
  go_ret
  exact ⟨rfl, rfl⟩
end Go.Proofs.YtoebcbmkkhbldaaDoor

/- Comparing bytes: bytes.Compare, bytes.Equal, bytes.HasPrefix over rows of bytes. -/
set_option linter.unusedVariables false
namespace Go.Mem
open Go.RowKit Sais

/-- The bytes f 0, .., f (m-1). -/
def bts (f : Nat → Nat) (m : Nat) : List UInt8 := (List.range m).map fun j => UInt8.ofNat (f j)
def nums (f : Nat → Nat) (m : Nat) : List Nat := (List.range m).map f
theorem cmp_ll : ∀ (a b : List UInt8), (Lib.compareBytes a b = -1 ∧ ll (a.map UInt8.toNat) (b.map UInt8.toNat)) ∨ (Lib.compareBytes a b = 0 ∧ a = b) ∨ (Lib.compareBytes a b = 1 ∧ ll (b.map UInt8.toNat) (a.map UInt8.toNat))
  | [], [] => .inr (.inl ⟨rfl, rfl⟩)
  | [], _ :: _ => .inl ⟨rfl, nil_ll _ _⟩
  | _ :: _, [] => .inr (.inr ⟨rfl, nil_ll _ _⟩)
  | x :: a, y :: b => by
    simp only [Lib.compareBytes, List.map_cons, ll_cons]
    by_cases h1 : x < y
    · rw [if_pos h1]; exact .inl ⟨rfl, .inl (UInt8.lt_iff_toNat_lt.1 h1)⟩
    · rw [if_neg h1]
      by_cases h2 : y < x
      · rw [if_pos h2]; exact .inr (.inr ⟨rfl, .inl (UInt8.lt_iff_toNat_lt.1 h2)⟩)
      · rw [if_neg h2]
        have e : x = y := by
          rw [UInt8.lt_iff_toNat_lt] at h1 h2
          exact UInt8.toNat_inj.1 (by omega)
        subst e
        rcases cmp_ll a b with ⟨h, h'⟩ | ⟨h, rfl⟩ | ⟨h, h'⟩
        · exact .inl ⟨h, .inr ⟨rfl, h'⟩⟩
        · exact .inr (.inl ⟨h, rfl⟩)
        · exact .inr (.inr ⟨h, .inr ⟨rfl, h'⟩⟩)
theorem bts_nums {f : Nat → Nat} {m : Nat} (h : ∀ j, j < m → f j < 256) : (bts f m).map UInt8.toNat = nums f m := by
  unfold bts nums
  rw [List.map_map]
  refine List.map_congr_left fun j hj => ?_
  have := h j (by simpa using hj)
  simp only [Function.comp_apply]
  rw [UInt8.toNat_ofNat_of_lt' (by simpa using this)]
theorem run_loadBytes {P : Program} (w : World) (b off : Nat) (f : Nat → Nat) (m : Nat) (h : Rd .u8 w b off m (fun j => (f j : Int))) :
    (Extern.Bytes.loadBytes ⟨b, off, none⟩ m .empty).run P w = .ok ⟨(bts f m).toArray⟩ w := by
  have h1 := Lib.run_loadBytesX (P := P) (w := w) ((List.range m).map fun j => (f j : Int)) ⟨b, off, none⟩ .empty (fun j x hj => by
    have hjm : j < m := by
      have := (List.getElem?_eq_some_iff.1 hj).1
      simpa using this
    simp [hjm] at hj
    subst hj
    have e1 : (⟨b, off, none⟩ : Addr).add j = ⟨b, off + j, none⟩ := by simp [Addr.add]
    rw [e1]; exact h j hjm)
  simp only [List.length_map, List.length_range] at h1
  rw [h1]
  simp [bts, Lib.bytesOf, ByteArray.empty, ByteArray.emptyWithCapacity, Function.comp_def]
  rfl
end Go.Mem

namespace Go.Proofs.YtoebcbmkkhbldaaDoor
open Go.RowKit Go.Mem Sais
set_option maxRecDepth 100000
/-- What is known of a slice of bytes: of length 0, or its cells. -/
def ByteV (f : Nat → Nat) (m : Nat) (w : World) (v : Value) : Prop := (m = 0 ∧ ∃ c, v = .slice none 0 c) ∨ ∃ b o c, v = .slice (some ⟨b, o, none⟩) m c ∧ m ≤ c ∧ Rd .u8 w b o m (fun j => (f j : Int))
theorem run_bytesOf {P : Program} {f : Nat → Nat} {m : Nat} {w : World} {v : Value} (h : ByteV f m w v) : (Extern.Bytes.bytesOf v).run P w = .ok ⟨(bts f m).toArray⟩ w := by
  rcases h with ⟨rfl, c, rfl⟩ | ⟨b, o, c, rfl, _, h⟩
  · rfl
  · exact run_loadBytes w b o f m h
theorem compare_run (f g : Nat → Nat) (m k : Nat) (w : World) (a b : Value) (ha : ByteV f m w a) (hb : ByteV g k w b) :
    (callFunc 57 #[a, b]).run Tryd.prog w = .ok (.value (.int .i64 (Lib.compareBytes (bts f m) (bts g k)))) w := by
  rw [run_callFunc_extern Tryd.func57 (by kernel_rfl) (by kernel_rfl) (by kernel_rfl) (e := Extern.BytealgCompare.compare) (by kernel_rfl)]
  have : (Extern.BytealgCompare.compare #[a, b]).run Tryd.prog w = .ok (goInt (Extern.BytealgCompare.cmp ⟨(bts f m).toArray⟩ ⟨(bts g k).toArray⟩)) w := by
    show ((Extern.Bytes.bytesOf a >>= fun x => Extern.Bytes.bytesOf b >>= fun y => pure (goInt (Extern.BytealgCompare.cmp x y))) : Sem Value).run Tryd.prog w = _
    simp only [Sem.run_bind, run_bytesOf ha, run_bytesOf hb, Result.andThen]
    rfl
  rw [this, Lib.cmp_eq]
  rfl
/-- bytes.Compare -/
theorem bytes_Compare (f g : Nat → Nat) (m k : Nat) (w : World) (a b : Value) (ha : ByteV f m w a) (hb : ByteV g k w b) :
    Calls Tryd.prog 31 #[a, b] w fun e w' => e = .returned (.int .i64 (Lib.compareBytes (bts f m) (bts g k))) ∧ w = w' := by
  have hr := compare_run f g m k w a b ha hb
  clear ha hb
  go_enter Tryd.func31, Tryd.ntmps31
  go_wp2
  go_ret
  exact ⟨rfl, rfl⟩

theorem run_toString {f : Nat → Nat} {m : Nat} {w : World} {v : Value} (h : ByteV f m w v) : (convert 28 9 v).run Tryd.prog w = .ok (.string ⟨(bts f m).toArray⟩) w := by
  rcases h with ⟨rfl, c, rfl⟩ | ⟨b, o, c, rfl, _, h⟩
  · exact run_convert_bytes_nil w _ _ Tryd.underlying28 Tryd.underlying5 0 c _ Tryd.underlying9
  · have h1 := run_convert_bytes_arg (P := Tryd.prog) w _ _ Tryd.underlying28 Tryd.underlying5 b o m c ((List.range m).map fun j => (f j : Int)) (by simp) (fun i hi => by
      rw [h i hi]; simp [List.getD, hi]) _ Tryd.underlying9
    rw [h1]
    simp [strOfNums, bts, Function.comp_def]
/-- bytes.Equal -/
theorem bytes_Equal (f g : Nat → Nat) (m k : Nat) (w : World) (a b : Value) (ha : ByteV f m w a) (hb : ByteV g k w b) :
    Calls Tryd.prog 58 #[a, b] w fun e w' => e = .returned (.bool (decide (bts f m = bts g k))) ∧ w = w' := by
  have h1 := run_toString ha
  have h2 := run_toString hb
  clear ha hb
  generalize hx : bts f m = x at *
  generalize hy : bts g k = y at *
  clear hx hy
  go_enter Tryd.func58, Tryd.ntmps58
  go_wp2
  go_ret
  have e : (x == y) = decide (x = y) := by by_cases h : x = y <;> simp [h]
  exact ⟨congrArg (fun b => Ending.returned (.bool b)) e, rfl⟩
/-- bytes.HasPrefix -/
theorem bytes_HasPrefix (f g : Nat → Nat) (m k b o c : Nat) (w : World) (bv : Value) (hmc : m ≤ c) (hm : m ≤ 1073741824) (ha : Rd .u8 w b o m (fun j => (f j : Int))) (hb : ByteV g k w bv) (hk : ∃ d x, bv = .slice d k x) (hk2 : k ≤ 1073741824) :
    Calls Tryd.prog 34 #[.slice (some ⟨b, o, none⟩) m c, bv] w fun e w' => e = .returned (.bool (decide (k ≤ m ∧ bts f k = bts g k))) ∧ w = w' := by
  obtain ⟨d, x, rfl⟩ := hk
  by_cases h : k ≤ m
  · have HC := Lib.hid (bytes_Equal f g k k w (.slice (some ⟨b, o, none⟩) k c) _ (.inr ⟨b, o, c, rfl, by omega, fun j hj => ha j (by omega)⟩) hb)
    have h1 : (k : Int) ≤ (m : Int) := by omega
    have h2 : (k : Int) ≤ (c : Int) := by omega
    clear ha hb
    have e : decide (k ≤ m ∧ bts f k = bts g k) = decide (bts f k = bts g k) := by simp [h]
    have HE := Lib.hid e; clear e
    go_enter Tryd.func34, Tryd.ntmps34
    go_wp2_with (go_at_call 58; refine HC.out.mono ?_; rintro e w' ⟨rfl, rfl⟩)
    go_ret
    exact ⟨congrArg (fun b => Ending.returned (.bool b)) HE.out.symm, rfl⟩
  · have h1 : decide ((k : Int) ≤ (m : Int)) = false := decide_eq_false (by omega)
    have h2 : decide (k ≤ m) = false := decide_eq_false h
    have e : decide (k ≤ m ∧ bts f k = bts g k) = false := by simp [h]
    have HE := Lib.hid e; clear e ha hb
    go_enter Tryd.func34, Tryd.ntmps34
    go_wp2
    go_ret
    exact ⟨congrArg (fun b => Ending.returned (.bool b)) HE.out.symm, rfl⟩
end Go.Proofs.YtoebcbmkkhbldaaDoor

/- Looking up: at, the two closures, sort.Search, lookupAll. -/
set_option linter.unusedVariables false
namespace Go.Proofs.YtoebcbmkkhbldaaDoor
open Go.RowKit Go.Mem Sais
set_option maxRecDepth 100000

/-- (*Index).at: the data from the place on that stands at i. -/
theorem index_at (xb n tb tx tc sb so sc i v : Nat) (w : World) (hn : n ≤ 1073741824) (hi : i < n) (hv : v < n) (htc : n ≤ tc)
    (c0 : w.cell? ⟨xb, 0, none⟩ = some (.slice (some ⟨tb, tx, none⟩) n tc)) (c1 : w.cell? ⟨xb, 1, none⟩ = some (.slice (some ⟨sb, so, none⟩) n sc)) (c3 : w.cell? ⟨sb, so + i, none⟩ = some (.int .i32 (v : Int))) :
    Calls Tryd.prog 32 #[.pointer (some ⟨xb, 0, none⟩), .int .i64 i] w fun e w' => e = .returned (.slice (some ⟨tb, tx + v, none⟩) (n - v) (tc - v)) ∧ ∃ q, w' = w.drewN q := by
  have hget := fun u (h1 : u.cell? ⟨xb, 1, none⟩ = some (.slice (some ⟨sb, so, none⟩) n sc)) (h3 : u.cell? ⟨sb, so + i, none⟩ = some (.int .i32 (v : Int))) => ints_get xb 1 n sc sb so i (v : Int) u hn hi (by omega) h1 h3
  have HG := Lib.hid hget; clear hget
  have x1 : ¬ tc = v := by omega
  have x2 : (v : Int) ≤ (n : Int) := by omega
  have x3 : (v : Int) ≤ (tc : Int) := by omega
  have x4 : (0 : Int) ≤ (v : Int) := by omega
  go_enter Tryd.func32, Tryd.ntmps32
  go_wp2
  go_quiet ((go_at_call 24; exact Calls.quiet_of_same ((HG.out _ (by assumption) (by assumption)).mono fun e w' h => ⟨h.1, h.2.symm⟩)))
  go_wp2
  go_ret
  exact ⟨rfl, _, rfl⟩

/-- The first closure: does what stands at i come behind s, or begin with it? -/
theorem look1 (xb p1 p2 n tb tx tc sb so sc i v k : Nat) (T g : Nat → Nat) (sv : Value) (w : World) (hn : n ≤ 1073741824) (hi : i < n) (hv : v < n) (htc : n ≤ tc)
    (c0 : w.cell? ⟨xb, 0, none⟩ = some (.slice (some ⟨tb, tx, none⟩) n tc)) (c1 : w.cell? ⟨xb, 1, none⟩ = some (.slice (some ⟨sb, so, none⟩) n sc)) (c3 : w.cell? ⟨sb, so + i, none⟩ = some (.int .i32 (v : Int)))
    (d1 : w.cell? ⟨p1, 0, none⟩ = some (.pointer (some ⟨xb, 0, none⟩))) (d2 : w.cell? ⟨p2, 0, none⟩ = some sv) (ht : Rd .u8 w tb tx n (fun j => (T j : Int))) (hs : ByteV g k w sv) :
    Calls Tryd.prog 30 #[.int .i64 i, .pointer (some ⟨p1, 0, none⟩), .pointer (some ⟨p2, 0, none⟩)] w fun e w' => e = .returned (.bool (decide (0 ≤ Lib.compareBytes (bts (fun j => T (v + j)) (n - v)) (bts g k)))) ∧ ∃ q, w' = w.drewN q := by
  have HA := Lib.hid (fun q => index_at xb n tb tx tc sb so sc i v (w.drewN q) hn hi hv htc c0 c1 c3)
  have HB := Lib.hid (fun q => bytes_Compare (fun j => T (v + j)) g (n - v) k (w.drewN q) (.slice (some ⟨tb, tx + v, none⟩) (n - v) (tc - v)) sv (.inr ⟨tb, tx + v, tc - v, rfl, by omega, fun j hj => by rw [Nat.add_assoc]; exact ht (v + j) (by omega)⟩) (by rcases hs with h | ⟨b, o, c, h1, h2, h3⟩; exact .inl h; exact .inr ⟨b, o, c, h1, h2, h3⟩))
  clear c0 c1 c3 ht hs
  generalize hz : Lib.compareBytes (bts (fun j => T (v + j)) (n - v)) (bts g k) = z at *
  clear hz
  go_enter Tryd.func30, Tryd.ntmps30
  go_wp2
  go_quiet (first | (go_at_call 32; exact Calls.quiet_of (HA.out _)) | (go_at_call 31; exact Calls.quiet_of_same ((HB.out _).mono fun e w' h => ⟨h.1, h.2.symm⟩)))
  go_wp2
  go_ret
  exact ⟨rfl, _, rfl⟩
/-- The second closure: does what stands at j + i not begin with s? -/
theorem look2 (xb p1 p2 p3 n tb tx tc sb so sc i j v k : Nat) (T g : Nat → Nat) (sv : Value) (w : World) (hn : n ≤ 1073741824) (hi : j + i < n) (hv : v < n) (htc : n ≤ tc)
    (c0 : w.cell? ⟨xb, 0, none⟩ = some (.slice (some ⟨tb, tx, none⟩) n tc)) (c1 : w.cell? ⟨xb, 1, none⟩ = some (.slice (some ⟨sb, so, none⟩) n sc)) (c3 : w.cell? ⟨sb, so + (j + i), none⟩ = some (.int .i32 (v : Int)))
    (d1 : w.cell? ⟨p1, 0, none⟩ = some (.pointer (some ⟨xb, 0, none⟩))) (d3 : w.cell? ⟨p3, 0, none⟩ = some (.int .i64 (i : Int))) (d2 : w.cell? ⟨p2, 0, none⟩ = some sv) (ht : Rd .u8 w tb tx n (fun j => (T j : Int))) (hs : ByteV g k w sv) (hk : ∃ d x, sv = .slice d k x) (hk2 : k ≤ 1073741824) :
    Calls Tryd.prog 33 #[.int .i64 j, .pointer (some ⟨p1, 0, none⟩), .pointer (some ⟨p3, 0, none⟩), .pointer (some ⟨p2, 0, none⟩)] w fun e w' => e = .returned (.bool (!decide (k ≤ n - v ∧ bts (fun j => T (v + j)) k = bts g k))) ∧ ∃ q, w' = w.drewN q := by
  have HA := Lib.hid (fun q => index_at xb n tb tx tc sb so sc (j + i) v (w.drewN q) hn hi hv htc c0 c1 c3)
  have HB := Lib.hid (fun q => bytes_HasPrefix (fun j => T (v + j)) g (n - v) k tb (tx + v) (tc - v) (w.drewN q) sv (by omega) (by omega) (fun j hj => by rw [Nat.add_assoc]; exact ht (v + j) (by omega)) (by rcases hs with h | ⟨b, o, c, h1, h2, h3⟩; exact .inl h; exact .inr ⟨b, o, c, h1, h2, h3⟩) hk hk2)
  clear c0 c1 c3 ht hs hk
  generalize hz : decide (k ≤ n - v ∧ bts (fun j => T (v + j)) k = bts g k) = z at *
  clear hz
  have e0 : ((j + i : Nat) : Int) = (j : Int) + (i : Int) := by omega
  rw [e0] at HA
  clear e0
  have e1 : IntKind.i64.wrap ((j : Int) + (i : Int)) = (j : Int) + (i : Int) := IntWalk.i64_in _ (by omega)
  go_enter Tryd.func33, Tryd.ntmps33
  go_wp2
  go_quiet (first | (go_at_call 32; exact Calls.quiet_of (HA.out _)) | (go_at_call 34; exact Calls.quiet_of_same ((HB.out _).mono fun e w' h => ⟨h.1, h.2.symm⟩)))
  go_wp2
  go_ret
  exact ⟨rfl, _, rfl⟩

theorem searchPost {P : Nat → Bool} {n r q : Nat} {w w' : World} {e : Ending} (h1 : r ≤ n) (h2 : 0 < r → P (r - 1) = false) (h3 : r < n → P r = true) (he : e = .returned (.int .i64 r)) (hw : w' = w.drewN q) :
    ∃ r : Nat, r ≤ n ∧ (0 < r → P (r - 1) = false) ∧ (r < n → P r = true) ∧ e = .returned (.int .i64 r) ∧ ∃ q, w' = w.drewN q := ⟨r, h1, h2, h3, he, q, hw⟩

/-- sort.Search over the one closure. -/
theorem search_one (p1 p2 n : Nat) (P : Nat → Bool) (w : World) (hn : n ≤ 1073741824)
    (hcl : ∀ i, i < n → ∀ q, Calls Tryd.prog 30 #[.int .i64 i, .pointer (some ⟨p1, 0, none⟩), .pointer (some ⟨p2, 0, none⟩)] (w.drewN q) fun e w' => e = .returned (.bool (P i)) ∧ ∃ m, w' = (w.drewN q).drewN m) :
    Calls Tryd.prog 29 #[.int .i64 n, .func (.func 30) #[] #[.pointer (some ⟨p1, 0, none⟩), .pointer (some ⟨p2, 0, none⟩)]] w fun e w' => ∃ r : Nat, r ≤ n ∧ (0 < r → P (r - 1) = false) ∧ (r < n → P r = true) ∧ e = .returned (.int .i64 r) ∧ ∃ q, w' = w.drewN q := by
  have HC := Lib.hid hcl; clear hcl
  go_enter Tryd.func29, Tryd.ntmps29
  go_wp2
  go_loopw [5, 6] (fun is js wr => ∃ (i j q : Nat), i ≤ j ∧ j ≤ n ∧ is = .int .i64 i ∧ js = .int .i64 j ∧ (0 < i → P (i - 1) = false) ∧ (j < n → P j = true) ∧ wr = w.drewN q) (fun is js _ => (intOf js).toNat - (intOf is).toNat)
  case atStart => exact ⟨0, n, 0, by omega, Nat.le_refl _, rfl, rfl, fun h => by omega, fun h => by omega, rfl⟩
  case round =>
    obtain ⟨i, j, q, hij, hjn, rfl, rfl, h1, h2, rfl⟩ := hrel
    have H1 := Lib.hid h1; have H2 := Lib.hid h2; clear h1 h2
    by_cases hlt : i < j
    · obtain ⟨h, hh⟩ : ∃ h, (i + j) / 2 = h := ⟨_, rfl⟩
      have hh1 : i ≤ h := by omega
      have hh2 : h < j := by omega
      have e1 : ((i : Int) + (j : Int)) / 2 = (h : Int) := by omega
      have hlt' : (i : Int) < (j : Int) := by omega
      clear hh
      have HC2 := Lib.hid (HC.out h (by omega) q)
      obtain ⟨b, hb⟩ : ∃ b, P h = b := ⟨_, rfl⟩
      rw [hb] at HC2
      have HB := Lib.hid hb; clear hb
      cases b
      · go_wp2_with (go_at_call 30; refine HC2.out.mono ?_; rintro e w' ⟨rfl, m, rfl⟩)
        go_roundw
        case rel => exact ⟨h + 1, j, _, by omega, hjn, by go_num, rfl, fun _ => by rw [Nat.add_sub_cancel]; exact HB.out, H2.out, rfl⟩
        case measure => simp [intOf]; omega
      · go_wp2_with (go_at_call 30; refine HC2.out.mono ?_; rintro e w' ⟨rfl, m, rfl⟩)
        go_roundw
        case rel => exact ⟨i, h, _, by omega, by omega, rfl, rfl, H1.out, fun _ => HB.out, rfl⟩
        case measure => simp [intOf]; omega
    · obtain rfl : i = j := by omega
      go_wp2
      go_ret
      exact searchPost hjn H1.out H2.out rfl rfl

/-- sort.Search over the two closure. -/
theorem search_two (p1 p3 p2 n : Nat) (P : Nat → Bool) (w : World) (hn : n ≤ 1073741824)
    (hcl : ∀ i, i < n → ∀ q, Calls Tryd.prog 33 #[.int .i64 i, .pointer (some ⟨p1, 0, none⟩), .pointer (some ⟨p3, 0, none⟩), .pointer (some ⟨p2, 0, none⟩)] (w.drewN q) fun e w' => e = .returned (.bool (P i)) ∧ ∃ m, w' = (w.drewN q).drewN m) :
    Calls Tryd.prog 29 #[.int .i64 n, .func (.func 33) #[] #[.pointer (some ⟨p1, 0, none⟩), .pointer (some ⟨p3, 0, none⟩), .pointer (some ⟨p2, 0, none⟩)]] w fun e w' => ∃ r : Nat, r ≤ n ∧ (0 < r → P (r - 1) = false) ∧ (r < n → P r = true) ∧ e = .returned (.int .i64 r) ∧ ∃ q, w' = w.drewN q := by
  have HC := Lib.hid hcl; clear hcl
  go_enter Tryd.func29, Tryd.ntmps29
  go_wp2
  go_loopw [5, 6] (fun is js wr => ∃ (i j q : Nat), i ≤ j ∧ j ≤ n ∧ is = .int .i64 i ∧ js = .int .i64 j ∧ (0 < i → P (i - 1) = false) ∧ (j < n → P j = true) ∧ wr = w.drewN q) (fun is js _ => (intOf js).toNat - (intOf is).toNat)
  case atStart => exact ⟨0, n, 0, by omega, Nat.le_refl _, rfl, rfl, fun h => by omega, fun h => by omega, rfl⟩
  case round =>
    obtain ⟨i, j, q, hij, hjn, rfl, rfl, h1, h2, rfl⟩ := hrel
    have H1 := Lib.hid h1; have H2 := Lib.hid h2; clear h1 h2
    by_cases hlt : i < j
    · obtain ⟨h, hh⟩ : ∃ h, (i + j) / 2 = h := ⟨_, rfl⟩
      have hh1 : i ≤ h := by omega
      have hh2 : h < j := by omega
      have e1 : ((i : Int) + (j : Int)) / 2 = (h : Int) := by omega
      have hlt' : (i : Int) < (j : Int) := by omega
      clear hh
      have HC2 := Lib.hid (HC.out h (by omega) q)
      obtain ⟨b, hb⟩ : ∃ b, P h = b := ⟨_, rfl⟩
      rw [hb] at HC2
      have HB := Lib.hid hb; clear hb
      cases b
      · go_wp2_with (go_at_call 33; refine HC2.out.mono ?_; rintro e w' ⟨rfl, m, rfl⟩)
        go_roundw
        case rel => exact ⟨h + 1, j, _, by omega, hjn, by go_num, rfl, fun _ => by rw [Nat.add_sub_cancel]; exact HB.out, H2.out, rfl⟩
        case measure => simp [intOf]; omega
      · go_wp2_with (go_at_call 33; refine HC2.out.mono ?_; rintro e w' ⟨rfl, m, rfl⟩)
        go_roundw
        case rel => exact ⟨i, h, _, by omega, by omega, rfl, rfl, H1.out, fun _ => HB.out, rfl⟩
        case measure => simp [intOf]; omega
    · obtain rfl : i = j := by omega
      go_wp2
      go_ret
      exact searchPost hjn H1.out H2.out rfl rfl
end Go.Proofs.YtoebcbmkkhbldaaDoor

/- suffixarray.New, (*ints).slice. -/
set_option linter.unusedVariables false
namespace Go.Proofs.YtoebcbmkkhbldaaDoor
open Go.RowKit Go.Mem Sais
set_option maxRecDepth 100000

/-- The bound of the library's that is read: 2^31 - 1. -/
def MaxIs (w : World) : Prop := w.cell? ⟨0, 0, none⟩ = some (.int .i64 2147483647)
theorem MaxIs.grew {w w' : World} (h : MaxIs w) (hk : Grew w w') : MaxIs w' := (hk.cell _ 0 (World.block_lt_of_cell? w _ h) (fun h => h)).trans h

def NewPost (T : Nat → Nat) (n : Nat) (dv : Value) (tb tx tc : Nat) (w : World) (e : Ending) (w' : World) : Prop :=
  ∃ (xb sb : Nat) (sa : Nat → Int), e = .returned (.pointer (some ⟨xb, 0, none⟩)) ∧ Ix w' xb T n dv tb tx tc sb 0 n sa ∧ w.heap.size ≤ xb ∧ w.heap.size ≤ sb ∧ xb ≠ sb ∧ Grew w w' ∧
    (∀ o, o < 3 → w'.frozen? ⟨xb, o, none⟩ = false) ∧ Hold .i32 w' sb 0 n sa
set_option maxHeartbeats 4000000 in
theorem new_ix (T : Nat → Nat) (n tb tx tc : Nat) (dv : Value) (d : Option Addr) (w : World) (hn : n ≤ 1073741824) (hT : ∀ i, i < n → T i < 256) (hd : dv = .slice d n tc) (ht : TextV T n w dv tb tx tc) (hmax : MaxIs w) :
    Calls Tryd.prog 5 #[dv] w (NewPost T n dv tb tx tc w) := by
  subst hd
  have hg : w.cell? ⟨0, 0, none⟩ = some (.int .i64 2147483647) := hmax
  have hb := World.block_lt_of_cell? w _ hg
  have hb' : 0 ≠ w.heap.size := Nat.ne_of_lt hb
  have HT := Lib.hid ht; clear ht
  have HTT := Lib.hid hT; clear hT
  clear hmax
  have hmk := fun u => Tryd.make32 u n hn
  go_enter Tryd.func5, Tryd.ntmps5
  go_wp2_with fail
  have hk1 : Grew w (w.alloc (.cells #[.slice d n tc, .slice (some ⟨w.heap.size + 1, 0, none⟩) n n, .slice none 0 0] 48)) := (Kept.refl _ w).alloc _
  have hH := Hold.made .i32 (w.alloc (.cells #[.slice d n tc, .slice (some ⟨w.heap.size + 1, 0, none⟩) n n, .slice none 0 0] 48)) 21 n
  rw [World.size_alloc] at hH
  have hk2 := hk1.alloc (.cells (madeCells #[.int .i32 0] n) 21)
  have hts : Apart tb tx n (w.heap.size + 1) 0 n := by
    by_cases h0 : n = 0
    · exact .inr (.inr (by omega))
    · rcases HT.out with ⟨h, _⟩ | ⟨_, _, h⟩
      · omega
      · exact .inl (by have := h.lt (by omega); omega)
  have hcells : ∀ (o : Nat) (v : Value), #[Value.slice d n tc, .slice (some ⟨w.heap.size + 1, 0, none⟩) n n, .slice none 0 0][o]? = some v → ((w.alloc (.cells #[.slice d n tc, .slice (some ⟨w.heap.size + 1, 0, none⟩) n n, .slice none 0 0] 48)).alloc (.cells (madeCells #[.int .i32 0] n) 21)).cell? ⟨w.heap.size, o, none⟩ = some v := fun o v hv => by
    rw [World.cell?_alloc_lt _ _ _ (by simp), World.cell?_alloc_new]
    exact hv
  have hfro : ∀ (o : Nat), ((w.alloc (.cells #[.slice d n tc, .slice (some ⟨w.heap.size + 1, 0, none⟩) n n, .slice none 0 0] 48)).alloc (.cells (madeCells #[.int .i32 0] n) 21)).frozen? ⟨w.heap.size, o, none⟩ = false := fun o => by
    rw [World.frozen?_alloc_old _ _ _ (by simp), World.frozen?_alloc_new]
  have hsz : ((w.alloc (.cells #[.slice d n tc, .slice (some ⟨w.heap.size + 1, 0, none⟩) n n, .slice none 0 0] 48)).alloc (.cells (madeCells #[.int .i32 0] n) 21)).heap.size = w.heap.size + 2 := by simp
  have hcall := text_32 T n tb tx tc (w.heap.size + 1) 0 n (.slice d n tc) (fun _ => 0) _ hn HTT.out (Nat.le_refl _) hts (HT.out.kept hk2 fun _ _ h => h) hH (fun _ _ => rfl)
  refine hcall.mono ?_
  intro e w' hpost
  have HN : Hid (NewPost T n (.slice d n tc) tb tx tc w (.returned (.pointer (some ⟨w.heap.size, 0, none⟩))) w') := by
    obtain ⟨_, sa', h1, h2, h3⟩ := hpost
    have hout : ∀ o, ¬ In (w.heap.size + 1) 0 n w.heap.size o := fun o h => by have := h.1; omega
    have hcell : ∀ (o : Nat) (v : Value), #[Value.slice d n tc, .slice (some ⟨w.heap.size + 1, 0, none⟩) n n, .slice none 0 0][o]? = some v → w'.cell? ⟨w.heap.size, o, none⟩ = some v := fun o v hv => by
      rw [h3.cell _ o (by rw [hsz]; omega) (hout o)]; exact hcells o v hv
    refine ⟨w.heap.size, w.heap.size + 1, sa', rfl, ⟨hcell 0 _ rfl, hcell 1 _ rfl, hcell 2 _ rfl, hn, HTT.out, Nat.le_refl _, (HT.out.kept hk2 fun _ _ h => h).kept h3 fun j hj hh => hts.out hj hh, h1.rd, h2⟩, Nat.le_refl _, by omega, by omega, hk2.trans' h3 fun x o hx hh => by have := hh.1; omega, fun o _ => ?_, h1⟩
    rw [h3.frozen _ o (by rw [hsz]; omega)]; exact hfro o
  obtain ⟨rfl, hpost⟩ := hpost
  clear hpost hcall hH hk1 hk2 hts hcells hfro hsz
  go_wp2
  go_ret
  exact HN.out
end Go.Proofs.YtoebcbmkkhbldaaDoor

/- (*ints).slice, (*Index).lookupAll. -/
set_option linter.unusedVariables false
namespace Go.Proofs.YtoebcbmkkhbldaaDoor
open Go.RowKit Go.Mem Sais
set_option maxRecDepth 100000

def IPost (v : Value) (w : World) (e : Ending) (w' : World) : Prop := e = .returned v ∧ Grew w w'
theorem ints_slice_in (xb o n sc sb so i j : Nat) (w : World) (hn : n ≤ 1073741824) (hij : i ≤ j) (hjn : j ≤ n) (hsc : n ≤ sc) (hisc : i < sc) (c1 : w.cell? ⟨xb, o, none⟩ = some (.slice (some ⟨sb, so, none⟩) n sc)) :
    Calls Tryd.prog 15 #[.pointer (some ⟨xb, o, none⟩), .int .i64 i, .int .i64 j] w (IPost (.agg #[.slice (some ⟨sb, so + i, none⟩) (j - i) (sc - i), .slice none 0 0]) w) := by
  have hb := World.block_lt_of_cell? w _ c1
  have hb' : xb ≠ w.heap.size := Nat.ne_of_lt hb
  have q1 := Tryd.neq77s
  have x1 : (i : Int) ≤ (j : Int) := by omega
  have x2 : (j : Int) ≤ (sc : Int) := by omega
  have x3 : ¬ sc = i := by omega
  go_enter Tryd.func15, Tryd.ntmps15
  go_wp2
  exact bodyPost_ret (v := .agg #[.slice (some ⟨sb, so + i, none⟩) (j - i) (sc - i), .slice none 0 0]) (by simp [results, Tryd.results15, go_sem]) rfl ⟨rfl, (Kept.refl _ w).alloc _⟩
theorem ints_slice_end (xb o n sb so : Nat) (w : World) (hn : n ≤ 1073741824) (c1 : w.cell? ⟨xb, o, none⟩ = some (.slice (some ⟨sb, so, none⟩) n n)) :
    Calls Tryd.prog 15 #[.pointer (some ⟨xb, o, none⟩), .int .i64 n, .int .i64 n] w (IPost (.agg #[.slice (some ⟨sb, so, none⟩) 0 0, .slice none 0 0]) w) := by
  have hb := World.block_lt_of_cell? w _ c1
  have hb' : xb ≠ w.heap.size := Nat.ne_of_lt hb
  have q1 := Tryd.neq77s
  go_enter Tryd.func15, Tryd.ntmps15
  go_wp2
  exact bodyPost_ret (v := .agg #[.slice (some ⟨sb, so, none⟩) 0 0, .slice none 0 0]) (by simp [results, Tryd.results15, go_sem]) rfl ⟨rfl, (Kept.refl _ w).alloc _⟩
end Go.Proofs.YtoebcbmkkhbldaaDoor

/- Finding a text in a sorted list of suffixes: where the search begins and ends (no Go in sight). -/
set_option linter.unusedVariables false
namespace Sais
open Classical Go.Mem

/-- The text g 0 .. g (k-1) stands at place a. -/
def Occ (T : Nat → Nat) (n : Nat) (g : Nat → Nat) (k a : Nat) : Prop := a + k ≤ n ∧ ∀ j, j < k → T (a + j) = g j

theorem nums_zero (f : Nat → Nat) : nums f 0 = [] := rfl
theorem nums_succ (f : Nat → Nat) (m : Nat) : nums f (m + 1) = f 0 :: nums (fun j => f (j + 1)) m := by
  unfold nums
  rw [List.range_succ_eq_map, List.map_cons, List.map_map]
  rfl
theorem suf_nums (T : Nat → Nat) (n : Nat) : ∀ (d a : Nat), n - a = d → suf T n a = nums (fun j => T (a + j)) (n - a)
  | 0, a, h => by rw [suf_end (by omega), h]; rfl
  | d + 1, a, h => by
    rw [suf_step (by omega), h, nums_succ, suf_nums T n d (a + 1) (by omega), show n - (a + 1) = d by omega]
    simp only [Nat.add_zero]
    congr 2
    funext j; rw [show a + 1 + j = a + (j + 1) by omega]

theorem pre_ll : ∀ (s x y : List Nat), ¬ ll x s → ll x y → s <+: y → s <+: x
  | [], x, y, _, _, _ => List.nil_prefix
  | c :: s, [], y, h, _, _ => (h (nil_ll _ _)).elim
  | c :: s, d :: x, [], _, h, _ => (ll_nil _ h).elim
  | c :: s, d :: x, e :: y, h1, h2, h3 => by
    rw [List.cons_prefix_cons] at h3 ⊢
    rw [ll_cons] at h1 h2
    obtain ⟨rfl, h3⟩ := h3
    have hd : d = c := by
      rcases h2 with h2 | h2
      · exact (h1 (.inl h2)).elim
      · exact h2.1
    subst hd
    refine ⟨rfl, pre_ll s x y (fun h => h1 (.inr ⟨rfl, h⟩)) ?_ h3⟩
    rcases h2 with h2 | h2
    · omega
    · exact h2.2
theorem pre_not_ll : ∀ (s x : List Nat), s <+: x → ¬ ll x s
  | [], x, _ => ll_nil x
  | c :: s, [], h => by simp at h
  | c :: s, d :: x, h => by
    rw [List.cons_prefix_cons] at h
    obtain ⟨rfl, h⟩ := h
    rw [ll_cons]
    rintro (h1 | ⟨_, h1⟩)
    · omega
    · exact pre_not_ll s x h h1
theorem Occ_pre {T : Nat → Nat} {n : Nat} : ∀ (k a : Nat) (g : Nat → Nat), Occ T n g k a ↔ a ≤ n ∧ nums g k <+: suf T n a
  | 0, a, g => by
    unfold Occ; rw [nums_zero]
    exact ⟨fun h => ⟨by omega, List.nil_prefix⟩, fun h => ⟨by omega, fun j hj => by omega⟩⟩
  | k + 1, a, g => by
    have ih := Occ_pre (T := T) (n := n) k (a + 1) (fun j => g (j + 1))
    rw [nums_succ]
    constructor
    · rintro ⟨h1, h2⟩
      rw [suf_step (by omega), List.cons_prefix_cons]
      refine ⟨by omega, ?_, (ih.1 ⟨by omega, fun j hj => ?_⟩).2⟩
      · have := h2 0 (by omega); simpa using this.symm
      · have := h2 (j + 1) (by omega)
        rw [show a + 1 + j = a + (j + 1) by omega]; exact this
    · rintro ⟨h0, h1⟩
      by_cases ha : a = n
      · rw [suf_end (by omega)] at h1; simp at h1
      · rw [suf_step (by omega), List.cons_prefix_cons] at h1
        obtain ⟨h2, h3⟩ := h1
        obtain ⟨h4, h5⟩ := ih.2 ⟨by omega, h3⟩
        refine ⟨by omega, fun j hj => ?_⟩
        cases j with
        | zero => simpa using h2.symm
        | succ j =>
          have := h5 j (by omega)
          rw [show a + 1 + j = a + (j + 1) by omega] at this; exact this

/-- A test that stays true once it is true: where it turns. -/
theorem turn_eq {P : Nat → Bool} {n r : Nat} (hm : ∀ i j, i ≤ j → j < n → P i = true → P j = true) (h1 : r ≤ n) (h2 : 0 < r → P (r - 1) = false) (h3 : r < n → P r = true) : r = cnt (fun i => P i = false) n := by
  have e : cnt (fun i => P i = false) n = cnt (fun i => i < r) n := cnt_congr fun i hi => by
    constructor
    · intro h
      refine Nat.lt_of_not_le fun hle => ?_
      have := hm r i hle hi (h3 (by omega))
      rw [this] at h; cases h
    · intro h
      cases hp : P i with
      | false => rfl
      | true =>
        have h4 := hm i (r - 1) (by omega) (by omega) hp
        rw [h2 (by omega)] at h4; cases h4
  have key : ∀ m, cnt (fun i => i < r) m = min m r := by
    intro m
    induction m with
    | zero => simp [cnt]
    | succ m ih =>
      by_cases h : m < r
      · rw [cnt_succ_pos (p := fun i => i < r) h, ih]; omega
      · rw [cnt_succ_neg (p := fun i => i < r) h, ih]; omega
  rw [e, key]; omega

section
variable {T : Nat → Nat} {n : Nat} {sa : Nat → Int} {g : Nat → Nat} {k : Nat}
def at1 (T : Nat → Nat) (n : Nat) (sa : Nat → Int) (g : Nat → Nat) (k i : Nat) : Bool := decide (0 ≤ Go.Lib.compareBytes (bts (fun j => T ((sa i).toNat + j)) (n - (sa i).toNat)) (bts g k))
def at2 (T : Nat → Nat) (n : Nat) (sa : Nat → Int) (g : Nat → Nat) (k i j : Nat) : Bool := !decide (k ≤ n - (sa (j + i)).toNat ∧ bts (fun x => T ((sa (j + i)).toNat + x)) k = bts g k)
/-- Where the search begins, and how many follow. -/
noncomputable def from1 (T : Nat → Nat) (n : Nat) (sa : Nat → Int) (g : Nat → Nat) (k : Nat) : Nat := cnt (fun i => at1 T n sa g k i = false) n
noncomputable def many2 (T : Nat → Nat) (n : Nat) (sa : Nat → Int) (g : Nat → Nat) (k : Nat) : Nat := cnt (fun j => at2 T n sa g k (from1 T n sa g k) j = false) (n - from1 T n sa g k)

theorem IsSA.lt (H : IsSA T n sa) {x : Nat} (hx : x < n) : (sa x).toNat < n ∧ sa x = ((sa x).toNat : Nat) := by
  obtain ⟨k, hk, e⟩ := H.val x hx
  rw [e]; simp; exact hk
theorem IsSA.ll (H : IsSA T n sa) {x y : Nat} (hxy : x < y) (hy : y < n) : Sais.ll (suf T n (sa x).toNat) (suf T n (sa y).toNat) :=
  H.sorted x y _ _ hxy hy (H.lt (by omega)).2 (H.lt hy).2
theorem at1_iff (hT : ∀ i, i < n → T i < 256) (hg : ∀ j, j < k → g j < 256) (H : IsSA T n sa) {i : Nat} (hi : i < n) : at1 T n sa g k i = true ↔ ¬ Sais.ll (suf T n (sa i).toNat) (nums g k) := by
  have hv := (H.lt hi).1
  have e1 := bts_nums (f := fun j => T ((sa i).toNat + j)) (m := n - (sa i).toNat) (fun j hj => hT _ (by omega))
  have e2 := bts_nums hg
  have e3 := suf_nums T n _ (sa i).toNat rfl
  unfold at1
  rw [decide_eq_true_eq, e3, ← e1, ← e2]
  rcases cmp_ll (bts (fun j => T ((sa i).toNat + j)) (n - (sa i).toNat)) (bts g k) with ⟨h, h'⟩ | ⟨h, h'⟩ | ⟨h, h'⟩
  · rw [h]; exact ⟨fun h => by omega, fun hh => (hh h').elim⟩
  · rw [h, h']; exact ⟨fun _ => ll_irrefl _, fun _ => by omega⟩
  · rw [h]; exact ⟨fun _ => ll_asymm h', fun _ => by omega⟩
theorem at1_mono (hT : ∀ i, i < n → T i < 256) (hg : ∀ j, j < k → g j < 256) (H : IsSA T n sa) : ∀ i j, i ≤ j → j < n → at1 T n sa g k i = true → at1 T n sa g k j = true := by
  intro i j hij hj h
  by_cases e : i = j
  · subst e; exact h
  · rw [at1_iff hT hg H (by omega)] at h
    rw [at1_iff hT hg H hj]
    exact fun hh => h (ll_trans (H.ll (by omega) hj) hh)
theorem bts_eq {f : Nat → Nat} (hf : ∀ j, j < k → f j < 256) (hg : ∀ j, j < k → g j < 256) : bts f k = bts g k ↔ ∀ j, j < k → f j = g j := by
  constructor
  · intro h j hj
    have h1 := congrArg (fun l => (l.map UInt8.toNat)[j]?) h
    simp only [bts_nums hf, bts_nums hg, nums, List.getElem?_map, List.getElem?_range hj] at h1
    simpa using h1
  · intro h
    unfold bts
    exact List.map_congr_left fun j hj => by rw [h j (by simpa using hj)]
theorem at2_iff (hT : ∀ i, i < n → T i < 256) (hg : ∀ j, j < k → g j < 256) (H : IsSA T n sa) {i j : Nat} (hi : j + i < n) : at2 T n sa g k i j = false ↔ Occ T n g k (sa (j + i)).toNat := by
  have hv := (H.lt hi).1
  unfold at2 Occ
  rw [Bool.not_eq_false', decide_eq_true_eq]
  constructor
  · rintro ⟨h1, h2⟩
    exact ⟨by omega, (bts_eq (fun j hj => hT _ (by omega)) hg).1 h2⟩
  · rintro ⟨h1, h2⟩
    exact ⟨by omega, (bts_eq (fun j hj => hT _ (by omega)) hg).2 h2⟩
theorem from1_le : from1 T n sa g k ≤ n := cnt_le _ _
theorem at1_from (hT : ∀ i, i < n → T i < 256) (hg : ∀ j, j < k → g j < 256) (H : IsSA T n sa) {x : Nat} (hx : x < n) : at1 T n sa g k x = true ↔ from1 T n sa g k ≤ x := by
  have hm := at1_mono (k := k) hT hg H
  constructor
  · intro h
    unfold from1
    have h1 : cnt (fun i => at1 T n sa g k i = false) n ≤ cnt (fun i => i < x) n := cnt_mono fun i hi h2 => Nat.lt_of_not_le fun hle => by
      have := hm x i hle hi h; rw [this] at h2; cases h2
    have h2 : ∀ m, cnt (fun i => i < x) m ≤ x := by
      intro m
      induction m with
      | zero => simp [cnt]
      | succ m ih =>
        by_cases h : m < x
        · have := cnt_le (fun i => i < x) (m + 1); omega
        · rw [cnt_succ_neg (p := fun i => i < x) h]; exact ih
    have := h2 n; omega
  · intro h
    cases hp : at1 T n sa g k x with
    | true => rfl
    | false =>
      exfalso
      unfold from1 at h
      have h1 : cnt (fun i => i < x + 1) n ≤ cnt (fun i => at1 T n sa g k i = false) n := cnt_mono fun i hi h2 => by
        cases hq : at1 T n sa g k i with
        | false => rfl
        | true => have := hm i x (by omega) hx hq; rw [hp] at this; cases this
      have h2 : ∀ m, m ≥ x + 1 → x + 1 ≤ cnt (fun i => i < x + 1) m := by
        intro m hm'
        have : cnt (fun i => i < x + 1) (x + 1) = x + 1 := cnt_true fun i hi => hi
        have := cnt_mono_n (p := fun i => i < x + 1) hm'
        omega
      have := h2 n (by omega); omega
theorem at2_mono (hT : ∀ i, i < n → T i < 256) (hg : ∀ j, j < k → g j < 256) (H : IsSA T n sa) : ∀ i j, i ≤ j → j < n - from1 T n sa g k → at2 T n sa g k (from1 T n sa g k) i = true → at2 T n sa g k (from1 T n sa g k) j = true := by
  intro i j hij hj h
  by_cases e : i = j
  · subst e; exact h
  · cases hq : at2 T n sa g k (from1 T n sa g k) j with
    | true => rfl
    | false =>
      exfalso
      rw [at2_iff hT hg H (by omega)] at hq
      have h1 : at2 T n sa g k (from1 T n sa g k) i = false := by
        rw [at2_iff hT hg H (by omega), Occ_pre]
        rw [Occ_pre] at hq
        refine ⟨by have := (H.lt (show i + from1 T n sa g k < n by omega)).1; omega, ?_⟩
        refine pre_ll _ _ _ ?_ (H.ll (show i + from1 T n sa g k < j + from1 T n sa g k by omega) (by omega)) hq.2
        exact (at1_iff hT hg H (by omega)).1 ((at1_from hT hg H (by omega)).2 (by omega))
      rw [h1] at h; cases h
/-- WHAT THE SEARCH FINDS: just the places at which the text stands. -/
theorem find_iff (hT : ∀ i, i < n → T i < 256) (hg : ∀ j, j < k → g j < 256) (H : IsSA T n sa) {x : Nat} (hx : x < n) :
    (from1 T n sa g k ≤ x ∧ x < from1 T n sa g k + many2 T n sa g k) ↔ Occ T n g k (sa x).toNat := by
  have hm := at2_mono (k := k) hT hg H
  have hmono : ∀ j, j < n - from1 T n sa g k → (j < many2 T n sa g k ↔ at2 T n sa g k (from1 T n sa g k) j = false) := by
    intro j hj
    constructor
    · intro h
      cases hq : at2 T n sa g k (from1 T n sa g k) j with
      | false => rfl
      | true =>
        exfalso
        unfold many2 at h
        have h1 : cnt (fun i => at2 T n sa g k (from1 T n sa g k) i = false) (n - from1 T n sa g k) ≤ cnt (fun i => i < j) (n - from1 T n sa g k) := cnt_mono fun i hi h2 => Nat.lt_of_not_le fun hle => by
          have := hm j i hle hi hq; rw [this] at h2; cases h2
        have h2 : ∀ m, cnt (fun i => i < j) m ≤ j := by
          intro m
          induction m with
          | zero => simp [cnt]
          | succ m ih =>
            by_cases h : m < j
            · have := cnt_le (fun i => i < j) (m + 1); omega
            · rw [cnt_succ_neg (p := fun i => i < j) h]; exact ih
        have := h2 (n - from1 T n sa g k); omega
    · intro h
      unfold many2
      have h1 : cnt (fun i => i < j + 1) (n - from1 T n sa g k) ≤ cnt (fun i => at2 T n sa g k (from1 T n sa g k) i = false) (n - from1 T n sa g k) := cnt_mono fun i hi h2 => by
        cases hq : at2 T n sa g k (from1 T n sa g k) i with
        | false => rfl
        | true => have := hm i j (by omega) hj hq; rw [h] at this; cases this
      have h3 : cnt (fun i => i < j + 1) (j + 1) = j + 1 := cnt_true fun i hi => hi
      have h4 := cnt_mono_n (p := fun i => i < j + 1) (show j + 1 ≤ n - from1 T n sa g k by omega)
      omega
  constructor
  · rintro ⟨h1, h2⟩
    have := (hmono (x - from1 T n sa g k) (by omega)).1 (by omega)
    rw [at2_iff hT hg H (by omega), show x - from1 T n sa g k + from1 T n sa g k = x by omega] at this
    exact this
  · intro h
    have h1 : from1 T n sa g k ≤ x := by
      rw [← at1_from hT hg H hx, at1_iff hT hg H hx]
      exact pre_not_ll _ _ ((Occ_pre k _ g).1 h).2
    refine ⟨h1, ?_⟩
    have := (hmono (x - from1 T n sa g k) (by omega)).2 (by rw [at2_iff hT hg H (by omega), show x - from1 T n sa g k + from1 T n sa g k = x by omega]; exact h)
    omega
end
end Sais

/- (*Index).lookupAll. -/
set_option linter.unusedVariables false
namespace Go.Proofs.YtoebcbmkkhbldaaDoor
open Go.RowKit Go.Mem Sais
set_option maxRecDepth 100000

/-- Where the found part begins (at the very end the address stays). -/
def offI (n so i : Nat) : Nat := if i < n then so + i else so
theorem ints_slice (xb o n sb so i j : Nat) (w : World) (hn : n ≤ 1073741824) (hij : i ≤ j) (hjn : j ≤ n) (c1 : w.cell? ⟨xb, o, none⟩ = some (.slice (some ⟨sb, so, none⟩) n n)) :
    Calls Tryd.prog 15 #[.pointer (some ⟨xb, o, none⟩), .int .i64 i, .int .i64 j] w (IPost (.agg #[.slice (some ⟨sb, offI n so i, none⟩) (j - i) (n - i), .slice none 0 0]) w) := by
  by_cases h : i < n
  · unfold offI; rw [if_pos h]
    exact ints_slice_in xb o n n sb so i j w hn hij hjn (Nat.le_refl _) h c1
  · obtain rfl : i = n := by omega
    obtain rfl : j = i := by omega
    unfold offI; rw [if_neg h, Nat.sub_self]
    exact ints_slice_end xb o j sb so w hn c1

theorem Grew.byteV {w w' : World} {g : Nat → Nat} {k : Nat} {sv : Value} (h : ByteV g k w sv) (hk : Grew w w') : ByteV g k w' sv := by
  rcases h with h | ⟨b, o, c, h1, h2, h3⟩
  · exact .inl h
  · exact .inr ⟨b, o, c, h1, h2, h3.kept hk fun _ _ h => h⟩

/-- The first search, over an index. -/
theorem search1_ix {xb p1 p2 n tb tx tc sb so sc k : Nat} {T g : Nat → Nat} {sa : Nat → Int} {dv sv : Value} {w : World} (H : Ix w xb T n dv tb tx tc sb so sc sa) (hg : ∀ j, j < k → g j < 256)
    (d1 : w.cell? ⟨p1, 0, none⟩ = some (.pointer (some ⟨xb, 0, none⟩))) (d2 : w.cell? ⟨p2, 0, none⟩ = some sv) (hs : ByteV g k w sv) :
    Calls Tryd.prog 29 #[.int .i64 n, .func (.func 30) #[] #[.pointer (some ⟨p1, 0, none⟩), .pointer (some ⟨p2, 0, none⟩)]] w fun e w' => e = .returned (.int .i64 (from1 T n sa g k : Nat)) ∧ ∃ q, w' = w.drewN q := by
  refine (search_one p1 p2 n (at1 T n sa g k) w H.hn ?_).mono ?_
  · intro i hi q
    have hv := H.isa.lt hi
    have c3 : w.cell? ⟨sb, so + i, none⟩ = some (.int .i32 ((sa i).toNat : Nat)) := by rw [← hv.2]; exact H.s i hi
    rcases H.t with ⟨h, _⟩ | ⟨h1, h2, h3⟩
    · omega
    · have c0 := H.c0; rw [h1] at c0
      exact look1 xb p1 p2 n tb tx tc sb so sc i (sa i).toNat k T g sv (w.drewN q) H.hn hi hv.1 h2 c0 H.c1 c3 d1 d2 h3 (by rcases hs with h | ⟨b, o, c, h1, h2, h3⟩; exact .inl h; exact .inr ⟨b, o, c, h1, h2, h3⟩)
  · rintro e w' ⟨r, h1, h2, h3, rfl, hw⟩
    exact ⟨by rw [turn_eq (at1_mono H.hT hg H.isa) h1 h2 h3]; rfl, hw⟩
/-- The second. -/
theorem search2_ix {xb p1 p2 p3 n tb tx tc sb so sc k : Nat} {T g : Nat → Nat} {sa : Nat → Int} {dv sv : Value} {w : World} (H : Ix w xb T n dv tb tx tc sb so sc sa) (hg : ∀ j, j < k → g j < 256)
    (d1 : w.cell? ⟨p1, 0, none⟩ = some (.pointer (some ⟨xb, 0, none⟩))) (d3 : w.cell? ⟨p3, 0, none⟩ = some (.int .i64 (from1 T n sa g k : Nat))) (d2 : w.cell? ⟨p2, 0, none⟩ = some sv) (hs : ByteV g k w sv) (hk : ∃ d x, sv = .slice d k x) (hk2 : k ≤ 1073741824) :
    Calls Tryd.prog 29 #[.int .i64 ((n - from1 T n sa g k : Nat)), .func (.func 33) #[] #[.pointer (some ⟨p1, 0, none⟩), .pointer (some ⟨p3, 0, none⟩), .pointer (some ⟨p2, 0, none⟩)]] w fun e w' => e = .returned (.int .i64 (many2 T n sa g k : Nat)) ∧ ∃ q, w' = w.drewN q := by
  have hn := H.hn
  refine (search_two p1 p3 p2 (n - from1 T n sa g k) (at2 T n sa g k (from1 T n sa g k)) w (by omega) ?_).mono ?_
  · intro i hi q
    have hi' : i + from1 T n sa g k < n := by omega
    have hv := H.isa.lt hi'
    have c3 : w.cell? ⟨sb, so + (i + from1 T n sa g k), none⟩ = some (.int .i32 ((sa (i + from1 T n sa g k)).toNat : Nat)) := by rw [← hv.2]; exact H.s _ hi'
    rcases H.t with ⟨h, _⟩ | ⟨h1, h2, h3⟩
    · omega
    · have c0 := H.c0; rw [h1] at c0
      exact look2 xb p1 p2 p3 n tb tx tc sb so sc (from1 T n sa g k) i (sa (i + from1 T n sa g k)).toNat k T g sv (w.drewN q) H.hn hi' hv.1 h2 c0 H.c1 c3 d1 d3 d2 h3 (by rcases hs with h | ⟨b, o, c, h1, h2, h3⟩; exact .inl h; exact .inr ⟨b, o, c, h1, h2, h3⟩) hk hk2
  · rintro e w' ⟨r, h1, h2, h3, rfl, hw⟩
    exact ⟨by rw [turn_eq (at2_mono H.hT hg H.isa) h1 h2 h3]; rfl, hw⟩
end Go.Proofs.YtoebcbmkkhbldaaDoor

/- (*Index).lookupAll, the walk. -/
set_option linter.unusedVariables false
namespace Go.Proofs.YtoebcbmkkhbldaaDoor
open Go.RowKit Go.Mem Sais
set_option maxRecDepth 100000

/-- What lookupAll knows of its world. -/
structure LA (w wr : World) (xb p : Nat) (T : Nat → Nat) (n : Nat) (dv : Value) (tb tx tc sb so : Nat) (sa : Nat → Int) (g : Nat → Nat) (k : Nat) (sv : Value) : Prop where
  ix : Ix wr xb T n dv tb tx tc sb so n sa
  s : ByteV g k wr sv
  d1 : wr.cell? ⟨p, 0, none⟩ = some (.pointer (some ⟨xb, 0, none⟩))
  d2 : wr.cell? ⟨p + 1, 0, none⟩ = some sv
  d4 : wr.cell? ⟨p + 2, 0, none⟩ = some (.slice none 0 0)
  d5 : wr.cell? ⟨p + 2, 1, none⟩ = some (.slice none 0 0)
  f4 : wr.frozen? ⟨p + 2, 0, none⟩ = false
  f5 : wr.frozen? ⟨p + 2, 1, none⟩ = false
  grew : Grew w wr
theorem many2_le {T : Nat → Nat} {n : Nat} {sa : Nat → Int} {g : Nat → Nat} {k : Nat} : many2 T n sa g k ≤ n - from1 T n sa g k := cnt_le _ _
theorem LA.of {w w1 wr : World} {xb p : Nat} {T : Nat → Nat} {n : Nat} {dv : Value} {tb tx tc sb so : Nat} {sa : Nat → Int} {g : Nat → Nat} {k : Nat} {sv : Value} (h : LA w w1 xb p T n dv tb tx tc sb so sa g k sv) (hk : Grew w1 wr) : LA w wr xb p T n dv tb tx tc sb so sa g k sv := by
  have b1 := World.block_lt_of_cell? w1 _ h.d1
  have b2 := World.block_lt_of_cell? w1 _ h.d2
  have b4 := World.block_lt_of_cell? w1 _ h.d4
  exact ⟨h.ix.grew hk, Grew.byteV h.s hk, (hk.cell _ 0 b1 fun h => h).trans h.d1, (hk.cell _ 0 b2 fun h => h).trans h.d2, (hk.cell _ 0 b4 fun h => h).trans h.d4, (hk.cell _ 1 b4 fun h => h).trans h.d5, (hk.frozen _ 0 b4).trans h.f4, (hk.frozen _ 1 b4).trans h.f5, h.grew.trans hk⟩
theorem LA.first {w : World} {xb : Nat} {T : Nat → Nat} {n : Nat} {dv : Value} {tb tx tc sb so : Nat} {sa : Nat → Int} {g : Nat → Nat} {k : Nat} {d : Option Addr} {x : Nat} (H : Ix w xb T n dv tb tx tc sb so n sa) (hs : ByteV g k w (.slice d k x)) (t1 t2 t3 : Nat) :
    LA w (((w.alloc (.cells #[.pointer (some ⟨xb, 0, none⟩)] t1)).alloc (.cells #[.slice d k x] t2)).alloc (.cells #[.slice none 0 0, .slice none 0 0] t3)) xb w.heap.size T n dv tb tx tc sb so sa g k (.slice d k x) := by
  have hk : Grew w (((w.alloc (.cells #[.pointer (some ⟨xb, 0, none⟩)] t1)).alloc (.cells #[.slice d k x] t2)).alloc (.cells #[.slice none 0 0, .slice none 0 0] t3)) := (((Kept.refl _ w).alloc _).alloc _).alloc _
  have hz : w.heap.size + 2 = ((w.alloc (.cells #[.pointer (some ⟨xb, 0, none⟩)] t1)).alloc (.cells #[.slice d k x] t2)).heap.size := by simp
  have hz1 : w.heap.size + 1 = (w.alloc (.cells #[.pointer (some ⟨xb, 0, none⟩)] t1)).heap.size := by simp
  refine ⟨H.grew hk, Grew.byteV hs hk, ?_, ?_, ?_, ?_, ?_, ?_, hk⟩
  · rw [World.cell?_alloc_lt _ _ _ (by simp; omega), World.cell?_alloc_lt _ _ _ (by simp), World.cell?_alloc_new]; rfl
  · rw [World.cell?_alloc_lt _ _ _ (by simp), hz1, World.cell?_alloc_new]; rfl
  · rw [hz, World.cell?_alloc_new]; rfl
  · rw [hz, World.cell?_alloc_new]; rfl
  · rw [hz, World.frozen?_alloc_new]
  · rw [hz, World.frozen?_alloc_new]
set_option maxHeartbeats 4000000 in
theorem lookup_all (xb n tb tx tc sb so k : Nat) (T g : Nat → Nat) (sa : Nat → Int) (dv sv : Value) (w : World) (H : Ix w xb T n dv tb tx tc sb so n sa) (hg : ∀ j, j < k → g j < 256) (hs : ByteV g k w sv) (hk : ∃ d x, sv = .slice d k x) (hk2' : k ≤ 1073741824) :
    Calls Tryd.prog 19 #[.pointer (some ⟨xb, 0, none⟩), sv] w (IPost (.agg #[.slice (some ⟨sb, offI n so (from1 T n sa g k), none⟩) (many2 T n sa g k) (n - from1 T n sa g k), .slice none 0 0]) w) := by
  have hn := H.hn
  have HH := Lib.hid H; have HS := Lib.hid hs; have HG := Lib.hid hg
  clear hs hg H
  obtain ⟨d, x, rfl⟩ := hk
  go_enter Tryd.func19, Tryd.ntmps19
  go_wp2_with fail
  have HL := Lib.hid (LA.first HH.out HS.out 35 28 46)
  have hsz : (((w.alloc (.cells #[.pointer (some ⟨xb, 0, none⟩)] 35)).alloc (.cells #[.slice d k x] 28)).alloc (.cells #[.slice none 0 0, .slice none 0 0] 46)).heap.size = w.heap.size + 3 := by simp
  generalize hw1 : ((w.alloc (.cells #[.pointer (some ⟨xb, 0, none⟩)] 35)).alloc (.cells #[.slice d k x] 28)).alloc (.cells #[.slice none 0 0, .slice none 0 0] 46) = w1 at *
  clear hw1
  rw [show w.heap.size + 1 + 1 = w.heap.size + 2 by omega]
  generalize hp : w.heap.size = p at *
  have d1 := HL.out.d1
  have HC1 := Lib.hid (fun u (hu : Grew w1 u) => ints_len xb 1 n n (some ⟨sb, so, none⟩) u hn (HL.out.of hu).ix.c1 (HL.out.of hu).ix.c2)
  have HC2 := Lib.hid (fun u (hu : Grew w1 u) => search1_ix (HL.out.of hu).ix HG.out (HL.out.of hu).d1 (HL.out.of hu).d2 (HL.out.of hu).s)
  go_wp2_with (first | (go_at_call 13; refine (HC1.out _ (Kept.refl _ _)).mono ?_; rintro e w' ⟨rfl, m1, rfl⟩) | (go_at_call 29; refine (HC2.out _ ((Kept.refl _ _).drewN _)).mono ?_; rintro e w' ⟨rfl, m2, rfl⟩))
  generalize m1 + m2 = q
  clear HC1 HC2 d1
  have hk2 : Grew w1 ((w1.drewN q).alloc (.cells #[.int .i64 (from1 T n sa g k : Nat)] 3)) := ((Kept.refl _ w1).drewN q).alloc _
  have d3 : ((w1.drewN q).alloc (.cells #[.int .i64 (from1 T n sa g k : Nat)] 3)).cell? ⟨p + 3, 0, none⟩ = some (.int .i64 (from1 T n sa g k : Nat)) := by
    rw [← hsz, show w1.heap.size = (w1.drewN q).heap.size from rfl, World.cell?_alloc_new]; rfl
  have HL2 := Lib.hid (HL.out.of hk2)
  clear HL hk2 hsz
  generalize (w1.drewN q).alloc (.cells #[.int .i64 (from1 T n sa g k : Nat)] 3) = w2 at *
  have hf : from1 T n sa g k ≤ n := from1_le
  have hm : from1 T n sa g k + many2 T n sa g k ≤ n := by have := many2_le (T := T) (n := n) (sa := sa) (g := g) (k := k); omega
  have HC1 := Lib.hid (fun q => ints_len xb 1 n n (some ⟨sb, so, none⟩) (w2.drewN q) hn HL2.out.ix.c1 HL2.out.ix.c2)
  have HC2 := Lib.hid (fun q => search2_ix (HL2.out.of ((Kept.refl _ w2).drewN q)).ix HG.out (HL2.out.of ((Kept.refl _ w2).drewN q)).d1 d3 (HL2.out.of ((Kept.refl _ w2).drewN q)).d2 (HL2.out.of ((Kept.refl _ w2).drewN q)).s ⟨_, _, rfl⟩ hk2')
  have HC3 := Lib.hid (fun u (hu : Grew w2 u) => ints_slice xb 1 n sb so (from1 T n sa g k) (from1 T n sa g k + many2 T n sa g k) u hn (Nat.le_add_right _ _) hm (HL2.out.of hu).ix.c1)
  rw [Nat.add_sub_cancel_left] at HC3
  have d1 := HL2.out.d1
  generalize from1 T n sa g k = f at *
  generalize many2 T n sa g k = z at *
  obtain ⟨r, hr⟩ : ∃ r, n - f = r := ⟨_, rfl⟩
  obtain ⟨y, hy⟩ : ∃ y, f + z = y := ⟨_, rfl⟩
  rw [hr] at HC2
  rw [hy] at HC3
  have e1 : IntKind.i64.wrap ((n : Int) - (f : Int)) = (r : Int) := by rw [IntWalk.i64_in _ (by omega)]; omega
  have e2 : IntKind.i64.wrap ((f : Int) + (z : Int)) = (y : Int) := by rw [IntWalk.i64_in _ (by omega)]; omega
  clear hr hy hm hf
  go_quiet (first | (go_at_call 13; exact Calls.quiet_of (HC1.out _)) | (go_at_call 29; exact Calls.quiet_of (HC2.out _)))
  clear HC1 HC2 e1 e2
  go_wp2_with fail
  have HL3 := Lib.hid (HL2.out.of ((Kept.refl _ w2).drewN nq))
  replace d3 : (w2.drewN nq).cell? ⟨p + 3, 0, none⟩ = some (.int .i64 (f : Nat)) := d3
  have HC4 := Lib.hid (HC3.out (w2.drewN nq).drew ((Kept.refl _ w2).drewN nq).drew)
  clear d1 HL2 HC3
  generalize w2.drewN nq = w3 at *
  have d1 := HL3.out.d1
  go_still_tail 5, (by kernel_rfl)
  change wpList _ _ _ _ _ w3.drew
  have HL4 := Lib.hid (HL3.out.of (Kept.refl _ w3).drew)
  clear d1 HL3 d3
  generalize w3.drew = w4 at *
  go_wp2_with (go_at_call 15; refine HC4.out.mono ?_; rintro e w5 ⟨rfl, hk5⟩; have HL5 := Lib.hid (HL4.out.of hk5); clear hk5 HL4 HC4; have d4 := HL5.out.d4; have d5 := HL5.out.d5; have f4 := HL5.out.f4; have f5 := HL5.out.f5)
  refine bodyPost_ret (v := .agg #[.slice (some ⟨sb, offI n so f, none⟩) z (n - f), .slice none 0 0]) (by simp [results, Tryd.results19, go_sem, *]) rfl ⟨rfl, ?_⟩
  exact HL5.out.grew.trans' (((Kept.refl (fun b _ => p ≤ b) w5).set _ (by omega)).set _ (by omega)) fun x o hx hh => by omega
end Go.Proofs.YtoebcbmkkhbldaaDoor

/- (*Index).Lookup. -/
set_option linter.unusedVariables false
namespace Go.Proofs.YtoebcbmkkhbldaaDoor
open Go.RowKit Go.Mem Sais
set_option maxRecDepth 100000

theorem Tryd.infoInt : (Tryd.prog.info? 3).map (fun i => (i.zero, i.size, i.bytes)) = some (some (.int .i64 0), 1, 8) := by kernel_rfl
theorem Tryd.makeInt (u : World) (n : Nat) (hn : n ≤ 1073741824) : (Instr.makeSlice 26 (.int .i64 (n : Int)) (.int .i64 (n : Int))).run Tryd.prog u =
    .ok (.slice (some ⟨u.heap.size, 0, none⟩) n n) (u.alloc (.cells (madeCells #[.int .i64 0] n) 3)) := by
  obtain ⟨i0, hi, hz0, hz1, hz2⟩ := info_parts Tryd.infoInt
  have h := run_make (P := Tryd.prog) u 26 3 i0 (.int .i64 0) Tryd.underlying26 hi hz0 .i64 .i64 (n : Int) (n : Int) (by omega) (Int.le_refl _) (by rw [hz2]; omega) (by omega)
  simpa [hz1, Value.cells] using h

/-- A new list of ints (nil where it is empty). -/
def listV (rb c : Nat) : Value := if c = 0 then .slice none 0 0 else .slice (some ⟨rb, 0, none⟩) c c
def LPost (c : Nat) (f : Nat → Int) (w : World) (e : Ending) (w' : World) : Prop :=
  ∃ rb, e = .returned (listV rb c) ∧ w.heap.size ≤ rb ∧ Hold .i64 w' rb 0 c f ∧ Grew w w'
theorem LPost.nil {f : Nat → Int} {w w' : World} {c : Nat} (h : Grew w w') (hc : c = 0) : LPost c f w (.returned (.slice none 0 0)) w' := by
  subst hc; exact ⟨w.heap.size, rfl, Nat.le_refl _, fun j hj => by omega, h⟩
theorem LPost.mk {f : Nat → Int} {w w' : World} {rb c : Nat} (hc : 0 < c) (hb : w.heap.size ≤ rb) (hh : Hold .i64 w' rb 0 c f) (h : Grew w w') : LPost c f w (.returned (.slice (some ⟨rb, 0, none⟩) c c)) w' := by
  refine ⟨rb, ?_, hb, hh, h⟩
  unfold listV; rw [if_neg (by omega)]
/-- How many are handed back. -/
def lim (z k : Nat) (m : Int) : Nat := if k = 0 ∨ m = 0 then 0 else if m < 0 ∨ (z : Int) < m then z else m.toNat
theorem limF {z c : Nat} {m : Int} (h : (if m < 0 ∨ (z : Int) < m then z else m.toNat) = c) (hb : false = true ↔ (m < 0 ∨ (z : Int) < m)) : m = (c : Int) := by
  have h1 : ¬ (m < 0 ∨ (z : Int) < m) := by rw [← hb]; simp
  rw [if_neg h1] at h
  omega
theorem limT {z c : Nat} {m : Int} (h : (if m < 0 ∨ (z : Int) < m then z else m.toNat) = c) (hb : True ↔ (m < 0 ∨ (z : Int) < m)) : z = c := by
  rw [if_pos (hb.1 trivial)] at h
  exact h
set_option maxHeartbeats 4000000 in
theorem lookup_ix (xb n tb tx tc sb so k : Nat) (T g : Nat → Nat) (sa : Nat → Int) (dv sv : Value) (m : Int) (w : World) (H : Ix w xb T n dv tb tx tc sb so n sa) (hg : ∀ j, j < k → g j < 256) (hs : ByteV g k w sv) (hk : ∃ d x, sv = .slice d k x) (hk2 : k ≤ 1073741824) (hm1 : -9223372036854775808 ≤ m) (hm2 : m < 9223372036854775808) :
    Calls Tryd.prog 8 #[.pointer (some ⟨xb, 0, none⟩), sv, .int .i64 m] w (LPost (lim (many2 T n sa g k) k m) (fun j => sa (from1 T n sa g k + j)) w) := by
  have hn := H.hn
  have HC := Lib.hid (lookup_all xb n tb tx tc sb so k T g sa dv sv w H hg hs hk hk2)
  have hf : from1 T n sa g k ≤ n := from1_le
  have hz : from1 T n sa g k + many2 T n sa g k ≤ n := by have := many2_le (T := T) (n := n) (sa := sa) (g := g) (k := k); omega
  obtain ⟨d, x, rfl⟩ := hk
  have HS : Hid (Rd .i32 w sb (offI n so (from1 T n sa g k)) (many2 T n sa g k) (fun j => sa (from1 T n sa g k + j))) := fun j hj => by
    have := H.s (from1 T n sa g k + j) (by omega)
    unfold offI; rw [if_pos (by omega), Nat.add_assoc]; exact this
  have HV : Hid (∀ j, j < many2 T n sa g k → 0 ≤ sa (from1 T n sa g k + j) ∧ sa (from1 T n sa g k + j) < 1073741824) := fun j hj => by
    have := H.isa.lt (show from1 T n sa g k + j < n by omega); omega
  generalize from1 T n sa g k = f at *
  generalize many2 T n sa g k = z at *
  generalize hff : (fun j => sa (f + j)) = F at *
  replace HV : Hid (∀ j, j < z → 0 ≤ F j ∧ F j < 1073741824) := by subst hff; exact HV
  clear hff H hs hg
  generalize offI n so f = o at *
  by_cases h0 : k = 0 ∨ m = 0
  · unfold lim; rw [if_pos h0]
    go_enter Tryd.func8, Tryd.ntmps8
    by_cases h1 : k = 0
    · subst h1
      go_wp2
      go_ret
      exact LPost.nil (Kept.refl _ w) rfl
    · have h2 : m = 0 := by omega
      have h3 : 0 < (k : Int) := by omega
      subst h2
      go_wp2
      go_ret
      exact LPost.nil (Kept.refl _ w) rfl
  · obtain ⟨c, hc⟩ : ∃ c, lim z k m = c := ⟨_, rfl⟩
    rw [hc]
    unfold lim at hc
    rw [if_neg h0] at hc
    have HCC := Lib.hid hc
    have hcz : c ≤ z := by split at hc <;> omega
    clear hc
    have h3 : 0 < (k : Int) := by omega
    have h4 : (m != 0) = true := by simp; omega
    clear h0
    go_enter Tryd.func8, Tryd.ntmps8
    go_wp2_with (first | (go_at_call 19; refine HC.out.mono ?_; rintro e w1 ⟨rfl, hk1⟩))
    have hk2' : Grew w1 (w1.alloc (.cells #[.slice (some ⟨sb, o, none⟩) z (n - f), .slice none 0 0] 46)) := (Kept.refl _ w1).alloc _
    have c0 : (w1.alloc (.cells #[.slice (some ⟨sb, o, none⟩) z (n - f), .slice none 0 0] 46)).cell? ⟨w1.heap.size, 0, none⟩ = some (.slice (some ⟨sb, o, none⟩) z (n - f)) := by
      rw [World.cell?_alloc_new]; rfl
    have c1 : (w1.alloc (.cells #[.slice (some ⟨sb, o, none⟩) z (n - f), .slice none 0 0] 46)).cell? ⟨w1.heap.size, 1, none⟩ = some (.slice none 0 0) := by
      rw [World.cell?_alloc_new]; rfl
    have hK := Lib.hid (hk1.trans hk2')
    have HS2 := Lib.hid (HS.out.kept (hk1.trans hk2') fun _ _ h => h)
    clear hk1 hk2' HC HS
    generalize w1.alloc (.cells #[.slice (some ⟨sb, o, none⟩) z (n - f), .slice none 0 0] 46) = w2 at *
    generalize w1.heap.size = p at *
    have HC1 := ints_len p 0 z (n - f) (some ⟨sb, o, none⟩) w2 (by omega) c0 c1
    refine HC1.mono ?_
    rintro e w3 ⟨rfl, q, rfl⟩
    clear HC1
    replace c0 : (w2.drewN q).cell? ⟨p, 0, none⟩ = some (.slice (some ⟨sb, o, none⟩) z (n - f)) := c0
    replace hK := Lib.hid (hK.out.drewN q)
    replace HS2 := Lib.hid (HS2.out.drewN q)
    clear c1
    generalize w2.drewN q = w3 at *
    go_upto_region 4 with fail
    go_cut [28] (fun v wx => ∃ b : Bool, v = .bool b ∧ w3 = wx ∧ Hid (b = true ↔ (m < 0 ∨ (z : Int) < m)))
    case first =>
      by_cases hm : m < 0
      · go_wp2
        go_meet
        exact ⟨_, rfl, rfl, by show _ ↔ _; simp; omega⟩
      · have hm' : decide (m < 0) = false := by simp; omega
        go_wp2
        go_meet
        exact ⟨_, rfl, rfl, by show _ ↔ _; simp; omega⟩
    case rest =>
      obtain ⟨b, rfl, rfl, HB⟩ := hcut
      go_upto_if 28 with fail
      go_cut [2] (fun v wx => v = .int .i64 (c : Nat) ∧ w3 = wx)
      case first =>
        cases b
        · go_wp2
          go_meet
          exact ⟨by rw [limF HCC.out HB.out], rfl⟩
        · go_wp2
          go_meet
          exact ⟨by rw [limT HCC.out HB.out], rfl⟩
      case rest =>
        obtain ⟨rfl, rfl⟩ := hcut
        clear HCC HB
        by_cases hc0 : c = 0
        · subst hc0
          go_wp2
          go_ret
          exact LPost.nil hK.out rfl
        · have hc1 : 0 < (c : Int) := by omega
          have hmk := fun u => Tryd.makeInt u c (by omega)
          have hpb := World.block_lt_of_cell? w3 _ c0
          have hpb' : p ≠ w3.heap.size := Nat.ne_of_lt hpb
          have q1 := Tryd.neq77s
          go_wp2
          have hk4 : Grew w3 (w3.alloc (.cells (madeCells #[.int .i64 0] c) 3)) := (Kept.refl _ w3).alloc _
          have hH := Hold.made .i64 w3 3 c
          have HSx := Lib.hid (HS2.out.kept hk4 fun _ _ h => h)
          have hK4 := Lib.hid (hK.out.trans hk4)
          have hsz := hK.out.size
          have c4 : (w3.alloc (.cells (madeCells #[.int .i64 0] c) 3)).cell? ⟨p, 0, none⟩ = some (.slice (some ⟨sb, o, none⟩) z (n - f)) := (hk4.cell _ 0 hpb fun h => h).trans c0
          have hsb : sb ≠ w3.heap.size := fun h => by have := HS2.out.lt (by omega); omega
          clear hk4 hmk hpb c0 HS2 hK
          generalize w3.alloc (.cells (madeCells #[.int .i64 0] c) 3) = w4 at *
          generalize w3.heap.size = rb at *
          go_loopw [9, 39] (fun _ is wr => ∃ i, i ≤ c ∧ is = .int .i64 (i : Nat) ∧ Hid (Hold .i64 wr rb 0 c (fun j => if j < i then F j else 0)) ∧ Hid (Kept (In rb 0 c) w4 wr)) (fun _ is _ => c - (intOf is).toNat)
          case atStart => exact ⟨0, by omega, rfl, hH.congr fun j hj => by simp, Kept.refl _ _⟩
          case round =>
            clear hH
            obtain ⟨i, hi, rfl, HH, HK⟩ := hrel
            have hps : ¬ In rb 0 c p 0 := fun h => hpb' h.1
            have cp : wr.cell? ⟨p, 0, none⟩ = some (.slice (some ⟨sb, o, none⟩) z (n - f)) := (HK.out.cell p 0 (World.block_lt_of_cell? w4 _ c4) hps).trans c4
            clear hps
            by_cases hlt : i < c
            · have hlt' : (i : Int) < (c : Int) := by omega
              have hlz : (i : Int) < (z : Int) := by omega
              have ci : wr.cell? ⟨sb, o + i, none⟩ = some (.int .i32 (F i)) := (HSx.out.kept HK.out (fun j hj h => hsb h.1)) i (by omega)
              obtain ⟨cr, fr⟩ := HH.out i hlt
              simp only [Nat.lt_irrefl, if_false, Nat.zero_add] at cr
              rw [Nat.zero_add] at fr
              obtain ⟨v0, v1⟩ := HV.out i (by omega)
              have hset : Hid (Hold .i64 (wr.setCell ⟨rb, i, none⟩ (.int .i64 (F i))) rb 0 c (fun j => if j < i + 1 then F j else 0)) := by
                have h := HH.out.set hlt (F i)
                rw [Nat.zero_add] at h
                refine h.congr fun j hj => ?_
                unfold upd
                by_cases e : j = i
                · subst e; simp
                · simp only [e, if_false]
                  by_cases e2 : j < i
                  · rw [if_pos e2, if_pos (by omega)]
                  · rw [if_neg e2, if_neg (by omega)]
              have hkk : Hid (Kept (In rb 0 c) w4 (wr.setCell ⟨rb, i, none⟩ (.int .i64 (F i)))) := HK.out.set _ ⟨rfl, by omega, by omega⟩
              clear HH HK
              generalize F i = fi at *
              go_wp2
              go_roundw
              case rel => exact ⟨i + 1, by omega, by go_num, hset, hkk⟩
              case measure => simp [intOf]; omega
            · obtain rfl : i = c := by omega
              go_wp2
              go_ret
              exact LPost.mk (by omega) hsz (HH.out.congr fun j hj => by rw [if_pos hj]) (hK4.out.trans' HK.out fun x o hx hh => by have := hh.1; omega)
end Go.Proofs.YtoebcbmkkhbldaaDoor

/- impl.Lookup: strings in, a new list of ints out. -/
set_option linter.unusedVariables false
namespace Go.Proofs.YtoebcbmkkhbldaaDoor
open Go.RowKit Go.Mem Sais
set_option maxRecDepth 100000

/-- An append whose run is known. -/
theorem wpList_append_run {P : Program} {w : World} {ops : Array Oper} {rest : List Oper} {o : Oper} {a : Act} {Q : Exit → Act → World → Prop} (hgd : o.guard = none) (s x : Operand) (t1 t2 : TypeId)
    (ho : o.op = .call { callee := .builtin .append, args := #[s, x], argTypes := #[t1, t2] }) (v1 v2 : Value) (hs : a.eval s = v1) (hx : a.eval x = v2) (v' : Value) (w' : World)
    (hr : (Builtin.append_ #[t1, t2] o.type #[v1, v2]).run P w = .ok v' w') (h : wpList P ops Q rest (a.put o.dst v') w') : wpList P ops Q (o :: rest) a w :=
  wpList_plain hgd fun _ hK => by
    unfold Oper.wp execOp
    simp only [ho, resolve, invoke, builtin, Sem.run_bind, Sem.run_pure, Result.andThen_ok, List.map_toArray, List.map_cons, List.map_nil, hs, hx, hr]
    exact hK _ _ h
/-- The bytes of a string. -/
def chr (s : ByteArray) (j : Nat) : Nat := (s.data[j]?.getD 0).toNat
theorem chr_lt (s : ByteArray) (j : Nat) : chr s j < 256 := UInt8.toNat_lt _
/-- What []byte(s) makes. -/
def strW (w : World) (s : ByteArray) : World := w.drew.alloc (.cells (bytesRow s (grownCap w s.size 0 5)) 5 ((bytesRow s (grownCap w s.size 0 5)).size, (bytesRow s (grownCap w s.size 0 5)).size + 1))
def strV (w : World) (s : ByteArray) : Value := .slice (some ⟨w.heap.size, 0, none⟩) s.size (grownCap w s.size 0 5)
theorem run_str (w : World) (s : ByteArray) : (convert 9 28 (.string s)).run Tryd.prog w = .ok (strV w s) (strW w s) :=
  run_bytes_of_string w _ _ _ s Tryd.underlying9 Tryd.underlying28 Tryd.underlying5
theorem strW_grew (w : World) (s : ByteArray) : Grew w (strW w s) := (Kept.refl _ w).drew.alloc _
theorem strW_rd (w : World) (s : ByteArray) : Rd .u8 (strW w s) w.heap.size 0 s.size (fun j => (chr s j : Int)) := fun j hj => by
  have hj' : j < s.data.size := hj
  have h : (strW w s).cell? ⟨w.heap.size, j, none⟩ = (bytesRow s (grownCap w s.size 0 5))[j]? := by
    show (World.alloc _ _).cell? _ = _
    simp [World.alloc, World.cell?, World.drew, -World.alloc_eq, -World.drew_eq]
  rw [Nat.zero_add, h, bytesRow_at s _ j hj']
  show some (Value.int .u8 _) = some (Value.int .u8 ((s.data[j]?.getD 0).toNat : Nat))
  rw [Array.getElem?_eq_getElem hj']; rfl
/-- A list of ints that the caller may keep: nil, or a new row. -/
def NewInts (c : Nat) (f : Nat → Int) (w : World) (e : Ending) (w' : World) : Prop :=
  ∃ rb cap v, e = .returned v ∧ (v = if c = 0 then .slice none 0 0 else .slice (some ⟨rb, 0, none⟩) c cap) ∧ c ≤ cap ∧ w.heap.size ≤ rb ∧ Hold .i64 w' rb 0 c f ∧ Grew w w'
theorem strV_text (w : World) (s : ByteArray) : TextV (chr s) s.size (strW w s) (strV w s) w.heap.size 0 (grownCap w s.size 0 5) := .inr ⟨rfl, grownCap_ge _ _ _ _, strW_rd w s⟩
theorem strV_bytes (w : World) (s : ByteArray) : ByteV (chr s) s.size (strW w s) (strV w s) := .inr ⟨_, _, _, rfl, grownCap_ge _ _ _ _, strW_rd w s⟩
/-- append([]int(nil), xs...), xs not empty. -/
theorem append_nil (u : World) (ty : TypeId) (b o c cap : Nat) (f : Nat → Int) (hc : 0 < c) (hc2 : c ≤ 1073741824) (h : Rd .i64 u b o c f) :
    ∃ cap' u', (Builtin.append_ #[26, 26] ty #[.slice none 0 0, .slice (some ⟨b, o, none⟩) c cap]).run Tryd.prog u = .ok (.slice (some ⟨u.heap.size, 0, none⟩) c cap') u' ∧ c ≤ cap' ∧ Hold .i64 u' u.heap.size 0 c f ∧ Grew u u' := by
  obtain ⟨i0, hi, hz0, hz1, hz2⟩ := info_parts Tryd.infoInt
  have h1 := run_append_nil (P := Tryd.prog) u 26 ty 3 i0 (.int .i64 0) Tryd.underlying26 hi hz0 ⟨b, o, none⟩ c cap ((List.range c).map fun j => .int .i64 (f j)) (by rw [hz1]; simp) (fun j v hv => by
    have hj : j < c := by
      have := List.getElem?_eq_some_iff.1 hv; simpa using this.1
    have : v = .int .i64 (f j) := by simpa [List.getElem?_range hj] using hv.symm
    rw [this]; have h2 := h j hj; by_cases e : j = 0
    · subst e; simpa [Addr.add] using h2
    · simpa [Addr.add, e] using h2) hc (by omega) (by rw [hz2]; omega)
  refine ⟨_, _, h1, grownCap_ge _ _ _ _, ?_, (Kept.refl _ u).drew.alloc _⟩
  intro j hj
  refine ⟨?_, ?_⟩
  · rw [Nat.zero_add]
    rw [show u.heap.size = u.drew.heap.size from rfl, World.cell?_alloc_new]
    rw [Array.getElem?_append_left (by simpa using hj)]
    simp [hj]
  · rw [Nat.zero_add]
    rw [show u.heap.size = u.drew.heap.size from rfl, World.frozen?_alloc_new]
def ImpPost (s t : ByteArray) (m : Int) (w : World) (e : Ending) (w' : World) : Prop := ∃ sa, IsSA (chr s) s.size sa ∧ NewInts (lim (many2 (chr s) s.size sa (chr t) t.size) t.size m) (fun j => sa (from1 (chr s) s.size sa (chr t) t.size + j)) w e w'
theorem ImpPost.mk {s t : ByteArray} {m : Int} {w : World} {e : Ending} {w' : World} {sa : Nat → Int} (h1 : IsSA (chr s) s.size sa) (h2 : NewInts (lim (many2 (chr s) s.size sa (chr t) t.size) t.size m) (fun j => sa (from1 (chr s) s.size sa (chr t) t.size + j)) w e w') : ImpPost s t m w e w' := ⟨sa, h1, h2⟩
end Go.Proofs.YtoebcbmkkhbldaaDoor

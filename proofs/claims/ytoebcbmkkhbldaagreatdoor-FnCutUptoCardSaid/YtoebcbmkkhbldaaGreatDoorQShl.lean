/- The contracts of the shelf at this program: the growing of a buffer, the varints. -/
import Derived.Shelf.LaysM
import Derived.Shelf.Bytes.Len
import Derived.Shelf.Bytes.TryGrow
import Derived.Shelf.Bytes.GrowSliceCatch
import Derived.Shelf.Bytes.GrowSlice
import Derived.Ground.MnProg
import Derived.Shelf.Bin.PutUvarint
import Derived.Shelf.Bin.PutVarint
import Derived.Shelf.Bin.Uvarint
import Derived.Shelf.Bin.Varint
import Derived.Test.YtoebcbmkkhbldaaGreatDoorProg
namespace Go.Proofs
open Go.Shelf
def Tryz.laysM181_ren : Go.Shelf.Ren := ⟨fun | 181 => 135 | n => n, fun | 130 => 56 | 3 => 3 | 0 => 0 | 93 => 50 | 37 => 46 | 91 => 48 | 5 => 5 | n => n, fun | n => n⟩
theorem Tryz.laysM181 : Go.Proofs.LaysM.n181 Tryz.prog Tryz.laysM181_ren := {
  mixed := by kernel_rfl
  f181 := Tryz.func135.trans (congrArg some (by kernel_rfl))
  t0 := Tryz.underlying0
  a0 := Tryz.isAgg0
  z0 := Tryz.sizeOf0
  v0 := Tryz.zeroValue0
  t3 := Tryz.underlying3
  a3 := Tryz.isAgg3
  z3 := Tryz.sizeOf3
  v3 := Tryz.zeroValue3
  t37 := Tryz.underlying46
  a37 := Tryz.isAgg46
  z37 := Tryz.sizeOf46
  v37 := Tryz.zeroValue46
  t93 := Tryz.underlying50
  a93 := Tryz.isAgg50
  z93 := Tryz.sizeOf50
  v93 := Tryz.zeroValue50
  t130 := Tryz.underlying56
  a130 := Tryz.isAgg56
  z130 := Tryz.sizeOf56
  v130 := Tryz.zeroValue56
  t5 := Tryz.underlying5
  a5 := Tryz.isAgg5
  z5 := Tryz.sizeOf5
  v5 := Tryz.zeroValue5
  t91 := Tryz.underlying48
  a91 := Tryz.isAgg48
  z91 := Tryz.sizeOf48
  v91 := Tryz.zeroValue48
  i0 := by kernel_rfl
  i3 := by kernel_rfl
  i5 := by kernel_rfl
  i37 := by kernel_rfl
  i91 := by kernel_rfl
  i93 := by kernel_rfl
  i130 := by kernel_rfl }
open Go.RowKit in
theorem Tryz.Buffer_Len (B b : Nat) (bs : List Value) (w : World) (h : Lib.IsBuffer 50 5 B b bs w) :
    Calls Tryz.prog 135 #[.pointer (some ⟨b, 0, none⟩)] w fun e w' => e = .returned (.int .i64 bs.length) ∧ ∃ n, w' = w.drewN n := Any.Buffer_Len Tryz.laysM181 B b bs w h
def Tryz.laysM251_ren : Go.Shelf.Ren := ⟨fun | 251 => 133 | n => n, fun | 130 => 56 | 3 => 3 | 4 => 4 | 0 => 0 | 93 => 50 | 37 => 46 | 91 => 48 | 5 => 5 | n => n, fun | n => n⟩
theorem Tryz.laysM251 : Go.Proofs.LaysM.n251 Tryz.prog Tryz.laysM251_ren := {
  mixed := by kernel_rfl
  f251 := Tryz.func133.trans (congrArg some (by kernel_rfl))
  t0 := Tryz.underlying0
  a0 := Tryz.isAgg0
  z0 := Tryz.sizeOf0
  v0 := Tryz.zeroValue0
  t3 := Tryz.underlying3
  a3 := Tryz.isAgg3
  z3 := Tryz.sizeOf3
  v3 := Tryz.zeroValue3
  t4 := Tryz.underlying4
  a4 := Tryz.isAgg4
  z4 := Tryz.sizeOf4
  v4 := Tryz.zeroValue4
  t37 := Tryz.underlying46
  a37 := Tryz.isAgg46
  z37 := Tryz.sizeOf46
  v37 := Tryz.zeroValue46
  t93 := Tryz.underlying50
  a93 := Tryz.isAgg50
  z93 := Tryz.sizeOf50
  v93 := Tryz.zeroValue50
  t130 := Tryz.underlying56
  a130 := Tryz.isAgg56
  z130 := Tryz.sizeOf56
  v130 := Tryz.zeroValue56
  t5 := Tryz.underlying5
  a5 := Tryz.isAgg5
  z5 := Tryz.sizeOf5
  v5 := Tryz.zeroValue5
  t91 := Tryz.underlying48
  a91 := Tryz.isAgg48
  z91 := Tryz.sizeOf48
  v91 := Tryz.zeroValue48
  i0 := by kernel_rfl
  i3 := by kernel_rfl
  i4 := by kernel_rfl
  i5 := by kernel_rfl
  i37 := by kernel_rfl
  i91 := by kernel_rfl
  i93 := by kernel_rfl
  i130 := by kernel_rfl }
open Go.RowKit in
theorem Tryz.Buffer_tryGrow_room (b : Nat) (ao : Option Addr) (l cap n : Nat) (w : World) (c0 : w.cell? ⟨b, 0, none⟩ = some (.slice ao l cap)) (f0 : w.frozen? ⟨b, 0, none⟩ = false) (hlc : l ≤ cap) (hcap : cap ≤ maxLen) (hn : n ≤ cap - l) :
    Calls Tryz.prog 133 #[.pointer (some ⟨b, 0, none⟩), .int .i64 n] w fun e w' => e = .returned (.tuple #[.int .i64 l, .bool true]) ∧ w' = w.setCell ⟨b, 0, none⟩ (.slice ao (l + n) cap) := Any.Buffer_tryGrow_room Tryz.laysM251 b ao l cap n w c0 f0 hlc hcap hn
open Go.RowKit in
theorem Tryz.Buffer_tryGrow_none (b : Nat) (ao : Option Addr) (l cap n : Nat) (w : World) (c0 : w.cell? ⟨b, 0, none⟩ = some (.slice ao l cap)) (hlc : l ≤ cap) (hcap : cap ≤ maxLen) (hn : cap - l < n) :
    Calls Tryz.prog 133 #[.pointer (some ⟨b, 0, none⟩), .int .i64 n] w fun e w' => e = .returned (.tuple #[.int .i64 0, .bool false]) ∧ w' = w := Any.Buffer_tryGrow_none Tryz.laysM251 b ao l cap n w c0 hlc hcap hn
def Tryz.laysM324_ren : Go.Shelf.Ren := ⟨fun | 324 => 137 | n => n, fun | 20 => 20 | 4 => 4 | 75 => 52 | 0 => 0 | 80 => 65 | 9 => 9 | n => n, fun | 14 => 6 | n => n⟩
theorem Tryz.laysM324 : Go.Proofs.LaysM.n324 Tryz.prog Tryz.laysM324_ren := {
  mixed := by kernel_rfl
  f324 := Tryz.func137.trans (congrArg some (by kernel_rfl))
  t0 := Tryz.underlying0
  a0 := Tryz.isAgg0
  z0 := Tryz.sizeOf0
  v0 := Tryz.zeroValue0
  t4 := Tryz.underlying4
  a4 := Tryz.isAgg4
  z4 := Tryz.sizeOf4
  v4 := Tryz.zeroValue4
  t20 := Tryz.underlying20
  a20 := Tryz.isAgg20
  z20 := Tryz.sizeOf20
  v20 := Tryz.zeroValue20
  t75 := Tryz.underlying52
  a75 := Tryz.isAgg52
  z75 := Tryz.sizeOf52
  v75 := Tryz.zeroValue52
  g14 := by kernel_rfl
  t9 := Tryz.underlying9
  a9 := Tryz.isAgg9
  z9 := Tryz.sizeOf9
  v9 := Tryz.zeroValue9
  t80 := Tryz.underlying65
  a80 := Tryz.isAgg65
  z80 := Tryz.sizeOf65
  v80 := Tryz.zeroValue65
  i0 := by kernel_rfl
  i4 := by kernel_rfl
  i9 := by kernel_rfl
  i20 := by kernel_rfl
  i75 := by kernel_rfl
  i80 := by kernel_rfl
  m14 := by kernel_rfl }
theorem Tryz.growSlice_catch_idle (w : World) :
    CallsD Tryz.prog 137 #[] .returning w fun e u' w' => e = .returned (.tuple #[]) ∧ u' = .returning ∧ w' = w := Any.growSlice_catch_idle Tryz.laysM324 w
def Tryz.laysM290_ren : Go.Shelf.Ren := ⟨fun | 290 => 136 | 324 => 137 | n => n, fun | 37 => 46 | 3 => 3 | 0 => 0 | 4 => 4 | 20 => 20 | 75 => 52 | 5 => 5 | 80 => 65 | 9 => 9 | n => n, fun | 14 => 6 | n => n⟩
theorem Tryz.laysM290 : Go.Proofs.LaysM.n290 Tryz.prog Tryz.laysM290_ren := {
  mixed := by kernel_rfl
  f290 := Tryz.func136.trans (congrArg some (by kernel_rfl))
  f324 := Tryz.func137.trans (congrArg some (by kernel_rfl))
  t0 := Tryz.underlying0
  a0 := Tryz.isAgg0
  z0 := Tryz.sizeOf0
  v0 := Tryz.zeroValue0
  t3 := Tryz.underlying3
  a3 := Tryz.isAgg3
  z3 := Tryz.sizeOf3
  v3 := Tryz.zeroValue3
  t4 := Tryz.underlying4
  a4 := Tryz.isAgg4
  z4 := Tryz.sizeOf4
  v4 := Tryz.zeroValue4
  t20 := Tryz.underlying20
  a20 := Tryz.isAgg20
  z20 := Tryz.sizeOf20
  v20 := Tryz.zeroValue20
  t37 := Tryz.underlying46
  a37 := Tryz.isAgg46
  z37 := Tryz.sizeOf46
  v37 := Tryz.zeroValue46
  t75 := Tryz.underlying52
  a75 := Tryz.isAgg52
  z75 := Tryz.sizeOf52
  v75 := Tryz.zeroValue52
  g14 := by kernel_rfl
  t5 := Tryz.underlying5
  a5 := Tryz.isAgg5
  z5 := Tryz.sizeOf5
  v5 := Tryz.zeroValue5
  t9 := Tryz.underlying9
  a9 := Tryz.isAgg9
  z9 := Tryz.sizeOf9
  v9 := Tryz.zeroValue9
  t80 := Tryz.underlying65
  a80 := Tryz.isAgg65
  z80 := Tryz.sizeOf65
  v80 := Tryz.zeroValue65
  i0 := by kernel_rfl
  i3 := by kernel_rfl
  i4 := by kernel_rfl
  i5 := by kernel_rfl
  i9 := by kernel_rfl
  i20 := by kernel_rfl
  i37 := by kernel_rfl
  i75 := by kernel_rfl
  i80 := by kernel_rfl
  m14 := by kernel_rfl }
open Go.RowKit in
theorem Tryz.bytes_growSlice_row (g l c n : Nat) (cur : Array Value) (w : World) (hg : w.heap[g]? = some (.cells cur 5 (0, 0))) (hcs : cur.size = c) (hlc : l ≤ c) (hn : 1 ≤ n) (hlim : l + n ≤ 140737488355328) (hc2 : c ≤ 140737488355328) (h1 : ∀ v ∈ cur.toList.take l, v.oneCell' = true) :
    Calls Tryz.prog 136 #[.slice (some ⟨g, 0, none⟩) l c, .int .i64 n] w fun e w' => ∃ cap2 cells, e = .returned (.slice (some ⟨w.heap.size, 0, none⟩) l cap2) ∧ w'.heap[w.heap.size]? = some (.cells cells 5 (0, 0)) ∧
      cells.size = cap2 ∧ cells.toList.take l = cur.toList.take l ∧ l + n ≤ cap2 ∧ cap2 ≤ maxLen ∧ Below w.heap.size w w' := Any.bytes_growSlice_row Tryz.laysM290 g l c n cur w hg hcs hlc hn hlim hc2 h1
open Go.RowKit in
theorem Tryz.bytes_growSlice_nil (n : Nat) (w : World) (hn : 1 ≤ n) (hlim : n ≤ 140737488355328) :
    Calls Tryz.prog 136 #[.slice none 0 0, .int .i64 n] w fun e w' => ∃ cap2 cells, e = .returned (.slice (some ⟨w.heap.size, 0, none⟩) 0 cap2) ∧ w'.heap[w.heap.size]? = some (.cells cells 5 (0, 0)) ∧
      cells.size = cap2 ∧ n ≤ cap2 ∧ cap2 ≤ maxLen ∧ Below w.heap.size w w' := Any.bytes_growSlice_nil Tryz.laysM290 n w hn hlim
def Tryz.laysBin46_ren : Go.Shelf.Ren := ⟨fun | 46 => 46 | n => n, fun | 22 => 46 | 33 => 89 | 3 => 3 | 4 => 4 | 5 => 5 | 0 => 0 | 45 => 122 | n => n, fun | n => n⟩
theorem Tryz.laysBin46 : Go.Proofs.LaysBin.n46 Tryz.prog Tryz.laysBin46_ren := {
  mixed := by kernel_rfl
  f46 := Tryz.func46.trans (congrArg some (by kernel_rfl))
  t0 := Tryz.underlying0
  a0 := Tryz.isAgg0
  z0 := Tryz.sizeOf0
  v0 := Tryz.zeroValue0
  i0 := by kernel_rfl
  t3 := Tryz.underlying3
  a3 := Tryz.isAgg3
  z3 := Tryz.sizeOf3
  v3 := Tryz.zeroValue3
  i3 := by kernel_rfl
  t4 := Tryz.underlying4
  a4 := Tryz.isAgg4
  z4 := Tryz.sizeOf4
  v4 := Tryz.zeroValue4
  i4 := by kernel_rfl
  t5 := Tryz.underlying5
  a5 := Tryz.isAgg5
  z5 := Tryz.sizeOf5
  v5 := Tryz.zeroValue5
  i5 := by kernel_rfl
  t22 := Tryz.underlying46
  a22 := Tryz.isAgg46
  z22 := Tryz.sizeOf46
  v22 := Tryz.zeroValue46
  i22 := by kernel_rfl
  t33 := Tryz.underlying89
  a33 := Tryz.isAgg89
  z33 := Tryz.sizeOf89
  v33 := Tryz.zeroValue89
  i33 := by kernel_rfl
  t45 := Tryz.underlying122
  a45 := Tryz.isAgg122
  z45 := Tryz.sizeOf122
  v45 := Tryz.zeroValue122
  i45 := by kernel_rfl }
open Go.RowKit in
theorem Tryz.binary_PutUvarint (g o n c x : Nat) (hx : x < 18446744073709551616) (w : World) (hn : (Lib.uvarint x).length ≤ n) (hcell : ∀ j, j < (Lib.uvarint x).length → (w.cell? ⟨g, o + j, none⟩).isSome = true ∧ w.frozen? ⟨g, o + j, none⟩ = false) :
    Calls Tryz.prog 46 #[.slice (some ⟨g, o, none⟩) n c, .int .u64 x] w fun e w' => e = .returned (.int .i64 (Lib.uvarint x).length) ∧ w' = w.setCells g o (Lib.byteCells (Lib.uvarint x)) := Any.binary_PutUvarint Tryz.laysBin46 g o n c x hx w hn hcell
def Tryz.laysBin49_ren : Go.Shelf.Ren := ⟨fun | 49 => 45 | 46 => 46 | n => n, fun | 22 => 46 | 2 => 2 | 3 => 3 | 33 => 89 | 45 => 122 | 4 => 4 | 5 => 5 | 0 => 0 | n => n, fun | n => n⟩
theorem Tryz.laysBin49 : Go.Proofs.LaysBin.n49 Tryz.prog Tryz.laysBin49_ren := {
  mixed := by kernel_rfl
  f46 := Tryz.func46.trans (congrArg some (by kernel_rfl))
  f49 := Tryz.func45.trans (congrArg some (by kernel_rfl))
  t0 := Tryz.underlying0
  a0 := Tryz.isAgg0
  z0 := Tryz.sizeOf0
  v0 := Tryz.zeroValue0
  i0 := by kernel_rfl
  t2 := Tryz.underlying2
  a2 := Tryz.isAgg2
  z2 := Tryz.sizeOf2
  v2 := Tryz.zeroValue2
  i2 := by kernel_rfl
  t3 := Tryz.underlying3
  a3 := Tryz.isAgg3
  z3 := Tryz.sizeOf3
  v3 := Tryz.zeroValue3
  i3 := by kernel_rfl
  t4 := Tryz.underlying4
  a4 := Tryz.isAgg4
  z4 := Tryz.sizeOf4
  v4 := Tryz.zeroValue4
  i4 := by kernel_rfl
  t5 := Tryz.underlying5
  a5 := Tryz.isAgg5
  z5 := Tryz.sizeOf5
  v5 := Tryz.zeroValue5
  i5 := by kernel_rfl
  t22 := Tryz.underlying46
  a22 := Tryz.isAgg46
  z22 := Tryz.sizeOf46
  v22 := Tryz.zeroValue46
  i22 := by kernel_rfl
  t33 := Tryz.underlying89
  a33 := Tryz.isAgg89
  z33 := Tryz.sizeOf89
  v33 := Tryz.zeroValue89
  i33 := by kernel_rfl
  t45 := Tryz.underlying122
  a45 := Tryz.isAgg122
  z45 := Tryz.sizeOf122
  v45 := Tryz.zeroValue122
  i45 := by kernel_rfl }
open Go.RowKit in
theorem Tryz.binary_PutVarint (g o n c : Nat) (x : Int) (h0 : -9223372036854775808 ≤ x) (h1 : x ≤ 9223372036854775807) (w : World) (hn : (Lib.uvarint (Lib.zigzag x)).length ≤ n) (hcell : ∀ j, j < (Lib.uvarint (Lib.zigzag x)).length → (w.cell? ⟨g, o + j, none⟩).isSome = true ∧ w.frozen? ⟨g, o + j, none⟩ = false) :
    Calls Tryz.prog 45 #[.slice (some ⟨g, o, none⟩) n c, .int .i64 x] w fun e w' => e = .returned (.int .i64 (Lib.uvarint (Lib.zigzag x)).length) ∧ w' = w.setCells g o (Lib.byteCells (Lib.uvarint (Lib.zigzag x))) := Any.binary_PutVarint Tryz.laysBin49 g o n c x h0 h1 w hn hcell
def Tryz.laysBin45_ren : Go.Shelf.Ren := ⟨fun | 45 => 50 | n => n, fun | 22 => 46 | 33 => 89 | 3 => 3 | 45 => 122 | 0 => 0 | 5 => 5 | 4 => 4 | n => n, fun | n => n⟩
theorem Tryz.laysBin45 : Go.Proofs.LaysBin.n45 Tryz.prog Tryz.laysBin45_ren := {
  mixed := by kernel_rfl
  f45 := Tryz.func50.trans (congrArg some (by kernel_rfl))
  t0 := Tryz.underlying0
  a0 := Tryz.isAgg0
  z0 := Tryz.sizeOf0
  v0 := Tryz.zeroValue0
  i0 := by kernel_rfl
  t3 := Tryz.underlying3
  a3 := Tryz.isAgg3
  z3 := Tryz.sizeOf3
  v3 := Tryz.zeroValue3
  i3 := by kernel_rfl
  t4 := Tryz.underlying4
  a4 := Tryz.isAgg4
  z4 := Tryz.sizeOf4
  v4 := Tryz.zeroValue4
  i4 := by kernel_rfl
  t5 := Tryz.underlying5
  a5 := Tryz.isAgg5
  z5 := Tryz.sizeOf5
  v5 := Tryz.zeroValue5
  i5 := by kernel_rfl
  t22 := Tryz.underlying46
  a22 := Tryz.isAgg46
  z22 := Tryz.sizeOf46
  v22 := Tryz.zeroValue46
  i22 := by kernel_rfl
  t33 := Tryz.underlying89
  a33 := Tryz.isAgg89
  z33 := Tryz.sizeOf89
  v33 := Tryz.zeroValue89
  i33 := by kernel_rfl
  t45 := Tryz.underlying122
  a45 := Tryz.isAgg122
  z45 := Tryz.sizeOf122
  v45 := Tryz.zeroValue122
  i45 := by kernel_rfl }
open Go.RowKit in
theorem Tryz.binary_Uvarint (g o n c : Nat) (l : List UInt8) (w : World) (hl : l.length = n) (hcell : ∀ j (hj : j < l.length), w.cell? ⟨g, o + j, none⟩ = some (.int .u8 (l[j]).toNat)) :
    Calls Tryz.prog 50 #[.slice (some ⟨g, o, none⟩) n c] w fun e w' => e = .returned (.tuple #[.int .u64 (Lib.uvarintDec l).1, .int .i64 (Lib.uvarintDec l).2]) ∧ w' = w := Any.binary_Uvarint Tryz.laysBin45 g o n c l w hl hcell
def Tryz.laysBin48_ren : Go.Shelf.Ren := ⟨fun | 48 => 48 | 45 => 50 | n => n, fun | 22 => 46 | 2 => 2 | 3 => 3 | 38 => 100 | 33 => 89 | 45 => 122 | 4 => 4 | 0 => 0 | 5 => 5 | n => n, fun | n => n⟩
theorem Tryz.laysBin48 : Go.Proofs.LaysBin.n48 Tryz.prog Tryz.laysBin48_ren := {
  mixed := by kernel_rfl
  f45 := Tryz.func50.trans (congrArg some (by kernel_rfl))
  f48 := Tryz.func48.trans (congrArg some (by kernel_rfl))
  t0 := Tryz.underlying0
  a0 := Tryz.isAgg0
  z0 := Tryz.sizeOf0
  v0 := Tryz.zeroValue0
  i0 := by kernel_rfl
  t2 := Tryz.underlying2
  a2 := Tryz.isAgg2
  z2 := Tryz.sizeOf2
  v2 := Tryz.zeroValue2
  i2 := by kernel_rfl
  t3 := Tryz.underlying3
  a3 := Tryz.isAgg3
  z3 := Tryz.sizeOf3
  v3 := Tryz.zeroValue3
  i3 := by kernel_rfl
  t4 := Tryz.underlying4
  a4 := Tryz.isAgg4
  z4 := Tryz.sizeOf4
  v4 := Tryz.zeroValue4
  i4 := by kernel_rfl
  t5 := Tryz.underlying5
  a5 := Tryz.isAgg5
  z5 := Tryz.sizeOf5
  v5 := Tryz.zeroValue5
  i5 := by kernel_rfl
  t22 := Tryz.underlying46
  a22 := Tryz.isAgg46
  z22 := Tryz.sizeOf46
  v22 := Tryz.zeroValue46
  i22 := by kernel_rfl
  t33 := Tryz.underlying89
  a33 := Tryz.isAgg89
  z33 := Tryz.sizeOf89
  v33 := Tryz.zeroValue89
  i33 := by kernel_rfl
  t38 := Tryz.underlying100
  a38 := Tryz.isAgg100
  z38 := Tryz.sizeOf100
  v38 := Tryz.zeroValue100
  i38 := by kernel_rfl
  t45 := Tryz.underlying122
  a45 := Tryz.isAgg122
  z45 := Tryz.sizeOf122
  v45 := Tryz.zeroValue122
  i45 := by kernel_rfl }
open Go.RowKit in
theorem Tryz.binary_Varint (g o n c : Nat) (l : List UInt8) (w : World) (hl : l.length = n) (hcell : ∀ j (hj : j < l.length), w.cell? ⟨g, o + j, none⟩ = some (.int .u8 (l[j]).toNat)) :
    Calls Tryz.prog 48 #[.slice (some ⟨g, o, none⟩) n c] w fun e w' => e = .returned (.tuple #[.int .i64 (Lib.varintDec l).1, .int .i64 (Lib.varintDec l).2]) ∧ w' = w := Any.binary_Varint Tryz.laysBin48 g o n c l w hl hcell
end Go.Proofs

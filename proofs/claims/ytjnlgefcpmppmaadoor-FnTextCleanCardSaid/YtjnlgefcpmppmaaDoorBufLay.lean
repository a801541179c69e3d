/- What the library's texts of bytes.Buffer's WriteString, WriteRune and String are in this program: laid by a tool of the kit, written out; their contracts. -/
import Derived.Test.YtjnlgefcpmppmaaDoorRows
import Derived.WalkKit
import Derived.Shelf.Bytes.BufferK
import Derived.Shelf.Bytes.String
import Derived.Shelf.Wr.WriteRune
import Derived.Lib.BufferKept
namespace Go.Proofs.YtjnlgefcpmppmaaDoor
open Go.Proofs Go.Shelf Go.RowKit

def Tryd.laysWs_ren : Go.Shelf.Ren := ⟨fun | 178 => 31 | 251 => 39 | 252 => 40 | 181 => 51 | 184 => 52 | 290 => 53 | 324 => 65 | n => n, fun | 130 => 128 | 9 => 9 | 3 => 3 | 75 => 36 | 0 => 0 | 93 => 105 | 91 => 103 | 131 => 129 | 4 => 4 | 37 => 101 | 20 => 20 | 80 => 110 | 5 => 5 | n => n, fun | 14 => 2 | n => n⟩
theorem Tryd.laysWs : Go.Proofs.LaysM.n178 Tryd.prog Tryd.laysWs_ren where
  mixed := by kernel_rfl
  f178 := Tryd.func31.trans (congrArg some (by kernel_rfl))
  f181 := Tryd.func51.trans (congrArg some (by kernel_rfl))
  f184 := Tryd.func52.trans (congrArg some (by kernel_rfl))
  f251 := Tryd.func39.trans (congrArg some (by kernel_rfl))
  f252 := Tryd.func40.trans (congrArg some (by kernel_rfl))
  f290 := Tryd.func53.trans (congrArg some (by kernel_rfl))
  f324 := Tryd.func65.trans (congrArg some (by kernel_rfl))
  t0 := Tryd.underlying0
  a0 := Tryd.isAgg0
  z0 := Tryd.sizeOf0
  v0 := Tryd.zeroValue0
  t3 := Tryd.underlying3
  a3 := Tryd.isAgg3
  z3 := Tryd.sizeOf3
  v3 := Tryd.zeroValue3
  t4 := Tryd.underlying4
  a4 := Tryd.isAgg4
  z4 := Tryd.sizeOf4
  v4 := Tryd.zeroValue4
  t9 := Tryd.underlying9
  a9 := Tryd.isAgg9
  z9 := Tryd.sizeOf9
  v9 := Tryd.zeroValue9
  t20 := Tryd.underlying20
  a20 := Tryd.isAgg20
  z20 := Tryd.sizeOf20
  v20 := Tryd.zeroValue20
  t37 := Tryd.underlying101
  a37 := Tryd.isAgg101
  z37 := Tryd.sizeOf101
  v37 := Tryd.zeroValue101
  t75 := Tryd.underlying36
  a75 := Tryd.isAgg36
  z75 := Tryd.sizeOf36
  v75 := Tryd.zeroValue36
  t91 := Tryd.underlying103
  a91 := Tryd.isAgg103
  z91 := Tryd.sizeOf103
  v91 := Tryd.zeroValue103
  t93 := Tryd.underlying105
  a93 := Tryd.isAgg105
  z93 := Tryd.sizeOf105
  v93 := Tryd.zeroValue105
  t130 := Tryd.underlying128
  a130 := Tryd.isAgg128
  z130 := Tryd.sizeOf128
  v130 := Tryd.zeroValue128
  t131 := Tryd.underlying129
  a131 := Tryd.isAgg129
  z131 := Tryd.sizeOf129
  v131 := Tryd.zeroValue129
  g14 := by kernel_rfl
  t5 := Tryd.underlying5
  a5 := Tryd.isAgg5
  z5 := Tryd.sizeOf5
  v5 := Tryd.zeroValue5
  t80 := Tryd.underlying110
  a80 := Tryd.isAgg110
  z80 := Tryd.sizeOf110
  v80 := Tryd.zeroValue110
  i0 := by kernel_rfl
  i3 := by kernel_rfl
  i4 := by kernel_rfl
  i5 := by kernel_rfl
  i9 := by kernel_rfl
  i20 := by kernel_rfl
  i37 := by kernel_rfl
  i75 := by kernel_rfl
  i80 := by kernel_rfl
  i91 := by kernel_rfl
  i93 := by kernel_rfl
  i130 := by kernel_rfl
  i131 := by kernel_rfl
  m14 := by kernel_rfl

def Tryd.laysBs_ren : Go.Shelf.Ren := ⟨fun | 182 => 34 | n => n, fun | 130 => 128 | 9 => 9 | 4 => 4 | 0 => 0 | 93 => 105 | 37 => 101 | 3 => 3 | 91 => 103 | 5 => 5 | n => n, fun | n => n⟩
theorem Tryd.laysBs : Go.Proofs.LaysM.n182 Tryd.prog Tryd.laysBs_ren where
  mixed := by kernel_rfl
  f182 := Tryd.func34.trans (congrArg some (by kernel_rfl))
  t0 := Tryd.underlying0
  a0 := Tryd.isAgg0
  z0 := Tryd.sizeOf0
  v0 := Tryd.zeroValue0
  t3 := Tryd.underlying3
  a3 := Tryd.isAgg3
  z3 := Tryd.sizeOf3
  v3 := Tryd.zeroValue3
  t4 := Tryd.underlying4
  a4 := Tryd.isAgg4
  z4 := Tryd.sizeOf4
  v4 := Tryd.zeroValue4
  t9 := Tryd.underlying9
  a9 := Tryd.isAgg9
  z9 := Tryd.sizeOf9
  v9 := Tryd.zeroValue9
  t37 := Tryd.underlying101
  a37 := Tryd.isAgg101
  z37 := Tryd.sizeOf101
  v37 := Tryd.zeroValue101
  t93 := Tryd.underlying105
  a93 := Tryd.isAgg105
  z93 := Tryd.sizeOf105
  v93 := Tryd.zeroValue105
  t130 := Tryd.underlying128
  a130 := Tryd.isAgg128
  z130 := Tryd.sizeOf128
  v130 := Tryd.zeroValue128
  t5 := Tryd.underlying5
  a5 := Tryd.isAgg5
  z5 := Tryd.sizeOf5
  v5 := Tryd.zeroValue5
  t91 := Tryd.underlying103
  a91 := Tryd.isAgg103
  z91 := Tryd.sizeOf103
  v91 := Tryd.zeroValue103
  i0 := by kernel_rfl
  i3 := by kernel_rfl
  i4 := by kernel_rfl
  i5 := by kernel_rfl
  i9 := by kernel_rfl
  i37 := by kernel_rfl
  i91 := by kernel_rfl
  i93 := by kernel_rfl
  i130 := by kernel_rfl

def Tryd.laysWr_ren : Go.Shelf.Ren := ⟨fun | 5 => 33 | 7 => 42 | 8 => 39 | 9 => 40 | 10 => 43 | 11 => 51 | 12 => 52 | 13 => 53 | 14 => 58 | 15 => 65 | n => n, fun | 34 => 128 | 21 => 21 | 3 => 3 | 28 => 36 | 35 => 132 | 4 => 4 | 5 => 5 | 0 => 0 | 26 => 105 | 24 => 103 | 37 => 129 | 22 => 101 | 43 => 44 | 20 => 20 | 31 => 110 | 9 => 9 | n => n, fun | 0 => 2 | n => n⟩
theorem Tryd.laysWr : Go.Proofs.LaysWr.n5 Tryd.prog Tryd.laysWr_ren where
  mixed := by kernel_rfl
  f5 := Tryd.func33.trans (congrArg some (by kernel_rfl))
  f7 := Tryd.func42.trans (congrArg some (by kernel_rfl))
  f8 := Tryd.func39.trans (congrArg some (by kernel_rfl))
  f9 := Tryd.func40.trans (congrArg some (by kernel_rfl))
  f10 := Tryd.func43.trans (congrArg some (by kernel_rfl))
  f11 := Tryd.func51.trans (congrArg some (by kernel_rfl))
  f12 := Tryd.func52.trans (congrArg some (by kernel_rfl))
  f13 := Tryd.func53.trans (congrArg some (by kernel_rfl))
  f14 := Tryd.func58.trans (congrArg some (by kernel_rfl))
  f15 := Tryd.func65.trans (congrArg some (by kernel_rfl))
  t0 := Tryd.underlying0
  a0 := Tryd.isAgg0
  z0 := Tryd.sizeOf0
  v0 := Tryd.zeroValue0
  i0 := by kernel_rfl
  t3 := Tryd.underlying3
  a3 := Tryd.isAgg3
  z3 := Tryd.sizeOf3
  v3 := Tryd.zeroValue3
  i3 := by kernel_rfl
  t4 := Tryd.underlying4
  a4 := Tryd.isAgg4
  z4 := Tryd.sizeOf4
  v4 := Tryd.zeroValue4
  i4 := by kernel_rfl
  t5 := Tryd.underlying5
  a5 := Tryd.isAgg5
  z5 := Tryd.sizeOf5
  v5 := Tryd.zeroValue5
  i5 := by kernel_rfl
  t9 := Tryd.underlying9
  a9 := Tryd.isAgg9
  z9 := Tryd.sizeOf9
  v9 := Tryd.zeroValue9
  i9 := by kernel_rfl
  t20 := Tryd.underlying20
  a20 := Tryd.isAgg20
  z20 := Tryd.sizeOf20
  v20 := Tryd.zeroValue20
  i20 := by kernel_rfl
  t21 := Tryd.underlying21
  a21 := Tryd.isAgg21
  z21 := Tryd.sizeOf21
  v21 := Tryd.zeroValue21
  i21 := by kernel_rfl
  t22 := Tryd.underlying101
  a22 := Tryd.isAgg101
  z22 := Tryd.sizeOf101
  v22 := Tryd.zeroValue101
  i22 := by kernel_rfl
  t24 := Tryd.underlying103
  a24 := Tryd.isAgg103
  z24 := Tryd.sizeOf103
  v24 := Tryd.zeroValue103
  i24 := by kernel_rfl
  t26 := Tryd.underlying105
  a26 := Tryd.isAgg105
  z26 := Tryd.sizeOf105
  v26 := Tryd.zeroValue105
  i26 := by kernel_rfl
  t28 := Tryd.underlying36
  a28 := Tryd.isAgg36
  z28 := Tryd.sizeOf36
  v28 := Tryd.zeroValue36
  i28 := by kernel_rfl
  t31 := Tryd.underlying110
  a31 := Tryd.isAgg110
  z31 := Tryd.sizeOf110
  v31 := Tryd.zeroValue110
  i31 := by kernel_rfl
  t34 := Tryd.underlying128
  a34 := Tryd.isAgg128
  z34 := Tryd.sizeOf128
  v34 := Tryd.zeroValue128
  i34 := by kernel_rfl
  t35 := Tryd.underlying132
  a35 := Tryd.isAgg132
  z35 := Tryd.sizeOf132
  v35 := Tryd.zeroValue132
  i35 := by kernel_rfl
  t37 := Tryd.underlying129
  a37 := Tryd.isAgg129
  z37 := Tryd.sizeOf129
  v37 := Tryd.zeroValue129
  i37 := by kernel_rfl
  t43 := Tryd.underlying44
  a43 := Tryd.isAgg44
  z43 := Tryd.sizeOf44
  v43 := Tryd.zeroValue44
  i43 := by kernel_rfl
  g0 := by kernel_rfl
  m0 := by kernel_rfl

theorem writeString_any (B b : Nat) (bs : List Value) (s : ByteArray) (w : World) (h : Lib.IsBuffer 105 5 B b bs w) (hBw : B ≤ w.heap.size) (h1 : ∀ v ∈ bs, v.oneCell' = true) (hlim : bs.length + s.size ≤ 140737488355328) :
    Calls Tryd.prog 31 #[.pointer (some ⟨b, 0, none⟩), .string s] w fun e w' => e = .returned (.tuple #[.int .i64 s.size, .nilIface]) ∧ Lib.IsBuffer 105 5 B b (bs ++ Lib.byteCells s.data.toList) w' ∧ RowKit.Below B w w' ∧ Lib.OthersKept 5 (some b) w w' := Any.Buffer_WriteString_k Tryd.laysWs B b bs s w h hBw h1 hlim
theorem writeRune_any (B b : Nat) (bs : List Value) (r : Int) (hr0 : -2147483648 ≤ r) (hr1 : r ≤ 2147483647) (w : World) (h : Lib.IsBuffer 105 5 B b bs w) (hBw : B ≤ w.heap.size) (h1 : ∀ v ∈ bs, v.oneCell' = true) (hlim : bs.length + 4 ≤ 140737488355328) :
    Calls Tryd.prog 33 #[.pointer (some ⟨b, 0, none⟩), .int .i32 r] w fun e w' => e = .returned (.tuple #[.int .i64 (Lib.runeCells r).length, .nilIface]) ∧ Lib.IsBuffer 105 5 B b (bs ++ Lib.runeCells r) w' ∧ RowKit.Below B w w' ∧ Lib.OthersKept 5 (some b) w w' := Any.Buffer_WriteRune_k Tryd.laysWr B b bs r hr0 hr1 w h hBw h1 hlim
theorem bufString_any (B b : Nat) (l : List UInt8) (w : World) (h : Lib.IsBuffer 105 5 B b (Lib.byteCells l) w) :
    Calls Tryd.prog 34 #[.pointer (some ⟨b, 0, none⟩)] w fun e w' => e = .returned (.string ⟨l.toArray⟩) ∧ ∃ n, w' = w.drewN n := Any.Buffer_String Tryd.laysBs B b l w h
end Go.Proofs.YtjnlgefcpmppmaaDoor

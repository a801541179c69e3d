/- What the library's text of utf8.ValidString is in this program: laid by a tool of the kit, written out; its contract; the two tables. -/
import Derived.Test.YtjnlgefcpmppmaaDoorRows
import Derived.WalkKit
import Derived.Shelf.Unicode.ValidAny
import Derived.Lib.LaidIn
import Derived.Lib.LaidU8T
namespace Go.Proofs.YtjnlgefcpmppmaaDoor
open Go.Proofs Go.Shelf Go.RowKit

def Tryd.laysValid_ren : Go.Shelf.Ren := ⟨fun | 196 => 8 | 259 => 15 | n => n, fun | 9 => 9 | 4 => 4 | 3 => 3 | 5 => 5 | 12 => 12 | 119 => 40 | 0 => 0 | 46 => 44 | 139 => 43 | 138 => 42 | 53 => 73 | n => n, fun | 3 => 0 | 4 => 1 | n => n⟩
theorem Tryd.laysValid : Go.Proofs.Lays.n196 Tryd.prog Tryd.laysValid_ren where
  mixed := by kernel_rfl
  f196 := Tryd.func8.trans (congrArg some (by kernel_rfl))
  f259 := Tryd.func15.trans (congrArg some (by kernel_rfl))
  t0 := Tryd.underlying0
  a0 := Tryd.isAgg0
  z0 := Tryd.sizeOf0
  v0 := Tryd.zeroValue0
  t3 := Tryd.underlying3
  a3 := Tryd.isAgg3
  z3 := Tryd.sizeOf3
  v3 := Tryd.zeroValue3
  t4 := Tryd.underlying4
  a4 := Tryd.isAgg4
  z4 := Tryd.sizeOf4
  v4 := Tryd.zeroValue4
  t5 := Tryd.underlying5
  a5 := Tryd.isAgg5
  z5 := Tryd.sizeOf5
  v5 := Tryd.zeroValue5
  t9 := Tryd.underlying9
  a9 := Tryd.isAgg9
  z9 := Tryd.sizeOf9
  v9 := Tryd.zeroValue9
  t12 := Tryd.underlying12
  a12 := Tryd.isAgg12
  z12 := Tryd.sizeOf12
  v12 := Tryd.zeroValue12
  t46 := Tryd.underlying44
  a46 := Tryd.isAgg44
  z46 := Tryd.sizeOf44
  v46 := Tryd.zeroValue44
  t53 := Tryd.underlying73
  a53 := Tryd.isAgg73
  z53 := Tryd.sizeOf73
  v53 := Tryd.zeroValue73
  t119 := Tryd.underlying40
  a119 := Tryd.isAgg40
  z119 := Tryd.sizeOf40
  t138 := Tryd.underlying42
  a138 := Tryd.isAgg42
  z138 := Tryd.sizeOf42
  v138 := Tryd.zeroValue42
  t139 := Tryd.underlying43
  a139 := Tryd.isAgg43
  z139 := Tryd.sizeOf43
  v139 := Tryd.zeroValue43
  g3 := by kernel_rfl
  g4 := by kernel_rfl

def Tabs (w : World) : Prop := Lib.Utf8Tabs (Tryd.laysValid_ren.g 3) (Tryd.laysValid_ren.g 4) w
theorem valid_any (s : ByteArray) (w : World) (hs : s.size ≤ 9223372036854775807) (hT : Tabs w) :
    Calls Tryd.prog 8 #[.string s] w fun e w' => e = .returned (.bool (Lib.validD s.data.toList)) ∧ Below w.heap.size w w' :=
  Any.utf8_ValidString Tryd.laysValid s w hs hT
theorem tabs_below {w w' : World} (h : Tabs w) (hb : Below w.heap.size w w') : Tabs w' := Utf8Tabs_below h hb
theorem tabs_of {w : World} (h3 : Lib.VarReads Tryd.prog w "unicode/utf8.first" Lib.firstData) (h4 : Lib.VarReads Tryd.prog w "unicode/utf8.acceptRanges" Lib.acceptData) : Tabs w :=
  utf8Tabs_of_readsT (U8Types.of196 Tryd.laysValid) ⟨by kernel_rfl, by kernel_rfl, by kernel_rfl, by kernel_rfl, by kernel_rfl, by kernel_rfl, by kernel_rfl⟩ h3 h4
theorem first_is : Rows.laid_unicode_utf8_first = Lib.firstData := by kernel_rfl
theorem accept_is : (Rows.laid_unicode_utf8_acceptRanges : DataW Unit) = Lib.acceptData := by kernel_rfl
end Go.Proofs.YtjnlgefcpmppmaaDoor

/- FnStepsTwice: what the library's texts of utf8.ValidString and sort.Strings are in this program: laid by a tool of the kit, written out; their contracts; the two tables. -/
import Derived.Test.YtincgkolpicipaaDoorSt15
import Derived.Shelf.Unicode.ValidAny
import Derived.Shelf.Sort.Plain
import Derived.Sort.OwnSorted
import Derived.Lib.LaidIn
import Derived.Lib.LaidU8T
namespace Go.Proofs.YtincgkolpicipaaDoor
open Go.Proofs Go.Shelf Go.RowKit

def Tryd.laysValid_ren : Go.Shelf.Ren := ⟨fun | 196 => 13 | 259 => 18 | n => n, fun | 9 => 9 | 4 => 4 | 3 => 3 | 5 => 5 | 12 => 12 | 119 => 46 | 0 => 0 | 46 => 50 | 139 => 49 | 138 => 48 | 53 => 60 | n => n, fun | 3 => 0 | 4 => 1 | n => n⟩
theorem Tryd.laysValid : Go.Proofs.Lays.n196 Tryd.prog Tryd.laysValid_ren where
  mixed := by kernel_rfl
  f196 := Tryd.func13.trans (congrArg some (by kernel_rfl))
  f259 := Tryd.func18.trans (congrArg some (by kernel_rfl))
  t0 := Tryd.underlying0
  a0 := Tryd.isAgg0
  z0 := Tryd.sizeOf0
  v0 := Tryd.zeroValue0
  t3 := Tryd.underlying3
  a3 := Tryd.isAgg3
  z3 := Tryd.sizeOf3
  v3 := Tryd.zeroValue3
  t4 := Tryd.underlying4
  a4 := Tryd.isAgg4
  z4 := Tryd.sizeOf4
  v4 := Tryd.zeroValue4
  t5 := Tryd.underlying5
  a5 := Tryd.isAgg5
  z5 := Tryd.sizeOf5
  v5 := Tryd.zeroValue5
  t9 := Tryd.underlying9
  a9 := Tryd.isAgg9
  z9 := Tryd.sizeOf9
  v9 := Tryd.zeroValue9
  t12 := Tryd.underlying12
  a12 := Tryd.isAgg12
  z12 := Tryd.sizeOf12
  v12 := Tryd.zeroValue12
  t46 := Tryd.underlying50
  a46 := Tryd.isAgg50
  z46 := Tryd.sizeOf50
  v46 := Tryd.zeroValue50
  t53 := Tryd.underlying60
  a53 := Tryd.isAgg60
  z53 := Tryd.sizeOf60
  v53 := Tryd.zeroValue60
  t119 := Tryd.underlying46
  a119 := Tryd.isAgg46
  z119 := Tryd.sizeOf46
  t138 := Tryd.underlying48
  a138 := Tryd.isAgg48
  z138 := Tryd.sizeOf48
  v138 := Tryd.zeroValue48
  t139 := Tryd.underlying49
  a139 := Tryd.isAgg49
  z139 := Tryd.sizeOf49
  v139 := Tryd.zeroValue49
  g3 := by kernel_rfl
  g4 := by kernel_rfl
def Tryd.laysSort_ren : Go.Shelf.Ren := ⟨fun | 192 => 16 | 190 => 22 | 125 => 28 | 258 => 27 | 128 => 39 | 129 => 40 | 302 => 30 | 303 => 31 | 304 => 32 | 305 => 33 | 306 => 34 | 307 => 35 | 308 => 36 | 309 => 37 | 310 => 38 | 333 => 41 | 329 => 42 | 330 => 43 | 334 => 44 | 335 => 45 | 336 => 46 | 344 => 47 | n => n, fun | 31 => 26 | 0 => 0 | 9 => 9 | 3 => 3 | 46 => 50 | 51 => 107 | 53 => 60 | 4 => 4 | 183 => 99 | 182 => 98 | 131 => 104 | 5 => 5 | 218 => 109 | 222 => 113 | 228 => 115 | 229 => 116 | n => n, fun | n => n⟩
theorem Tryd.laysSort : Go.Proofs.Lays.n192 Tryd.prog Tryd.laysSort_ren where
  mixed := by kernel_rfl
  f125 := Tryd.func28.trans (congrArg some (by kernel_rfl))
  f128 := Tryd.func39.trans (congrArg some (by kernel_rfl))
  f129 := Tryd.func40.trans (congrArg some (by kernel_rfl))
  f190 := Tryd.func22.trans (congrArg some (by kernel_rfl))
  f192 := Tryd.func16.trans (congrArg some (by kernel_rfl))
  f258 := Tryd.func27.trans (congrArg some (by kernel_rfl))
  f302 := Tryd.func30.trans (congrArg some (by kernel_rfl))
  f303 := Tryd.func31.trans (congrArg some (by kernel_rfl))
  f304 := Tryd.func32.trans (congrArg some (by kernel_rfl))
  f305 := Tryd.func33.trans (congrArg some (by kernel_rfl))
  f306 := Tryd.func34.trans (congrArg some (by kernel_rfl))
  f307 := Tryd.func35.trans (congrArg some (by kernel_rfl))
  f308 := Tryd.func36.trans (congrArg some (by kernel_rfl))
  f309 := Tryd.func37.trans (congrArg some (by kernel_rfl))
  f310 := Tryd.func38.trans (congrArg some (by kernel_rfl))
  f329 := Tryd.func42.trans (congrArg some (by kernel_rfl))
  f330 := Tryd.func43.trans (congrArg some (by kernel_rfl))
  f333 := Tryd.func41.trans (congrArg some (by kernel_rfl))
  f334 := Tryd.func44.trans (congrArg some (by kernel_rfl))
  f335 := Tryd.func45.trans (congrArg some (by kernel_rfl))
  f336 := Tryd.func46.trans (congrArg some (by kernel_rfl))
  f344 := Tryd.func47.trans (congrArg some (by kernel_rfl))
  t0 := Tryd.underlying0
  a0 := Tryd.isAgg0
  z0 := Tryd.sizeOf0
  v0 := Tryd.zeroValue0
  t3 := Tryd.underlying3
  a3 := Tryd.isAgg3
  z3 := Tryd.sizeOf3
  v3 := Tryd.zeroValue3
  t4 := Tryd.underlying4
  a4 := Tryd.isAgg4
  z4 := Tryd.sizeOf4
  v4 := Tryd.zeroValue4
  t5 := Tryd.underlying5
  a5 := Tryd.isAgg5
  z5 := Tryd.sizeOf5
  v5 := Tryd.zeroValue5
  t9 := Tryd.underlying9
  a9 := Tryd.isAgg9
  z9 := Tryd.sizeOf9
  v9 := Tryd.zeroValue9
  t31 := Tryd.underlying26
  a31 := Tryd.isAgg26
  z31 := Tryd.sizeOf26
  v31 := Tryd.zeroValue26
  t46 := Tryd.underlying50
  a46 := Tryd.isAgg50
  z46 := Tryd.sizeOf50
  v46 := Tryd.zeroValue50
  t51 := Tryd.underlying107
  a51 := Tryd.isAgg107
  z51 := Tryd.sizeOf107
  v51 := Tryd.zeroValue107
  t53 := Tryd.underlying60
  a53 := Tryd.isAgg60
  z53 := Tryd.sizeOf60
  v53 := Tryd.zeroValue60
  t131 := Tryd.underlying104
  a131 := Tryd.isAgg104
  z131 := Tryd.sizeOf104
  v131 := Tryd.zeroValue104
  t182 := Tryd.underlying98
  a182 := Tryd.isAgg98
  z182 := Tryd.sizeOf98
  v182 := Tryd.zeroValue98
  t183 := Tryd.underlying99
  a183 := Tryd.isAgg99
  z183 := Tryd.sizeOf99
  v183 := Tryd.zeroValue99
  t218 := Tryd.underlying109
  a218 := Tryd.isAgg109
  z218 := Tryd.sizeOf109
  v218 := Tryd.zeroValue109
  t222 := Tryd.underlying113
  a222 := Tryd.isAgg113
  z222 := Tryd.sizeOf113
  v222 := Tryd.zeroValue113
  t228 := Tryd.underlying115
  a228 := Tryd.isAgg115
  z228 := Tryd.sizeOf115
  v228 := Tryd.zeroValue115
  t229 := Tryd.underlying116
  a229 := Tryd.isAgg116
  z229 := Tryd.sizeOf116
  v229 := Tryd.zeroValue116

def Tabs (w : World) : Prop := Lib.Utf8Tabs (Tryd.laysValid_ren.g 3) (Tryd.laysValid_ren.g 4) w
theorem valid_any (s : ByteArray) (w : World) (hs : s.size ≤ 9223372036854775807) (hT : Tabs w) :
    Calls Tryd.prog 13 #[.string s] w fun e w' => e = .returned (.bool (Lib.validD s.data.toList)) ∧ Below w.heap.size w w' :=
  Any.utf8_ValidString Tryd.laysValid s w hs hT
theorem tabs_below {w w' : World} (h : Tabs w) (hb : Below w.heap.size w w') : Tabs w' := Utf8Tabs_below h hb
theorem tabs_of {w : World} (h3 : Lib.VarReads Tryd.prog w "unicode/utf8.first" Lib.firstData) (h4 : Lib.VarReads Tryd.prog w "unicode/utf8.acceptRanges" Lib.acceptData) : Tabs w :=
  utf8Tabs_of_readsT (U8Types.of196 Tryd.laysValid) ⟨by kernel_rfl, by kernel_rfl, by kernel_rfl, by kernel_rfl, by kernel_rfl, by kernel_rfl, by kernel_rfl⟩ h3 h4
theorem first_is : Rows.laid_unicode_utf8_first = Lib.firstData := by kernel_rfl
theorem accept_is : (Rows.laid_unicode_utf8_acceptRanges : DataW Unit) = Lib.acceptData := by kernel_rfl
namespace twice
/-- A row of strings that the call owns. -/
def StrsO (W : World) (B : Nat) (v : Value) (ss : List (List UInt8)) : Prop := W.ownsRow B 9 1 v ss.length (ss.map encStr)
theorem StrsO.reads {W : World} {B : Nat} {v : Value} {ss : List (List UInt8)} (h : StrsO W B v ss) (hl : ∀ s ∈ ss, s.length ≤ 9223372036854775807) : Strs W v ss := by
  obtain ⟨A, cap, rfl, _, hm, hg⟩ := owns_form h
  refine ⟨A, cap, rfl, by rw [← maxLen_eq]; exact hm, fun i s hs => ?_⟩
  have hi : i < ss.length := (List.getElem?_eq_some_iff.1 hs).1
  obtain ⟨g, rfl⟩ := hg (by omega)
  refine ⟨hl s (List.mem_of_getElem? hs), g, 0, rfl, ?_⟩
  rw [Nat.zero_add, World.ownsRow.cellAt h i (by omega), List.getElem?_map, hs]; rfl
theorem sort_any (B : Nat) (v : Value) (ss : List (List UInt8)) (w : World) (h : StrsO w B v ss) (hne : ss ≠ []) (hl : ss.length ≤ 1000000) : Calls Tryd.prog 16 #[v] w fun e w' => e = .returned (.tuple #[]) ∧ StrsO w' B v (ss.mergeSort leB) ∧ w.grownBy w' v.ownBlock := by
  rcases h.2 with ⟨rfl, hn⟩ | ⟨g, cap, cur, rfl, hbase, hb, h1, h2, h3, h4⟩
  · exact absurd (List.eq_nil_of_length_eq_zero hn) hne
  · refine (Any.sort_Strings Tryd.laysSort g 0 cap ss w (holds_of_block hb (by simpa using h4)) (Array.getElem?_eq_some_iff.1 hb).1 (by omega)).mono ?_
    rintro e w' ⟨rfl, n, os, rfl⟩
    refine ⟨rfl, ?_, grownBy_sorted _⟩
    have := ownsRow_sorted (n := n) (os := os) (ts := ss.mergeSort leB) (by simp) hbase hb h1 h2 h3
    unfold StrsO
    rw [List.length_mergeSort]
    exact this
end twice
end Go.Proofs.YtincgkolpicipaaDoor

/- What the library's text of strconv.ParseInt is in this program: laid by a tool of the kit, written out; its contract. -/
import Derived.Test.YtjnlgefcpmppmaaDoorRows
import Derived.WalkKit
import Derived.WalkSpells
import Derived.Shelf.Strconv.ErrVarParseInt
import Derived.Stop.LaidErr
namespace Go.Proofs.YtjnlgefcpmppmaaDoor
open Go.Proofs Go.Shelf Go.RowKit

def Tryd.laysPInt_ren : Go.Shelf.Ren := ⟨fun | 174 => 36 | 247 => 46 | 245 => 47 | 287 => 59 | 279 => 60 | 280 => 61 | 281 => 62 | 282 => 63 | 321 => 71 | 322 => 72 | 316 => 73 | 171 => 75 | 205 => 74 | 243 => 78 | 246 => 41 | 283 => 54 | 284 => 55 | 285 => 56 | 286 => 57 | 129 => 67 | 317 => 66 | 318 => 68 | 319 => 69 | 320 => 70 | 337 => 76 | 338 => 77 | n => n, fun | 9 => 9 | 3 => 3 | 2 => 2 | 75 => 36 | 85 => 113 | 4 => 4 | 167 => 156 | 5 => 5 | 53 => 73 | 175 => 157 | 46 => 44 | 168 => 159 | 37 => 101 | 0 => 0 | 210 => 204 | 21 => 21 | 127 => 206 | 145 => 209 | 143 => 207 | 171 => 151 | 173 => 154 | 212 => 198 | 51 => 132 | 20 => 20 | 213 => 199 | 232 => 210 | 233 => 211 | 80 => 110 | n => n, fun | 15 => 4 | 16 => 5 | 17 => 3 | 18 => 6 | 19 => 7 | n => n⟩
theorem Tryd.laysPInt : Go.Proofs.LaysC.n174 Tryd.prog Tryd.laysPInt_ren where
  mixed := by kernel_rfl
  f129 := Tryd.func67.trans (congrArg some (by kernel_rfl))
  f171 := Tryd.func75.trans (congrArg some (by kernel_rfl))
  f174 := Tryd.func36.trans (congrArg some (by kernel_rfl))
  f205 := Tryd.func74.trans (congrArg some (by kernel_rfl))
  f243 := Tryd.func78.trans (congrArg some (by kernel_rfl))
  f245 := Tryd.func47.trans (congrArg some (by kernel_rfl))
  f246 := Tryd.func41.trans (congrArg some (by kernel_rfl))
  f247 := Tryd.func46.trans (congrArg some (by kernel_rfl))
  f279 := Tryd.func60.trans (congrArg some (by kernel_rfl))
  f280 := Tryd.func61.trans (congrArg some (by kernel_rfl))
  f281 := Tryd.func62.trans (congrArg some (by kernel_rfl))
  f282 := Tryd.func63.trans (congrArg some (by kernel_rfl))
  f283 := Tryd.func54.trans (congrArg some (by kernel_rfl))
  f284 := Tryd.func55.trans (congrArg some (by kernel_rfl))
  f285 := Tryd.func56.trans (congrArg some (by kernel_rfl))
  f286 := Tryd.func57.trans (congrArg some (by kernel_rfl))
  f287 := Tryd.func59.trans (congrArg some (by kernel_rfl))
  f316 := Tryd.func73.trans (congrArg some (by kernel_rfl))
  f317 := Tryd.func66.trans (congrArg some (by kernel_rfl))
  f318 := Tryd.func68.trans (congrArg some (by kernel_rfl))
  f319 := Tryd.func69.trans (congrArg some (by kernel_rfl))
  f320 := Tryd.func70.trans (congrArg some (by kernel_rfl))
  f321 := Tryd.func71.trans (congrArg some (by kernel_rfl))
  f322 := Tryd.func72.trans (congrArg some (by kernel_rfl))
  f337 := Tryd.func76.trans (congrArg some (by kernel_rfl))
  f338 := Tryd.func77.trans (congrArg some (by kernel_rfl))
  t0 := Tryd.underlying0
  a0 := Tryd.isAgg0
  z0 := Tryd.sizeOf0
  v0 := Tryd.zeroValue0
  t2 := Tryd.underlying2
  a2 := Tryd.isAgg2
  z2 := Tryd.sizeOf2
  v2 := Tryd.zeroValue2
  t3 := Tryd.underlying3
  a3 := Tryd.isAgg3
  z3 := Tryd.sizeOf3
  v3 := Tryd.zeroValue3
  t4 := Tryd.underlying4
  a4 := Tryd.isAgg4
  z4 := Tryd.sizeOf4
  v4 := Tryd.zeroValue4
  t5 := Tryd.underlying5
  a5 := Tryd.isAgg5
  z5 := Tryd.sizeOf5
  v5 := Tryd.zeroValue5
  t9 := Tryd.underlying9
  a9 := Tryd.isAgg9
  z9 := Tryd.sizeOf9
  v9 := Tryd.zeroValue9
  t20 := Tryd.underlying20
  a20 := Tryd.isAgg20
  z20 := Tryd.sizeOf20
  v20 := Tryd.zeroValue20
  t21 := Tryd.underlying21
  a21 := Tryd.isAgg21
  z21 := Tryd.sizeOf21
  v21 := Tryd.zeroValue21
  t37 := Tryd.underlying101
  a37 := Tryd.isAgg101
  z37 := Tryd.sizeOf101
  v37 := Tryd.zeroValue101
  t46 := Tryd.underlying44
  a46 := Tryd.isAgg44
  z46 := Tryd.sizeOf44
  v46 := Tryd.zeroValue44
  t51 := Tryd.underlying132
  a51 := Tryd.isAgg132
  z51 := Tryd.sizeOf132
  v51 := Tryd.zeroValue132
  t53 := Tryd.underlying73
  a53 := Tryd.isAgg73
  z53 := Tryd.sizeOf73
  v53 := Tryd.zeroValue73
  t75 := Tryd.underlying36
  a75 := Tryd.isAgg36
  z75 := Tryd.sizeOf36
  v75 := Tryd.zeroValue36
  t85 := Tryd.underlying113
  a85 := Tryd.isAgg113
  z85 := Tryd.sizeOf113
  v85 := Tryd.zeroValue113
  t127 := Tryd.underlying206
  a127 := Tryd.isAgg206
  z127 := Tryd.sizeOf206
  v127 := Tryd.zeroValue206
  t143 := Tryd.underlying207
  a143 := Tryd.isAgg207
  z143 := Tryd.sizeOf207
  v143 := Tryd.zeroValue207
  t145 := Tryd.underlying209
  a145 := Tryd.isAgg209
  z145 := Tryd.sizeOf209
  v145 := Tryd.zeroValue209
  t167 := Tryd.underlying156
  a167 := Tryd.isAgg156
  z167 := Tryd.sizeOf156
  v167 := Tryd.zeroValue156
  t168 := Tryd.underlying159
  a168 := Tryd.isAgg159
  z168 := Tryd.sizeOf159
  v168 := Tryd.zeroValue159
  t171 := Tryd.underlying151
  a171 := Tryd.isAgg151
  z171 := Tryd.sizeOf151
  v171 := Tryd.zeroValue151
  t173 := Tryd.underlying154
  a173 := Tryd.isAgg154
  z173 := Tryd.sizeOf154
  v173 := Tryd.zeroValue154
  t175 := Tryd.underlying157
  a175 := Tryd.isAgg157
  z175 := Tryd.sizeOf157
  v175 := Tryd.zeroValue157
  t210 := Tryd.underlying204
  a210 := Tryd.isAgg204
  z210 := Tryd.sizeOf204
  v210 := Tryd.zeroValue204
  t212 := Tryd.underlying198
  a212 := Tryd.isAgg198
  z212 := Tryd.sizeOf198
  v212 := Tryd.zeroValue198
  t213 := Tryd.underlying199
  a213 := Tryd.isAgg199
  z213 := Tryd.sizeOf199
  t232 := Tryd.underlying210
  a232 := Tryd.isAgg210
  z232 := Tryd.sizeOf210
  v232 := Tryd.zeroValue210
  t233 := Tryd.underlying211
  a233 := Tryd.isAgg211
  z233 := Tryd.sizeOf211
  v233 := Tryd.zeroValue211
  g15 := by kernel_rfl
  g16 := by kernel_rfl
  g17 := by kernel_rfl
  g18 := by kernel_rfl
  g19 := by kernel_rfl
  t80 := Tryd.underlying110
  a80 := Tryd.isAgg110
  z80 := Tryd.sizeOf110
  v80 := Tryd.zeroValue110
  i0 := by kernel_rfl
  i2 := by kernel_rfl
  i3 := by kernel_rfl
  i4 := by kernel_rfl
  i5 := by kernel_rfl
  i9 := by kernel_rfl
  i20 := by kernel_rfl
  i21 := by kernel_rfl
  i37 := by kernel_rfl
  i46 := by kernel_rfl
  i51 := by kernel_rfl
  i53 := by kernel_rfl
  i75 := by kernel_rfl
  i80 := by kernel_rfl
  i85 := by kernel_rfl
  i127 := by kernel_rfl
  i143 := by kernel_rfl
  i145 := by kernel_rfl
  i167 := by kernel_rfl
  i168 := by kernel_rfl
  i171 := by kernel_rfl
  i173 := by kernel_rfl
  i175 := by kernel_rfl
  i210 := by kernel_rfl
  i212 := by kernel_rfl
  i232 := by kernel_rfl
  i233 := by kernel_rfl
  m15 := by kernel_rfl
  m16 := by kernel_rfl
  m17 := by kernel_rfl
  m18 := by kernel_rfl
  m19 := by kernel_rfl
  c0 := by kernel_rfl
  c2 := by kernel_rfl
  c3 := by kernel_rfl
  c4 := by kernel_rfl
  c5 := by kernel_rfl
  c9 := by kernel_rfl
  c20 := by kernel_rfl
  c21 := by kernel_rfl
  c37 := by kernel_rfl
  c46 := by kernel_rfl
  c51 := by kernel_rfl
  c53 := by kernel_rfl
  c75 := by kernel_rfl
  c80 := by kernel_rfl
  c85 := by kernel_rfl
  c127 := by kernel_rfl
  c143 := by kernel_rfl
  c145 := by kernel_rfl
  c167 := by kernel_rfl
  c168 := by kernel_rfl
  c171 := by kernel_rfl
  c173 := by kernel_rfl
  c175 := by kernel_rfl
  c210 := by kernel_rfl
  c212 := by kernel_rfl
  c213 := by kernel_rfl
  c232 := by kernel_rfl
  c233 := by kernel_rfl

namespace ints
/-- The two errors of the library lie in their variables. -/
def Sent (w : World) : Prop := (∃ t p, w.cell? ⟨4, 0, none⟩ = some (.iface t p)) ∧ (∃ t p, w.cell? ⟨5, 0, none⟩ = some (.iface t p))
theorem sent_below {w w' : World} (h : Sent w) (hb : Below w.heap.size w w') : Sent w' := by
  obtain ⟨⟨t, p, h1⟩, ⟨u, q, h2⟩⟩ := h
  exact ⟨⟨t, p, cell_later hb h1⟩, ⟨u, q, cell_later hb h2⟩⟩
/-- What ParseInt tells of a string. -/
def PIPost (s : ByteArray) (w : World) (e : Ending) (w' : World) : Prop :=
  Below w.heap.size w w' ∧ ((∃ v, Lib.parseIntB 64 s.data.toList = .ok v ∧ e = .returned (.tuple #[.int .i64 v, .nilIface])) ∨
    ((∀ v, Lib.parseIntB 64 s.data.toList ≠ .ok v) ∧ ∃ v N, e = .returned (.tuple #[.int .i64 v, .iface 159 (.pointer (some ⟨N, 0, none⟩))])))
theorem parse_any (s : ByteArray) (w : World) (hz : s.size ≤ 281474976710656) (hs : Sent w) : Calls Tryd.prog 36 #[.string s, .int .i64 10, .int .i64 64] w (PIPost s w) := by
  obtain ⟨⟨t, p, h1⟩, ⟨u, q, h2⟩⟩ := hs
  cases h : Lib.parseIntB 64 s.data.toList
  · rename_i v
    have := Any.strconv_ParseInt_10_at64_ok Tryd.laysPInt s (by omega) v h w
    refine Calls.mono this ?_
    rintro e w' ⟨rfl, hw⟩
    refine ⟨?_, .inl ⟨v, h, rfl⟩⟩
    rcases hw with rfl | ⟨t, rfl⟩
    · exact Below.refl _ _
    · exact Lib.bytesWorld_below _ _ _
  · have := Any.strconv_ParseInt_10_at64_syntax Tryd.laysPInt s hz h (.iface t p) w h1 (Or.inr ⟨t, p, rfl⟩)
    refine Calls.mono this ?_
    rintro e w' ⟨N, rfl, _, _, hb⟩
    refine ⟨hb, .inr ⟨fun v hv => ?_, _, N, rfl⟩⟩
    rw [h] at hv; cases hv
  · have := Any.strconv_ParseInt_10_at64_range Tryd.laysPInt s hz h (.iface u q) w h2 (Or.inr ⟨u, q, rfl⟩)
    refine Calls.mono this ?_
    rintro e w' ⟨N, rfl, _, _, hb⟩
    refine ⟨hb, .inr ⟨fun v hv => ?_, _, N, rfl⟩⟩
    rw [h] at hv; cases hv
end ints
end Go.Proofs.YtjnlgefcpmppmaaDoor

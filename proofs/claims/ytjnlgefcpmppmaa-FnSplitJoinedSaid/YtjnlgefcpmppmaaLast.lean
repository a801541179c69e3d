/- strings.LastIndex laid, by contract; zzSplitN by contract. -/
import Derived.Test.YtjnlgefcpmppmaaSearch
import Derived.Shelf.Strings.LastIndexAll
import Derived.OwnWalk
namespace Go.Proofs.Ytjnlgefcpmppmaa
open Go.Proofs Go.Shelf Go.RowKit

def Try.laysLast_ren : Go.Shelf.Ren := ⟨fun | 148 => 39 | 222 => 46 | 223 => 47 | 269 => 49 | n => n, fun | 9 => 9 | 3 => 3 | 4 => 4 | 5 => 5 | 146 => 145 | 51 => 144 | 46 => 49 | n => n, fun | n => n⟩
theorem Try.laysLast : Go.Proofs.Lays.n148 Try.prog Try.laysLast_ren where
  mixed := by kernel_rfl
  f148 := Try.func39.trans (congrArg some (by kernel_rfl))
  f222 := Try.func46.trans (congrArg some (by kernel_rfl))
  f223 := Try.func47.trans (congrArg some (by kernel_rfl))
  f269 := Try.func49.trans (congrArg some (by kernel_rfl))
  t3 := Try.underlying3
  a3 := Try.isAgg3
  z3 := Try.sizeOf3
  v3 := Try.zeroValue3
  t4 := Try.underlying4
  a4 := Try.isAgg4
  z4 := Try.sizeOf4
  v4 := Try.zeroValue4
  t5 := Try.underlying5
  a5 := Try.isAgg5
  z5 := Try.sizeOf5
  v5 := Try.zeroValue5
  t9 := Try.underlying9
  a9 := Try.isAgg9
  z9 := Try.sizeOf9
  v9 := Try.zeroValue9
  t46 := Try.underlying49
  a46 := Try.isAgg49
  z46 := Try.sizeOf49
  v46 := Try.zeroValue49
  t51 := Try.underlying144
  a51 := Try.isAgg144
  z51 := Try.sizeOf144
  v51 := Try.zeroValue144
  t146 := Try.underlying145
  a146 := Try.isAgg145
  z146 := Try.sizeOf145
  v146 := Try.zeroValue145

end Go.Proofs.Ytjnlgefcpmppmaa
namespace Go.Proofs.Ytjnlgefcpmppmaa.split
open Go.RowKit Go.Proofs.Ytjnlgefcpmppmaa.utf
theorem occ_at {s c a b : List UInt8} (h : s = a ++ c ++ b) : Lib.occAt s c a.length = true := by
  subst h
  unfold Lib.occAt
  rw [List.append_assoc, List.drop_left, List.isPrefixOf_iff_prefix]
  exact ⟨b, rfl⟩
def LastAt (s c : ByteArray) (k : Nat) (w : World) (e : Ending) (w' : World) : Prop := w = w' ∧ ∃ i : Nat, e = .returned (.int .i64 i) ∧ Hit s c i ∧ Has (L c) k ((L s).take i)
theorem last_any (s c : ByteArray) (k : Nat) (w : World) (hs : s.size ≤ 1000000) (h : Has (L c) (k + 1) (L s)) : Calls Try.prog 39 #[.string s, .string c] w (LastAt s c k w) := by
  refine (Any.strings_LastIndex Try.laysLast s c (by omega) w).mono ?_
  rintro e w' ⟨rfl, rfl⟩
  obtain ⟨a, b, e, ha⟩ := h
  have hl := congrArg List.length e
  rw [List.length_append, List.length_append, L_length, L_length] at hl
  have ho := occ_at e
  have hle : s.data.toList.length = s.size := L_length s
  have hlc : c.data.toList.length = c.size := L_length c
  have hx : Lib.lastIndex s.data.toList c.data.toList = Lib.lastOcc s.data.toList c.data.toList (s.size - c.size + 1) := by
    unfold Lib.lastIndex
    rw [hle, hlc, if_pos (by omega)]
  rw [hx]
  rcases Lib.lastOcc_spec s.data.toList c.data.toList (s.size - c.size + 1) with ⟨_, hn⟩ | ⟨i, hi, e2, hc, hn⟩
  · have := hn a.length (by omega)
    exact absurd (ho.symm.trans this) (by decide)
  · have hai : a.length ≤ i := by
      by_cases hai : a.length ≤ i
      · exact hai
      · have := hn a.length (by omega) (by omega)
        exact absurd (ho.symm.trans this) (by decide)
    refine ⟨rfl, i, by rw [e2], ⟨by omega, ?_⟩, ?_⟩
    · unfold Lib.occAt at hc
      rw [List.isPrefixOf_iff_prefix, List.prefix_iff_eq_take] at hc
      rw [← L_length c]
      exact hc.symm
    · rw [e, List.append_assoc, List.take_append, List.take_of_length_le hai]
      exact ha.more _
/-- The parts of a text: with the separator between, the text; each of whole code points. -/
def joinL (c : List UInt8) : List ByteArray → List UInt8
  | [] => []
  | [p] => L p
  | p :: q :: r => L p ++ c ++ joinL c (q :: r)
theorem joinL_snoc (c : List UInt8) : ∀ (ps : List ByteArray) (x : ByteArray), joinL c (ps ++ [x]) = (ps.flatMap fun p => L p ++ c) ++ L x
  | [], x => by simp [joinL]
  | [p], x => by simp [joinL]
  | p :: q :: r, x => by
    have := joinL_snoc c (q :: r) x
    simp only [List.cons_append] at this ⊢
    rw [joinL, this]
    simp
structure Parts (c s : ByteArray) (ps : List ByteArray) : Prop where
  whole : joinL (L c) ps = L s
  uni : ∀ p ∈ ps, Uni (L p)
  size : ∀ p ∈ ps, p.size ≤ s.size
structure SoFar (c s : ByteArray) (ps : List ByteArray) (x : ByteArray) : Prop where
  whole : (ps.flatMap fun p => L p ++ L c) ++ L x = L s
  uni : ∀ p ∈ ps, Uni (L p)
  last : Uni (L x)
  size : ∀ p ∈ ps, p.size ≤ s.size
  less : x.size ≤ s.size
theorem SoFar.done {c s x : ByteArray} {ps : List ByteArray} (h : SoFar c s ps x) : Parts c s (ps ++ [x]) :=
  ⟨by rw [joinL_snoc]; exact h.whole, fun p hp => by rcases List.mem_append.1 hp with h1 | h1; · exact h.uni p h1
                                                     · rw [List.mem_singleton.1 h1]; exact h.last,
   fun p hp => by rcases List.mem_append.1 hp with h1 | h1; · exact h.size p h1
                  · rw [List.mem_singleton.1 h1]; exact h.less⟩
theorem L_take (x : ByteArray) (i : Nat) : L (x.extract 0 i) = (L x).take i := by unfold L; rw [Lib.extract_data]; simp
theorem L_drop (x : ByteArray) (i : Nat) : L (x.extract i x.size) = (L x).drop i := by
  unfold L
  rw [Lib.extract_data, List.take_of_length_le]
  rw [List.length_drop, Array.length_toList]
  exact Nat.le_refl _
theorem SoFar.step {c s x : ByteArray} {ps : List ByteArray} {i : Nat} (h : SoFar c s ps x) (hc : Uni (L c)) (h0 : L c ≠ []) (hh : Hit x c i) : SoFar c s (ps ++ [x.extract 0 i]) (x.extract (i + c.size) x.size) := by
  have hp := hh.parts
  have hu := h.last
  rw [hp] at hu
  obtain ⟨u1, u2⟩ := uni_split hu hc h0
  have hz := h.less
  refine ⟨?_, ?_, ?_, ?_, ?_⟩
  · rw [List.flatMap_append, L_drop]
    simp only [List.flatMap_cons, List.flatMap_nil, List.append_nil, L_take]
    rw [List.append_assoc, ← hp]
    exact h.whole
  · intro p hp2
    rcases List.mem_append.1 hp2 with h1 | h1
    · exact h.uni p h1
    · rw [List.mem_singleton.1 h1, L_take]; exact u1
  · rw [L_drop]; exact u2
  · intro p hp2
    rcases List.mem_append.1 hp2 with h1 | h1
    · exact h.size p h1
    · rw [List.mem_singleton.1 h1, ← L_length, L_take, List.length_take, L_length]; omega
  · rw [← L_length, L_drop, List.length_drop, L_length]; omega
end Go.Proofs.Ytjnlgefcpmppmaa.split

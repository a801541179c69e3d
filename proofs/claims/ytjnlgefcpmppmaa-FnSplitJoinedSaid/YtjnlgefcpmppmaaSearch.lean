/- zzIndex, zzCount by contract. -/
import Derived.Test.YtjnlgefcpmppmaaRows
import Derived.Test.YtjnlgefcpmppmaaSplitLaw
import Derived.WalkKit
import Derived.WalkLawsBesides
import Derived.WalkSpells
import Derived.Lib.Hide
import Derived.Below
import Derived.Lib.Strings
namespace Go.Proofs.Ytjnlgefcpmppmaa.split
open Go.RowKit
/-- The bytes. -/
def L (s : ByteArray) : List UInt8 := s.data.toList
theorem L_length (s : ByteArray) : (L s).length = s.size := by unfold L; rw [Array.length_toList]; rfl
/-- c stands at i in s. -/
def Hit (s c : ByteArray) (i : Nat) : Prop := i + c.size ≤ s.size ∧ ((L s).drop i).take c.size = L c
theorem hit_of {s c : ByteArray} {i : Nat} (h : i + c.size ≤ s.size) (he : ((s.extract i (i + c.size)).toList == c.toList) = true) : Hit s c i := by
  rw [ByteArray.toList_eq, ByteArray.toList_eq, beq_iff_eq, Lib.extract_data, Nat.add_sub_cancel_left] at he
  exact ⟨h, he⟩
theorem Hit.parts {s c : ByteArray} {i : Nat} (h : Hit s c i) : L s = (L s).take i ++ L c ++ (L s).drop (i + c.size) := by
  rw [List.append_assoc, ← h.2, ← List.drop_drop, List.take_append_drop, List.take_append_drop]
def Found (s c : ByteArray) (w : World) (e : Ending) (w' : World) : Prop := w = w' ∧ (e = .returned (.int .i64 (-1)) ∨ ∃ i : Nat, e = .returned (.int .i64 i) ∧ Hit s c i)
theorem index_any (s c : ByteArray) (w : World) (hs : s.size ≤ 1000000) (hc : c.size ≤ 1000000) : Calls Try.prog 45 #[.string s, .string c] w (Found s c w) := by
  go_enter Try.func45, Try.ntmps45
  go_wp2_with fail
  go_loop [5] (fun i => ∃ k : Nat, i = .int .i64 k ∧ k ≤ s.size + 1) (fun i => s.size + 1 - (intOf i).toNat)
  case atStart => exact ⟨0, rfl, by omega⟩
  case round =>
    obtain ⟨k, rfl, hk⟩ := hrel
    by_cases hlt : k + c.size ≤ s.size
    · have hd : decide ((k : Int) + c.size ≤ s.size) = true := decide_eq_true (by omega)
      cases he : ((s.extract k (k + c.size)).toList == c.toList)
      · go_wp2_with fail
        go_round
        case rel => exact ⟨k + 1, by go_num, by omega⟩
        case measure => simp [intOf]; omega
      · have HE := Lib.hid (hit_of hlt he)
        go_wp2_with fail
        go_ret
        exact ⟨rfl, .inr ⟨k, rfl, HE.out⟩⟩
    · have hd : decide ((k : Int) + c.size ≤ s.size) = false := decide_eq_false (by omega)
      go_wp2_with fail
      go_ret
      exact ⟨rfl, .inl rfl⟩
/-- c stands in l so many times, one behind the other. -/
def Has (c : List UInt8) : Nat → List UInt8 → Prop
  | 0, _ => True
  | k + 1, l => ∃ a b, l = a ++ c ++ b ∧ Has c k a
theorem Has.more {c : List UInt8} : ∀ {k : Nat} {l : List UInt8} (x : List UInt8), Has c k l → Has c k (l ++ x)
  | 0, _, _, _ => trivial
  | _ + 1, _, x, h => by
    obtain ⟨a, b, e, h⟩ := h
    exact ⟨a, b ++ x, by rw [e]; simp, h⟩
theorem Has.hit {s c : ByteArray} {k i : Nat} (h : Has (L c) k ((L s).take i)) (hh : Hit s c i) : Has (L c) (k + 1) ((L s).take (i + c.size)) := by
  refine ⟨(L s).take i, [], ?_, h⟩
  rw [List.append_nil, List.take_add, hh.2]
theorem Has.next {s : ByteArray} {c : List UInt8} {k i : Nat} (h : Has c k ((L s).take i)) : Has c k ((L s).take (i + 1)) := by
  rw [List.take_add]
  exact h.more _
def Counted (s c : ByteArray) (w : World) (e : Ending) (w' : World) : Prop := w = w' ∧ ∃ n : Nat, e = .returned (.int .i64 n) ∧ Has (L c) n (L s) ∧ n ≤ s.size
theorem count_any (s c : ByteArray) (w : World) (hs : s.size ≤ 1000000) (hc : c.size ≤ 1000000) (h0 : 0 < c.size) : Calls Try.prog 38 #[.string s, .string c] w (Counted s c w) := by
  have hz : ((c.size : Int) == 0) = false := by rw [beq_eq_false_iff_ne]; omega
  go_enter Try.func38, Try.ntmps38
  go_wp2_with fail
  go_loop [5, 6] (fun n i => ∃ k m : Nat, i = .int .i64 k ∧ n = .int .i64 m ∧ k ≤ s.size + 1 ∧ m ≤ k ∧ m ≤ s.size ∧ Has (L c) m ((L s).take k)) (fun _ i => s.size + 1 - (intOf i).toNat)
  case atStart => exact ⟨0, 0, rfl, rfl, Nat.zero_le _, Nat.zero_le _, Nat.zero_le _, trivial⟩
  case round =>
    obtain ⟨k, m, rfl, rfl, hk, hm, hms, hh⟩ := hrel
    have HH := Lib.hid hh
    clear hh
    by_cases hlt : k + c.size ≤ s.size
    · have hd : decide ((k : Int) + c.size ≤ s.size) = true := decide_eq_true (by omega)
      cases he : ((s.extract k (k + c.size)).toList == c.toList)
      · go_wp2_with fail
        go_round
        case rel => exact ⟨k + 1, m, by go_num, rfl, by omega, by omega, hms, HH.out.next⟩
        case measure => simp [intOf]; omega
      · have HE := Lib.hid (hit_of hlt he)
        go_wp2_with fail
        go_round
        case rel => exact ⟨k + c.size, m + 1, by go_num, by go_num, by omega, by omega, by omega, HH.out.hit HE.out⟩
        case measure => simp [intOf]; omega
    · have hd : decide ((k : Int) + c.size ≤ s.size) = false := decide_eq_false (by omega)
      have HF := Lib.hid (show Has (L c) m (L s) by
        have h := HH.out.more ((L s).drop k)
        rwa [List.take_append_drop] at h)
      clear HH
      go_wp2_with fail
      go_ret
      exact ⟨rfl, m, rfl, HF.out, hms⟩
end Go.Proofs.Ytjnlgefcpmppmaa.split

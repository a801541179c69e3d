/- Decimal digits, plainly: what they spell; when a string spells an int64. -/
import Derived.Test.YtjnlgefcpmppmaaDoorUtf
import Derived.Lib.ParseIntB
namespace Go.Proofs.YtjnlgefcpmppmaaDoor.ints
open Go.Proofs.YtjnlgefcpmppmaaDoor.utf

def isD (b : Nat) : Prop := 48 ≤ b ∧ b ≤ 57
def dig (s : ByteArray) : Prop := ∀ j, j < s.size → isD (byteAt s j)
/-- What the first digits spell. -/
def valN (s : ByteArray) : Nat → Nat
  | 0 => 0
  | i + 1 => 10 * valN s i + (byteAt s i - 48)
theorem valN_lt {s : ByteArray} (h : dig s) : ∀ i, i ≤ s.size → valN s i < 10 ^ i
  | 0, _ => by simp [valN]
  | i + 1, hi => by
    have ih := valN_lt h i (by omega)
    have hd := h i (by omega)
    unfold isD at hd
    simp only [valN, Nat.pow_succ]
    omega
theorem pow_le {i : Nat} (h : i ≤ 15) : 10 ^ i ≤ 1000000000000000 := by
  have : 10 ^ i ≤ 10 ^ 15 := Nat.pow_le_pow_right (by decide) h
  simpa using this
theorem valN_le {s : ByteArray} (h : dig s) (i : Nat) (hi : i ≤ s.size) (hs : s.size ≤ 15) : valN s i < 1000000000000000 :=
  Nat.lt_of_lt_of_le (valN_lt h i hi) (pow_le (by omega))

theorem toNat_of {b : Nat} (h : b < 256) : (UInt8.ofNat b).toNat = b := by simp; omega

theorem parse_from {s : ByteArray} (h : dig s) (hs : s.size ≤ 15) : ∀ (k i : Nat), i + k = s.size → Lib.parseUintM 18446744073709551615 (valN s i) (s.data.toList.drop i) = .ok (valN s s.size)
  | 0, i, hi => by
    have : s.data.toList.drop i = [] := List.drop_eq_nil_of_le (by simp; omega)
    rw [this, show i = s.size by omega]; rfl
  | k + 1, i, hi => by
    rw [drop_byte s i (by omega)]
    have hd := h i (by omega)
    have h1 := valN_le h (i + 1) (by omega) hs
    have h0 := valN_le h i (by omega) hs
    unfold Lib.parseUintM
    rw [toNat_of (byteAt_lt s i)]
    unfold isD at hd
    have e : valN s i * 10 + (byteAt s i - 48) = valN s (i + 1) := by simp only [valN]; omega
    rw [if_pos hd, if_neg (by omega), e, if_neg (by omega)]
    exact parse_from h hs k (i + 1) (by omega)
theorem parse_ok {s : ByteArray} (h : dig s) (hs : s.size ≤ 15) : Lib.parseUintM 18446744073709551615 0 s.data.toList = .ok (valN s s.size) := by
  have := parse_from h hs s.size 0 (by omega)
  simpa [valN] using this
theorem parse_dig : ∀ (M acc : Nat) (l : List UInt8) (v : Nat), Lib.parseUintM M acc l = .ok v → ∀ c ∈ l, isD c.toNat
  | _, _, [], _, _, c, hc => by simp at hc
  | M, acc, x :: r, v, h, c, hc => by
    unfold Lib.parseUintM at h
    split at h
    · rename_i hx
      split at h
      · cases h
      · split at h
        · cases h
        · rcases List.mem_cons.1 hc with rfl | hc
          · exact hx
          · exact parse_dig _ _ _ _ h c hc
    · cases h
theorem byte_mem (s : ByteArray) (j : Nat) (hj : j < s.size) : UInt8.ofNat (byteAt s j) ∈ s.data.toList := by
  have := drop_byte s j hj
  have hm : UInt8.ofNat (byteAt s j) ∈ s.data.toList.drop j := by rw [this]; simp
  exact List.mem_of_mem_drop hm
theorem parse_bad {s : ByteArray} (j : Nat) (hj : j < s.size) (h : ¬ isD (byteAt s j)) (M acc v : Nat) : Lib.parseUintM M acc s.data.toList ≠ .ok v := fun hp => by
  have := parse_dig _ _ _ _ hp _ (byte_mem s j hj)
  rw [toNat_of (byteAt_lt s j)] at this
  exact h this

theorem plain_ok_l (c : UInt8) (r : List UInt8) (u : Nat) (h43 : c.toNat ≠ 43) (h45 : c.toNat ≠ 45) (h : Lib.parseUintM 18446744073709551615 0 (c :: r) = .ok u) (hu : u < 9223372036854775808) :
    Lib.parseIntB 64 (c :: r) = .ok (u : Int) := by
  have h' : Lib.parseUintM (2 ^ 64 - 1) 0 (c :: r) = .ok u := h
  have e : (2 ^ (64 - 1) : Nat) = 9223372036854775808 := by decide
  simp only [Lib.parseIntB, Lib.parseUintB, h43, h45, or_self, not_false_iff, true_and, false_and, if_false, reduceCtorEq, h', e]
  rw [if_neg (by omega)]
theorem plain_bad_l (c : UInt8) (r : List UInt8) (v : Int) (h43 : c.toNat ≠ 43) (h45 : c.toNat ≠ 45) (h : ∀ u, Lib.parseUintM 18446744073709551615 0 (c :: r) ≠ .ok u) :
    Lib.parseIntB 64 (c :: r) ≠ .ok v := by
  have h' : ∀ u, Lib.parseUintM (2 ^ 64 - 1) 0 (c :: r) ≠ .ok u := h
  simp only [Lib.parseIntB, Lib.parseUintB, h43, h45, or_self, not_false_iff, true_and, false_and, if_false, reduceCtorEq]
  cases hp : Lib.parseUintM (2 ^ 64 - 1) 0 (c :: r)
  · exact (h' _ hp).elim
  · intro hx; cases hx
  · intro hx; cases hx
theorem minus_ok_l (c : UInt8) (r : List UInt8) (u : Nat) (h45 : c.toNat = 45) (hr : r ≠ []) (h : Lib.parseUintM 18446744073709551615 0 r = .ok u) (hu : u < 9223372036854775808) :
    Lib.parseIntB 64 (c :: r) = .ok (-(u : Int)) := by
  have h' : Lib.parseUintM (2 ^ 64 - 1) 0 r = .ok u := h
  have e : (2 ^ (64 - 1) : Nat) = 9223372036854775808 := by decide
  simp only [Lib.parseIntB, Lib.parseUintB, h45, or_true, if_true, not_true_eq_false, false_and, true_and, if_false, hr, h', e]
  rw [if_neg (by omega)]
theorem minus_bad_l (c : UInt8) (r : List UInt8) (v : Int) (h45 : c.toNat = 45) (h : r = [] ∨ ∀ u, Lib.parseUintM 18446744073709551615 0 r ≠ .ok u) :
    Lib.parseIntB 64 (c :: r) ≠ .ok v := by
  have h' : r = [] ∨ ∀ u, Lib.parseUintM (2 ^ 64 - 1) 0 r ≠ .ok u := h
  simp only [Lib.parseIntB, Lib.parseUintB, h45, or_true, if_true, not_true_eq_false, false_and, true_and, if_false]
  rcases h' with rfl | h'
  · simp only [if_true]; intro hx; cases hx
  · split
    · intro hx; cases hx
    · intro hx; cases hx
    · rename_i u hu
      split at hu
      · cases hu
      · exact (h' u hu).elim

theorem head_drop (s : ByteArray) (h0 : 0 < s.size) : s.data.toList = UInt8.ofNat (byteAt s 0) :: s.data.toList.drop 1 := by
  have hd := drop_byte s 0 h0
  simpa using hd
theorem tail_eq (s : ByteArray) : (s.extract 1 s.size).data.toList = s.data.toList.drop 1 := by
  have hl : s.data.toList.length = s.size := by simp
  simp only [ByteArray.data_extract, Array.toList_extract, List.extract_eq_take_drop]
  rw [List.take_of_length_le (by rw [List.length_drop]; omega)]

theorem plain_ok {s : ByteArray} (h0 : 0 < s.size) (h45 : byteAt s 0 ≠ 45) (h : dig s) (hs : s.size ≤ 15) : Lib.parseIntB 64 s.data.toList = .ok (valN s s.size : Int) := by
  have hd0 := h 0 h0
  unfold isD at hd0
  have hp := parse_ok h hs
  have hl := valN_le h s.size (Nat.le_refl _) hs
  rw [head_drop s h0] at hp ⊢
  exact plain_ok_l _ _ _ (by rw [toNat_of (byteAt_lt s 0)]; omega) (by rw [toNat_of (byteAt_lt s 0)]; exact h45) hp (by omega)
theorem plain_bad {s : ByteArray} (j : Nat) (hj : j < s.size) (h43 : byteAt s 0 ≠ 43) (h45 : byteAt s 0 ≠ 45) (h : ¬ isD (byteAt s j)) (v : Int) : Lib.parseIntB 64 s.data.toList ≠ .ok v := by
  have hb := fun u => parse_bad j hj h 18446744073709551615 0 u
  rw [head_drop s (by omega)] at hb ⊢
  exact plain_bad_l _ _ _ (by rw [toNat_of (byteAt_lt s 0)]; exact h43) (by rw [toNat_of (byteAt_lt s 0)]; exact h45) hb
theorem minus_ok {s l : ByteArray} (hl : l = s.extract 1 s.size) (h0 : 0 < s.size) (h45 : byteAt s 0 = 45) (h1 : 0 < l.size) (h : dig l) (hs : l.size ≤ 15) : Lib.parseIntB 64 s.data.toList = .ok (-(valN l l.size : Int)) := by
  have hp := parse_ok h hs
  have hv := valN_le h l.size (Nat.le_refl _) hs
  have hne : l.data.toList ≠ [] := by
    rw [head_drop l h1]; simp
  rw [head_drop s h0]
  have e := tail_eq s
  rw [← hl] at e
  rw [← e]
  exact minus_ok_l _ _ _ (by rw [toNat_of (byteAt_lt s 0)]; exact h45) hne hp (by omega)
theorem minus_bad {s l : ByteArray} (hl : l = s.extract 1 s.size) (h0 : 0 < s.size) (h45 : byteAt s 0 = 45) (h : l.size = 0 ∨ ∃ j, j < l.size ∧ ¬ isD (byteAt l j)) (v : Int) : Lib.parseIntB 64 s.data.toList ≠ .ok v := by
  rw [head_drop s h0]
  have e := tail_eq s
  rw [← hl] at e
  rw [← e]
  refine minus_bad_l _ _ _ (by rw [toNat_of (byteAt_lt s 0)]; exact h45) ?_
  rcases h with h | ⟨j, hj, hd⟩
  · left
    have : l.data.toList.length = 0 := by simpa using h
    exact List.length_eq_zero_iff.1 this
  · exact .inr fun u => parse_bad j hj hd _ _ _
theorem empty_bad {s : ByteArray} (h : s.size = 0) (v : Int) : Lib.parseIntB 64 s.data.toList ≠ .ok v := by
  have h1 : s.data.toList.length = 0 := by simpa using h
  rw [List.length_eq_zero_iff.1 h1]
  intro hx; cases hx
end Go.Proofs.YtjnlgefcpmppmaaDoor.ints

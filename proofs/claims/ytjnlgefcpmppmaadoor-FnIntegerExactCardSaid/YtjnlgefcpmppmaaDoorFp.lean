/- Binary floating point: words, rungs, orders. No program is named. -/
import Ieee.Arith
import Derived.Laws.FloatBits
namespace Go.Proofs.YtjnlgefcpmppmaaDoor.Fp
open Ieee

theorem sw : double.signWeight = 9223372036854775808 := by decide
theorem bn : double.binade = 4503599627370496 := by decide
theorem ir : double.infRung = 9218868437227405312 := by decide
theorem lp : double.leastPlace = -1074 := by decide

/-- A word, by its sign and its rung. -/
theorem read_word (neg : Bool) (rung : Nat) (h : rung < 9223372036854775808) :
    double.read (double.word neg rung) = if rung < 4503599627370496 then .number neg rung (-1074) else if rung < 9218868437227405312 then .number neg (4503599627370496 + rung % 4503599627370496) (-1074 + (rung / 4503599627370496 - 1 : Nat)) else if rung = 9218868437227405312 then .infinity neg else .nan neg (rung - 9218868437227405312) := by
  unfold Format.read
  simp only [sw, bn, ir, lp]
  have e1 : (double.word neg rung) % 9223372036854775808 = rung := by
    unfold Format.word
    simp only [sw]
    cases neg <;> simp <;> omega
  have e2 : (double.word neg rung / 9223372036854775808 % 2 == 1) = neg := by
    unfold Format.word
    simp only [sw]
    cases neg
    · simp; omega
    · simp; omega
  rw [e1, e2]

theorem read_split (w : Nat) (h : w < 18446744073709551616) : ∃ neg rung, rung < 9223372036854775808 ∧ w = double.word neg rung := by
  by_cases hw : w < 9223372036854775808
  · exact ⟨false, w, hw, by simp [Format.word]⟩
  · exact ⟨true, w - 9223372036854775808, by omega, by simp [Format.word, sw]; omega⟩

theorem nearest_word (neg : Bool) (mag : Nat) (place : Int) : ∃ rung, rung ≤ 9218868437227405312 ∧ double.nearest neg mag place = double.word neg rung := by
  unfold Format.nearest
  split
  · exact ⟨0, by omega, rfl⟩
  · exact ⟨_, by rw [← ir]; exact Nat.min_le_right _ _, rfl⟩

theorem order_self_of (d : Datum) (h : d.isNaN = false) : d.order d = some .eq := by
  cases d with
  | nan => simp [Datum.isNaN] at h
  | infinity s => cases s <;> rfl
  | number s m i =>
    simp only [Datum.order]
    congr 1
    exact Std.ReflCmp.compare_self

theorem nearest_notnan (neg : Bool) (mag : Nat) (place : Int) : (double.read (double.nearest neg mag place)).isNaN = false := by
  obtain ⟨rung, hr, he⟩ := nearest_word neg mag place
  rw [he, read_word neg rung (by omega)]
  split
  · rfl
  · split
    · rfl
    · rw [if_pos (by omega)]; rfl

theorem nearest_self (neg : Bool) (mag : Nat) (place : Int) : double.order (double.nearest neg mag place) (double.nearest neg mag place) = some .eq :=
  order_self_of _ (nearest_notnan _ _ _)

theorem read_c2 : double.read 4845873199050653696 = .number false 4503599627370496 1 := by
  have := read_word false 4845873199050653696 (by omega)
  simpa [Format.word] using this
theorem read_c1 : double.read 14069245235905429504 = .number true 4503599627370496 1 := by
  have := read_word true 4845873199050653696 (by omega)
  simpa [Format.word, sw] using this

theorem compare_lt {a b : Int} : compare a b = .lt ↔ a < b := by
  simp [compare, compareOfLessAndEq]; split <;> simp_all
theorem compare_gt {a b : Int} : compare a b = .gt ↔ b < a := by
  simp only [compare, compareOfLessAndEq]
  split
  · simp; omega
  · split
    · simp; omega
    · simp; omega

/-- Between -2^53 and 2^53: a number, and cut towards zero it is of that size at most. -/
theorem small_toInt (x : Nat) (h1 : double.order x 14069245235905429504 = some .gt) (h2 : double.order x 4845873199050653696 = some .lt) :
    ∃ n : Int, (double.read x).toInt .zero = some n ∧ -9007199254740992 ≤ n ∧ n ≤ 9007199254740992 := by
  unfold Format.order at h1 h2
  rw [read_c1] at h1
  rw [read_c2] at h2
  generalize double.read x = d at h1 h2
  cases d with
  | nan => simp [Datum.order] at h1
  | infinity s => cases s <;> simp [Datum.order] at h1 h2
  | number s m i =>
    simp only [Datum.order, Option.some.injEq, compare_gt, compare_lt, signed] at h1 h2
    simp only [Datum.toInt, Datum.integral]
    refine ⟨_, rfl, ?_⟩
    -- the size of what is cut
    have hm : m * 2 ^ (i - min i 1).toNat < 4503599627370496 * 2 ^ (1 - min i 1).toNat := by
      have e : ∀ a b : Nat, (a <<< b : Nat) = a * 2 ^ b := fun a b => Nat.shiftLeft_eq a b
      simp only [e] at h1 h2
      generalize m * 2 ^ (i - min i 1).toNat = A at h1 h2 ⊢
      generalize 4503599627370496 * 2 ^ (1 - min i 1).toNat = B at h1 h2 ⊢
      cases s <;> simp at h1 h2 <;> omega
    clear h1 h2
    suffices h : Toward.zero.cut s (m <<< i.toNat) (-i).toNat ≤ 9007199254740992 by
      unfold signed
      cases s <;> simp <;> omega
    unfold Toward.cut
    simp only [Bool.toNat_false, Nat.add_zero, Nat.shiftLeft_eq, Nat.one_mul]
    by_cases hi : 1 ≤ i
    · have e1 : min i 1 = 1 := by omega
      have e2 : (-i).toNat = 0 := by omega
      have e3 : i.toNat = (i - 1).toNat + 1 := by omega
      rw [e1] at hm
      rw [e2, e3, Nat.zero_min, Nat.pow_zero, Nat.div_one, Nat.pow_succ]
      simp only [Int.sub_self, Int.toNat_zero, Nat.pow_zero, Nat.mul_one] at hm
      rw [← Nat.mul_assoc]
      omega
    · have e1 : min i 1 = i := by omega
      have e3 : i.toNat = 0 := by omega
      have e4 : (1 - i).toNat = (-i).toNat + 1 := by omega
      rw [e1, e4] at hm
      rw [e3]
      generalize (-i).toNat = d at hm ⊢
      simp only [Int.sub_self, Int.toNat_zero, Nat.pow_zero, Nat.mul_one, Nat.pow_succ] at hm ⊢
      rcases Nat.le_total d (m.log2 + 2) with hd | hd
      · rw [Nat.min_eq_left hd]
        refine Nat.le_of_lt ((Nat.div_lt_iff_lt_mul (Nat.two_pow_pos d)).2 ?_)
        calc m < 4503599627370496 * (2 ^ d * 2) := hm
          _ = 9007199254740992 * 2 ^ d := by rw [Nat.mul_comm (2 ^ d) 2, ← Nat.mul_assoc]
      · rw [Nat.min_eq_right hd, Nat.div_eq_of_lt]
        · omega
        · exact Nat.lt_of_lt_of_le Nat.lt_log2_self (Nat.pow_le_pow_right (by omega) (by omega))
end Go.Proofs.YtjnlgefcpmppmaaDoor.Fp

/- The order of finite words; and the hypotenuse as a function of two rungs. -/
import Derived.Test.YtkagijlbmojbcaaFpLaw
namespace Go.Proofs.Ytkagijlbmojbcaa.Fp
open Ieee

theorem compare_swap {a b : Int} : compare (-a) (-b) = compare b a := by
  rcases Int.lt_trichotomy a b with h | h | h
  · rw [compare_gt.2 (show -b < -a by omega), compare_gt.2 h]
  · subst h; exact (Std.ReflCmp.compare_self (cmp := fun (a b : Int) => compare a b)).trans (Std.ReflCmp.compare_self (cmp := fun (a b : Int) => compare a b)).symm
  · rw [compare_lt.2 (show -a < -b by omega), compare_lt.2 h]
theorem nat_lt {a b : Nat} (h : a < b) : compare a b = .lt := by simp [compare, compareOfLessAndEq, h]
theorem nat_gt {a b : Nat} (h : b < a) : compare a b = .gt := by simp only [compare, compareOfLessAndEq]; rw [if_neg (by omega), if_neg (by omega)]
theorem nat_eq (a : Nat) : compare a a = .eq := Std.ReflCmp.compare_self

theorem ord_num (r q : Nat) (hr : r < 9218868437227405312) (hq : q < 9218868437227405312) :
    compare ((mg r <<< (pl r - min (pl r) (pl q)).toNat : Nat) : Int) ((mg q <<< (pl q - min (pl r) (pl q)).toNat : Nat) : Int) = compare r q := by
  have h1 := va_shift (mg r) (pl r - min (pl r) (pl q)).toNat (min (pl r) (pl q))
  have h2 := va_shift (mg q) (pl q - min (pl r) (pl q)).toNat (min (pl r) (pl q))
  rw [show min (pl r) (pl q) + ((pl r - min (pl r) (pl q)).toNat : Int) = pl r by omega] at h1
  rw [show min (pl r) (pl q) + ((pl q - min (pl r) (pl q)).toNat : Int) = pl q by omega] at h2
  simp only [Nat.shiftLeft_eq]
  have i1 := vr_le_iff hr hq
  have i2 := vr_le_iff hq hr
  unfold vr at i1 i2
  rw [← h1, ← h2] at i1 i2
  clear h1 h2 hr hq
  generalize mg r * 2 ^ (pl r - min (pl r) (pl q)).toNat = A at i1 i2 ⊢
  generalize mg q * 2 ^ (pl q - min (pl r) (pl q)).toNat = B at i1 i2 ⊢
  have hT := tw_pos (min (pl r) (pl q))
  unfold va at i1 i2
  generalize (2 : Rat) ^ (min (pl r) (pl q)) = T at i1 i2 hT
  have key : ∀ a b : Nat, a ≤ b → (a : Rat) * T ≤ (b : Rat) * T := by
    intro a b h
    have : (a : Rat) ≤ (b : Rat) := by exact_mod_cast h
    exact Rat.mul_le_mul_of_nonneg_right this (Rat.le_of_lt hT)
  have key2 : ∀ a b : Nat, (a : Rat) * T ≤ (b : Rat) * T → a ≤ b := by
    intro a b h
    have := Rat.le_of_mul_le_mul_right h hT
    exact_mod_cast this
  have j1 : A ≤ B ↔ r ≤ q := ⟨fun h => i1.1 (key _ _ h), fun h => key2 _ _ (i1.2 h)⟩
  have j2 : B ≤ A ↔ q ≤ r := ⟨fun h => i2.1 (key _ _ h), fun h => key2 _ _ (i2.2 h)⟩
  rcases Nat.lt_trichotomy r q with h | h | h
  · rw [nat_lt h]; exact compare_lt.2 (by omega)
  · have : A = B := by omega
    subst h this; rw [nat_eq]; exact Std.ReflCmp.compare_self
  · rw [nat_gt h]; exact compare_gt.2 (by omega)

theorem ord (r q : Nat) (hr : r < 9218868437227405312) (hq : q < 9218868437227405312) : double.order r q = some (compare r q) := by
  unfold Format.order
  rw [read_nat r hr, read_nat q hq]
  simp only [Datum.order, signed, Bool.false_eq_true, if_false]
  rw [ord_num r q hr hq]
theorem ord_neg (r q : Nat) (hr : r < 9218868437227405312) (hq : q < 9218868437227405312) : double.order (double.word true r) (double.word true q) = some (compare q r) := by
  unfold Format.order
  rw [read_mg true r hr, read_mg true q hq]
  simp only [Datum.order, signed, if_true]
  rw [compare_swap]
  have := ord_num q r hq hr
  rw [Int.min_comm] at this
  rw [this]

/-- What lies between the two bounds. -/
theorem between (neg : Bool) (r m : Nat) (h : r < 9223372036854775808) (hm : m < 9218868437227405312)
    (h1 : double.order (double.word neg r) (double.word true m) = some .gt ∨ double.order (double.word neg r) (double.word true m) = some .eq)
    (h2 : double.order (double.word neg r) m = some .lt ∨ double.order (double.word neg r) m = some .eq) : r ≤ m := by
  have key : r < 9218868437227405312 := by
    by_cases hr : r < 9218868437227405312
    · exact hr
    · exfalso
      have e := read_word neg r h
      rw [if_neg (by omega), if_neg hr] at e
      unfold Format.order at h1 h2
      rw [e] at h1 h2
      rw [read_mg true m hm] at h1
      rw [read_nat m hm] at h2
      by_cases hi : r = 9218868437227405312
      · rw [if_pos hi] at h1 h2
        cases neg
        · simp [Datum.order] at h2
        · simp [Datum.order] at h1
      · rw [if_neg hi] at h1
        simp [Datum.order] at h1
  cases neg
  · rw [word_false, ord r m key hm] at h2
    rcases Nat.lt_or_ge m r with g | g
    · rw [nat_gt g] at h2; simp at h2
    · exact g
  · rw [ord_neg r m key hm] at h1
    rcases Nat.lt_or_ge m r with g | g
    · rw [nat_lt g] at h1; simp at h1
    · exact g

/-- The hypotenuse of two rungs. -/
def hy (p q : Nat) : Nat := if p = 0 ∧ q = 0 then 0 else if p < q then h5 p q else h5 q p
theorem hy_comm (p q : Nat) : hy p q = hy q p := by
  unfold hy
  by_cases h : p = 0 ∧ q = 0
  · rw [if_pos h, if_pos (And.intro h.2 h.1)]
  · have h' : ¬ (q = 0 ∧ p = 0) := by omega
    rw [if_neg h, if_neg h']
    rcases Nat.lt_trichotomy p q with g | g | g
    · rw [if_pos g, if_neg (by omega)]
    · subst g; rfl
    · rw [if_neg (by omega), if_pos g]

theorem sum_fin (p q : Nat) (hp : p ≤ 1523 * 4503599627370496) (hq : q ≤ 1523 * 4503599627370496) : rung (sm p q) (min (pl p) (pl q)) ≤ 1524 * 4503599627370496 := by
  refine fin_of 1524 (by omega) (by omega) ?_
  rw [va_sum]
  have a := vr_le_pow 1523 (by omega) (by omega) hp
  have b := vr_le_pow 1523 (by omega) (by omega) hq
  have e := two_mul_tw ((1523 : Nat) - 1023 : Int)
  rw [show ((1523 : Nat) - 1023 : Int) + 1 = ((1524 : Nat) : Int) - 1023 by omega] at e
  rw [e]
  generalize (2 : Rat) ^ (((1523 : Nat) : Int) - 1023) = T at *
  grind

/-- THE PLAIN LAW. -/
theorem hy_law (p q : Nat) (hp : p ≤ 1523 * 4503599627370496) (hq : q ≤ 1523 * 4503599627370496) :
    p ≤ hy p q ∧ q ≤ hy p q ∧ hy p q ≤ rung (sm p q) (min (pl p) (pl q)) ∧ hy p q ≤ 1526 * 4503599627370496 := by
  unfold hy
  by_cases h : p = 0 ∧ q = 0
  · rw [if_pos h]; omega
  · rw [if_neg h]
    by_cases g : p < q
    · rw [if_pos g]
      have s := sizes p q (by omega) (by omega) hq
      have u := upper_rung p q (by omega) (by omega) hq
      omega
    · rw [if_neg g]
      have s := sizes q p (by omega) (by omega) hp
      have u := upper_rung q p (by omega) (by omega) hp
      omega
end Go.Proofs.Ytkagijlbmojbcaa.Fp

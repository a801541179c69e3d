/- Floats, more: the other sign; what is finite; rounding to whole numbers stays finite. -/
import Derived.Test.YtkagijlbmojbcaaFp
import Derived.Test.YtkagijlbmojbcaaFloat
import Derived.Laws.BitsAllLaws
namespace Go.Proofs.Ytkagijlbmojbcaa.Fp
open Ieee Go.Proofs.Ytkagijlbmojbcaa.fl

theorem word_false (r : Nat) : double.word false r = r := rfl
theorem word_true (r : Nat) : double.word true r = 9223372036854775808 + r := by simp [Format.word, sw]

theorem xor_top (r : Nat) (h : r < 9223372036854775808) : r ^^^ 9223372036854775808 = 9223372036854775808 + r := by
  apply Nat.eq_of_testBit_eq
  intro j
  have e : (9223372036854775808 : Nat) = 2 ^ 63 := by decide
  rw [e] at h ⊢
  rw [Nat.testBit_xor, Nat.testBit_two_pow]
  rcases Nat.lt_trichotomy j 63 with hj | hj | hj
  · rw [Nat.testBit_two_pow_add_gt hj, decide_eq_false (by omega : ¬ 63 = j)]; simp
  · subst hj
    rw [Nat.testBit_two_pow_add_eq, Nat.testBit_lt_two_pow h]; simp
  · have h1 : r.testBit j = false := Nat.testBit_lt_two_pow (Nat.lt_of_lt_of_le h (Nat.pow_le_pow_right (by decide) (by omega)))
    have h2 : (2 ^ 63 + r).testBit j = false := Nat.testBit_lt_two_pow (Nat.lt_of_lt_of_le (by omega : 2 ^ 63 + r < 2 ^ 64) (Nat.pow_le_pow_right (by decide) (by omega)))
    rw [h1, h2, decide_eq_false (by omega : ¬ 63 = j)]; rfl

theorem neg_word (neg : Bool) (r : Nat) (h : r < 9223372036854775808) : Op.negFloat .f64 (double.word neg r) = double.word (!neg) r := by
  have e : ∀ x, Op.negFloat .f64 x = x ^^^ 9223372036854775808 := fun x => rfl
  rw [e]
  cases neg
  · rw [word_false, xor_top r h]; exact (word_true r).symm
  · rw [word_true, ← xor_top r h, Nat.xor_assoc, Nat.xor_self, Nat.xor_zero]; rfl

theorem fabs_word (neg : Bool) (r : Nat) (h : r < 9223372036854775808) : fabs (double.word neg r) = r := by
  unfold fabs
  have key : ∀ a : Nat, a < 18446744073709551616 → (bits .andNot .u64 (a : Int) 9223372036854775808).toNat = a % 9223372036854775808 := by
    intro a ha
    show (IntKind.u64.wrap ((BitVec.ofInt 64 (a : Int) &&& ~~~ (BitVec.ofInt 64 9223372036854775808)).toNat : Int)).toNat = _
    have e1 : ~~~ (BitVec.ofInt 64 9223372036854775808) = BitVec.ofNat 64 (2 ^ 63 - 1) := by decide
    rw [e1, BitVec.toNat_and, BitVec.ofInt_natCast, BitVec.toNat_ofNat, BitVec.toNat_ofNat]
    have e2 : (2 ^ 63 - 1) % 2 ^ 64 = 2 ^ 63 - 1 := by decide
    rw [e2, Nat.and_two_pow_sub_one_eq_mod]
    simp [IntKind.wrap, IntKind.bits, IntKind.signed]
    omega
  rw [key _ (by cases neg <;> simp [Format.word, sw] <;> omega)]
  cases neg
  · rw [word_false]; omega
  · rw [word_true]; omega

theorem read_opposite (neg : Bool) (r : Nat) (h : r < 9223372036854775808) : double.read (double.word (!neg) r) = (double.read (double.word neg r)).opposite := by
  rw [read_word _ r h, read_word _ r h]
  split
  · rfl
  · split
    · rfl
    · split <;> rfl

theorem read_max : double.read 9218868437227405311 = .number false 9007199254740991 971 := by
  have := read_word false 9218868437227405311 (by omega)
  simpa [Format.word] using this

theorem not_above_max (m : Nat) (i : Int) (hm : m ≤ 9007199254740991) (hi : i ≤ 971) : ((Datum.number false m i).order (.number false 9007199254740991 971) == some .gt) = false := by
  generalize hM : (9007199254740991 : Nat) = M at hm
  generalize hT : (971 : Int) = T at hi
  simp only [Datum.order, signed, Bool.false_eq_true, if_false]
  have e0 : min i T = i := by omega
  rw [e0]
  have e1 : (i - i).toNat = 0 := by omega
  rw [e1]
  have h : m <<< 0 ≤ M <<< (T - i).toNat := by
    rw [Nat.shiftLeft_zero, Nat.shiftLeft_eq]
    exact Nat.le_trans hm (Nat.le_mul_of_pos_right _ (Nat.two_pow_pos _))
  generalize m <<< 0 = A at h
  generalize M <<< (T - i).toNat = B at h
  have : ¬ compare (A : Int) (B : Int) = .gt := by rw [compare_gt]; omega
  cases hc : compare (A : Int) (B : Int)
  · rfl
  · rfl
  · exact (this hc).elim

/-- A word that is finite, by its rung. -/
theorem finB_word (neg : Bool) (r : Nat) (h : r < 9218868437227405312) : finB (double.word neg r) = true := by
  have hn : nanB (double.word neg r) = false := by
    unfold nanB
    have : double.order (double.word neg r) (double.word neg r) = some .eq := by
      refine order_self_of _ ?_
      rw [read_word neg r (by omega)]
      split
      · rfl
      · try rw [if_pos h]
        rfl
    show (double.order _ _ != some .eq) = false
    rw [this]; rfl
  have hi : infB (double.word neg r) = false := by
    unfold infB
    rw [fabs_word neg r (by omega)]
    show (double.order r 9218868437227405311 == some .gt) = false
    unfold Format.order
    rw [read_max]
    have := read_word false r (by omega)
    rw [word_false] at this
    rw [this]
    split
    · exact not_above_max _ _ (by omega) (by omega)
    · try rw [if_pos h]
      exact not_above_max _ _ (by omega) (by omega)
  simp [finB, hn, hi]

theorem rung_of_fin (neg : Bool) (r : Nat) (h : r < 9223372036854775808) (hf : finB (double.word neg r) = true) : r < 9218868437227405312 := by
  by_cases hr : r < 9218868437227405312
  · exact hr
  · exfalso
    have hrd := read_word neg r h
    rw [if_neg (by omega), if_neg hr] at hrd
    by_cases he : r = 9218868437227405312
    · have hi : infB (double.word neg r) = true := by
        unfold infB
        rw [fabs_word neg r h, he]
        show (double.order 9218868437227405312 9218868437227405311 == some .gt) = true
        unfold Format.order
        rw [read_max]
        have := read_word false 9218868437227405312 (by omega)
        rw [word_false] at this
        rw [this]
        rfl
      simp [finB, hi] at hf
    · rw [if_neg he] at hrd
      have hn : nanB (double.word neg r) = true := by
        unfold nanB
        show (double.order _ _ != some .eq) = true
        unfold Format.order
        rw [hrd]; rfl
      simp [finB, hn] at hf

/-- A finite word, read: a number of at most 53 digits, at a place from -1074 to 971. -/
theorem read_fin (neg : Bool) (r : Nat) (h : r < 9218868437227405312) : ∃ m i, double.read (double.word neg r) = .number neg m i ∧ m < 9007199254740992 ∧ -1074 ≤ i ∧ i ≤ 971 := by
  rw [read_word neg r (by omega)]
  split
  · exact ⟨_, _, rfl, by omega, by omega, by omega⟩
  · try rw [if_pos h]
    exact ⟨_, _, rfl, by omega, by omega, by omega⟩

/-- The place of the last digit that is kept, what is kept, and the rung to which a number is rounded. -/
def last (mag : Nat) (place : Int) : Int := max (place + mag.log2 - 52) (-1074)
def kept (mag : Nat) (place : Int) : Nat := Toward.even.cut false (mag <<< (place - last mag place).toNat) (last mag place - place).toNat
def rung (mag : Nat) (place : Int) : Nat := if mag = 0 then 0 else min ((last mag place + 1074).toNat * 4503599627370496 + kept mag place) 9218868437227405312

theorem nearest_eq (s : Bool) (mag : Nat) (place : Int) : double.nearest s mag place = double.word s (rung mag place) := by
  unfold Format.nearest rung
  split
  · rfl
  · rw [← ir, ← bn]
    have e : last mag place + 1074 = last mag place - double.leastPlace := by rw [lp]; omega
    rw [e]
    rfl

theorem rung_le (mag : Nat) (place : Int) : rung mag place ≤ 9218868437227405312 := by
  unfold rung
  split
  · omega
  · exact Nat.min_le_right _ _

theorem even_cut_le (s : Bool) (n d : Nat) : Toward.even.cut s n d ≤ n / 2 ^ min d (n.log2 + 2) + 1 := by
  unfold Toward.cut
  simp only [Nat.shiftLeft_eq, Nat.one_mul]
  have : ∀ b : Bool, b.toNat ≤ 1 := fun b => Bool.toNat_le b
  exact Nat.add_le_add_left (this _) _

/-- What is kept has at most 53 digits, or is 2^53. -/
theorem kept_le (mag : Nat) (place : Int) : kept mag place ≤ 9007199254740992 := by
  unfold kept
  have hl : place + mag.log2 - 52 ≤ last mag place := by unfold last; omega
  generalize last mag place = l at hl ⊢
  have h1 : mag < 2 ^ (mag.log2 + 1) := Nat.lt_log2_self
  refine Nat.le_trans (even_cut_le _ _ _) ?_
  rw [Nat.shiftLeft_eq]
  by_cases hp : l ≤ place
  · have e : (l - place).toNat = 0 := by omega
    rw [e, Nat.zero_min, Nat.pow_zero, Nat.div_one]
    have h3 : mag * 2 ^ (place - l).toNat < 2 ^ (mag.log2 + 1) * 2 ^ (place - l).toNat := (Nat.mul_lt_mul_right (Nat.two_pow_pos _)).2 h1
    rw [← Nat.pow_add] at h3
    have h4 : 2 ^ (mag.log2 + 1 + (place - l).toNat) ≤ 2 ^ 53 := Nat.pow_le_pow_right (by decide) (by omega)
    omega
  · have e : (place - l).toNat = 0 := by omega
    rw [e, Nat.pow_zero, Nat.mul_one]
    have h2 : mag.log2 + 1 ≤ 53 + (l - place).toNat := by omega
    rcases Nat.le_total (l - place).toNat (mag.log2 + 2) with hd | hd
    · rw [Nat.min_eq_left hd]
      have h3 : mag / 2 ^ (l - place).toNat < 2 ^ 53 := by
        refine (Nat.div_lt_iff_lt_mul (Nat.two_pow_pos _)).2 ?_
        rw [← Nat.pow_add]
        exact Nat.lt_of_lt_of_le h1 (Nat.pow_le_pow_right (by decide) h2)
      omega
    · rw [Nat.min_eq_right hd, Nat.div_eq_of_lt]
      · omega
      · exact Nat.lt_of_lt_of_le h1 (Nat.pow_le_pow_right (by decide) (by omega))

/-- A number whose first digit stands at the place 1022 at most is not rounded to infinity. -/
theorem rung_small (mag : Nat) (place : Int) (h : place + mag.log2 ≤ 1022) : rung mag place < 9218868437227405312 := by
  unfold rung
  split
  · omega
  · have hk := kept_le mag place
    have hl : last mag place ≤ 970 := by unfold last; omega
    omega

/-- What needs no rounding: 53 digits. -/
theorem kept_exact (m : Nat) (k : Nat) (hm : m < 9007199254740992) (h0 : 4503599627370496 ≤ m) (hk : k ≤ 971) : rung (m * 2 ^ k) 0 < 9218868437227405312 := by
  have hpos : m * 2 ^ k ≠ 0 := Nat.mul_ne_zero (by omega) (Nat.ne_of_gt (Nat.two_pow_pos _))
  have hlog : (m * 2 ^ k).log2 = 52 + k := by
    refine (Nat.log2_eq_iff hpos).2 ⟨?_, ?_⟩
    · rw [Nat.pow_add]; exact Nat.mul_le_mul_right _ (by omega)
    · rw [show 52 + k + 1 = 53 + k by omega, Nat.pow_add]; exact (Nat.mul_lt_mul_right (Nat.two_pow_pos _)).2 (by omega)
  have hl : last (m * 2 ^ k) 0 = k := by unfold last; rw [hlog]; omega
  have hkp : kept (m * 2 ^ k) 0 = m := by
    unfold kept
    rw [hl]
    have e1 : ((0 : Int) - k).toNat = 0 := by omega
    have e2 : ((k : Int) - 0).toNat = k := by omega
    rw [e1, e2]
    unfold Toward.cut
    simp only [Nat.shiftLeft_eq, Nat.pow_zero, Nat.mul_one, Nat.one_mul, hlog]
    rw [Nat.min_eq_left (by omega : k ≤ 52 + k + 2), Nat.mul_div_cancel _ (Nat.two_pow_pos _), Nat.mul_mod_left]
    have hp : 0 < 2 ^ k := Nat.two_pow_pos _
    have h1 : ¬ (2 ^ k < 2 * 0) := by omega
    have h2 : (2 ^ k == 2 * 0) = false := by simp
    simp [h2]
  unfold rung
  rw [if_neg hpos, hl, hkp]
  omega

/-- ROUNDED TO A WHOLE NUMBER, a finite word is finite. -/
theorem integral_fin (way : Toward) (s : Bool) (m : Nat) (i : Int) (hm : m < 9007199254740992) (hi : i ≤ 971) :
    ∃ M, (Datum.number s m i).integral way = .number s M 0 ∧ rung M 0 < 9218868437227405312 := by
  refine ⟨_, rfl, ?_⟩
  by_cases hp : 0 ≤ i
  · have e : (-i).toNat = 0 := by omega
    have hc : way.cut s (m <<< i.toNat) (-i).toNat = m * 2 ^ i.toNat := by
      rw [e, Nat.shiftLeft_eq]
      unfold Toward.cut
      simp only [Nat.zero_min, Nat.shiftLeft_eq, Nat.one_mul, Nat.pow_zero, Nat.div_one, Nat.mod_one]
      cases way <;> simp
    rw [hc]
    by_cases h0 : 4503599627370496 ≤ m
    · exact kept_exact m i.toNat hm h0 (by omega)
    · by_cases hz : m = 0
      · subst hz; unfold rung; simp
      · refine rung_small _ _ ?_
        have hlt : m * 2 ^ i.toNat < 2 ^ (52 + i.toNat) := by
          rw [Nat.pow_add]; exact (Nat.mul_lt_mul_right (Nat.two_pow_pos _)).2 (by omega)
        have : (m * 2 ^ i.toNat).log2 < 52 + i.toNat := (Nat.log2_lt (Nat.mul_ne_zero hz (Nat.ne_of_gt (Nat.two_pow_pos _)))).2 hlt
        omega
  · have e : i.toNat = 0 := by omega
    have hc : way.cut s (m <<< i.toNat) (-i).toNat ≤ m + 1 := by
      rw [e]
      unfold Toward.cut
      have : ∀ b : Bool, b.toNat ≤ 1 := fun b => Bool.toNat_le b
      refine Nat.add_le_add ?_ (this _)
      exact Nat.le_trans (Nat.div_le_self _ _) (by simp)
    generalize way.cut s (m <<< i.toNat) (-i).toNat = M at hc
    by_cases hz : M = 0
    · subst hz; unfold rung; simp
    · refine rung_small _ _ ?_
      have : M.log2 < 54 := (Nat.log2_lt hz).2 (by omega)
      omega

/-- Down of the number with the other sign is up, with the other sign. -/
theorem integral_turned (d : Datum) : d.opposite.integral .down = (d.integral .up).opposite := by
  cases d with
  | nan => rfl
  | infinity => rfl
  | number s m i =>
    simp only [Datum.opposite, Datum.integral, Toward.cut]
end Go.Proofs.Ytkagijlbmojbcaa.Fp

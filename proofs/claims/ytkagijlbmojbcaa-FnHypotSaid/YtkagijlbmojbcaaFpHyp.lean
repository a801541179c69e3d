/- The hypotenuse, plainly: what the operations make of two sides lies between the longer one and both together. No program is named. -/
import Derived.Test.YtkagijlbmojbcaaFpRat
namespace Go.Proofs.Ytkagijlbmojbcaa.Fp
open Ieee
set_option linter.unusedVariables false

theorem read_nat (r : Nat) (h : r < 9218868437227405312) : double.read r = .number false (mg r) (pl r) := read_mg false r h

theorem mul_eq (r q : Nat) (hr : r < 9218868437227405312) (hq : q < 9218868437227405312) : double.mul r q = some (rung (mg r * mg q) (pl r + pl q)) := by
  unfold Format.mul
  rw [read_nat r hr, read_nat q hq]
  simp only [Datum.product, Option.map_some, Format.write]
  rw [nearest_eq, Bool.xor_self, word_false]
theorem va_mul (m n : Nat) (i j : Int) : va (m * n) (i + j) = va m i * va n j := by
  unfold va
  rw [Rat.natCast_mul, tw_add]
  grind

/-- The sum's digits. -/
def sm (r q : Nat) : Nat := mg r * 2 ^ (pl r - min (pl r) (pl q)).toNat + mg q * 2 ^ (pl q - min (pl r) (pl q)).toNat
theorem add_eq (r q : Nat) (hr : r < 9218868437227405312) (hq : q < 9218868437227405312) : double.add r q = some (rung (sm r q) (min (pl r) (pl q))) := by
  unfold Format.add
  rw [read_nat r hr, read_nat q hq]
  simp only [Datum.sum, signed, Bool.false_eq_true, if_false, Option.map_some, Format.write, Nat.shiftLeft_eq]
  have e : ((mg r * 2 ^ (pl r - min (pl r) (pl q)).toNat : Nat) : Int) + ((mg q * 2 ^ (pl q - min (pl r) (pl q)).toNat : Nat) : Int) = (sm r q : Nat) := by unfold sm; omega
  rw [e, Int.natAbs_natCast]
  rw [nearest_eq]
  have e2 : (if ((sm r q : Nat) : Int) = 0 then (false && false) else decide (((sm r q : Nat) : Int) < 0)) = false := by
    split
    · rfl
    · simp
  rw [e2, word_false]
theorem va_sum (r q : Nat) : va (sm r q) (min (pl r) (pl q)) = vr r + vr q := by
  unfold sm vr
  have h1 := va_shift (mg r) (pl r - min (pl r) (pl q)).toNat (min (pl r) (pl q))
  have h2 := va_shift (mg q) (pl q - min (pl r) (pl q)).toNat (min (pl r) (pl q))
  rw [show min (pl r) (pl q) + ((pl r - min (pl r) (pl q)).toNat : Int) = pl r by omega] at h1
  rw [show min (pl r) (pl q) + ((pl q - min (pl r) (pl q)).toNat : Int) = pl q by omega] at h2
  rw [← h1, ← h2]
  unfold va
  rw [Rat.natCast_add]
  grind

/-- The quotient's digits and place. -/
def qd (s b : Nat) : Nat := 2 * (mg s * 2 ^ (54 + (mg b).log2 - (mg s).log2) / mg b) + (mg s * 2 ^ (54 + (mg b).log2 - (mg s).log2) % mg b != 0).toNat
def qp (s b : Nat) : Int := pl s - pl b - ((54 + (mg b).log2 - (mg s).log2 : Nat) : Int) - 1
theorem div_eq (s b : Nat) (hs : s < 9218868437227405312) (hb : b < 9218868437227405312) (h0 : mg b ≠ 0) : double.div s b = some (rung (qd s b) (qp s b)) := by
  unfold Format.div
  rw [read_nat s hs, read_nat b hb]
  simp only [Datum.quotient, if_neg h0, Option.map_some, Format.write, Nat.shiftLeft_eq]
  have hf : double.fractionBits + 2 = 54 := by decide
  rw [nearest_eq, Bool.xor_self, word_false, hf]
  unfold qd qp
  with_reducible rfl
theorem mg_lt (r : Nat) : mg r < 9007199254740992 := by unfold mg; split <;> omega

theorem quot_rat (Q n m W X Y Z E d : Rat) (q1 : Q * n ≤ 2 * (m * W) + n) (q2 : n * E ≤ m * W) (e1 : E * d = 1) (e2 : W * X * Y * 2 = Z) (hX : 0 < X * Y) (hd : 0 < d) (hn : 0 ≤ n) (hm : 0 ≤ m) :
    Q * X * (n * Y) ≤ m * Z * (1 + d) := by
  have r2 := Rat.mul_le_mul_of_nonneg_right q2 (Rat.le_of_lt hd)
  have e3 : n * E * d = n := by rw [Rat.mul_assoc, e1, Rat.mul_one]
  rw [e3] at r2
  have r1 := Rat.mul_le_mul_of_nonneg_right q1 (Rat.le_of_lt hX)
  have r3 := Rat.mul_le_mul_of_nonneg_right r2 (Rat.le_of_lt hX)
  have f0 := Rat.mul_nonneg hn (Rat.le_of_lt hX)
  subst e2
  clear q1 q2 e1 e3 hm hn hd hX r2
  grind
/-- The quotient is hardly too great. -/
theorem va_quot (s b : Nat) (h0 : mg b ≠ 0) (hs0 : mg s ≠ 0) : va (qd s b) (qp s b) * vr b ≤ vr s * (1 + (2 : Rat) ^ (-53 : Int)) := by
  have hml : (mg s).log2 < 53 := (Nat.log2_lt hs0).2 (mg_lt s)
  unfold vr qp
  have hn1 : mg b < 2 ^ ((mg b).log2 + 1) := Nat.lt_log2_self
  have hm1 : 2 ^ (mg s).log2 ≤ mg s := Nat.log2_self_le hs0
  have hmore : (54 + (mg b).log2 - (mg s).log2) + (mg s).log2 = 54 + (mg b).log2 := by omega
  have hD : 2 ^ (54 + (mg b).log2) ≤ mg s * 2 ^ (54 + (mg b).log2 - (mg s).log2) := by
    have e := Nat.pow_add 2 (54 + (mg b).log2 - (mg s).log2) (mg s).log2
    rw [hmore] at e
    rw [e, Nat.mul_comm]
    exact Nat.mul_le_mul_right _ hm1
  have hDn : mg b * 2 ^ 53 ≤ mg s * 2 ^ (54 + (mg b).log2 - (mg s).log2) := by
    refine Nat.le_trans ?_ hD
    rw [show 54 + (mg b).log2 = ((mg b).log2 + 1) + 53 by omega, Nat.pow_add]
    exact Nat.mul_le_mul_right _ (Nat.le_of_lt hn1)
  have hq : qd s b * mg b ≤ 2 * (mg s * 2 ^ (54 + (mg b).log2 - (mg s).log2)) + mg b := by
    unfold qd
    generalize mg s * 2 ^ (54 + (mg b).log2 - (mg s).log2) = D
    have h1 : D / mg b * mg b + D % mg b = D := by rw [Nat.mul_comm]; exact Nat.div_add_mod D (mg b)
    have h2 : (D % mg b != 0).toNat ≤ 1 := Bool.toNat_le _
    have h3 : (2 * (D / mg b) + (D % mg b != 0).toNat) * mg b = 2 * (D / mg b * mg b) + (D % mg b != 0).toNat * mg b := by
      rw [Nat.add_mul, Nat.mul_assoc]
    rw [h3]
    have h4 : (D % mg b != 0).toNat * mg b ≤ 1 * mg b := Nat.mul_le_mul_right _ h2
    omega
  generalize hmr : 54 + (mg b).log2 - (mg s).log2 = more at *
  generalize qd s b = Q at *
  generalize mg s = m at *
  generalize mg b = n at *
  generalize pl s = i at *
  generalize pl b = j at *
  -- in rationals
  have q1 : (Q : Rat) * (n : Rat) ≤ 2 * ((m : Rat) * ((2 ^ more : Nat) : Rat)) + (n : Rat) := by exact_mod_cast hq
  have q2 : (n : Rat) * ((2 ^ 53 : Nat) : Rat) ≤ (m : Rat) * ((2 ^ more : Nat) : Rat) := by exact_mod_cast hDn
  have e1 : ((2 ^ 53 : Nat) : Rat) * (2 : Rat) ^ (-53 : Int) = 1 := by rw [← tw_nat, ← tw_add]; rfl
  have e2 : ((2 ^ more : Nat) : Rat) * (2 : Rat) ^ (i - j - (more : Int) - 1) * 2 ^ j * 2 = 2 ^ i := by
    rw [← tw_nat, ← tw_add, ← tw_add]
    have := two_mul_tw ((more : Int) + (i - j - (more : Int) - 1) + j)
    rw [show (more : Int) + (i - j - (more : Int) - 1) + j + 1 = i by omega] at this
    rw [this, Rat.mul_comm]
  exact quot_rat _ _ _ _ _ _ _ _ _ q1 q2 e1 e2 (Rat.mul_pos (tw_pos _) (tw_pos _)) (tw_pos _) Rat.natCast_nonneg Rat.natCast_nonneg

/-! ### The root -/
/-- The digits are found one by one: at the end the greatest number whose square is not above n. -/
theorem rootFrom_spec (n : Nat) : ∀ (k r : Nat), r * r ≤ n → n < (r + 2 ^ k) * (r + 2 ^ k) → Datum.rootFrom n k r * Datum.rootFrom n k r ≤ n ∧ n < (Datum.rootFrom n k r + 1) * (Datum.rootFrom n k r + 1)
  | 0, r, h1, h2 => by simpa [Datum.rootFrom] using ⟨h1, h2⟩
  | k + 1, r, h1, h2 => by
    simp only [Datum.rootFrom, Nat.shiftLeft_eq, Nat.one_mul]
    have e : r + 2 ^ (k + 1) = r + 2 ^ k + 2 ^ k := by rw [Nat.pow_succ]; omega
    split
    · rename_i h
      exact rootFrom_spec n k _ h (by rw [← e]; exact h2)
    · rename_i h
      exact rootFrom_spec n k r h1 (by omega)

/-- The root's digits and place. -/
def rmore (r : Nat) : Nat := 108 - (mg r).log2 + ((pl r - ((108 - (mg r).log2 : Nat) : Int)) % 2).toNat
def rn (r : Nat) : Nat := mg r * 2 ^ rmore r
def rw_ (r : Nat) : Nat := Datum.rootFrom (rn r) ((rn r).log2 / 2 + 1) 0
def rd (r : Nat) : Nat := 2 * rw_ r + (rw_ r * rw_ r != rn r).toNat
def rp (r : Nat) : Int := (pl r - (rmore r : Int)) / 2 - 1
theorem sqrt_eq (r : Nat) (hr : r < 9218868437227405312) (h0 : mg r ≠ 0) : double.sqrt r = some (rung (rd r) (rp r)) := by
  unfold Format.sqrt
  rw [read_nat r hr]
  simp only [Datum.root, if_neg h0, Bool.false_eq_true, if_false, Option.map_some, Format.write, Nat.shiftLeft_eq]
  have hf : 2 * (double.fractionBits + 2) = 108 := by decide
  rw [nearest_eq, word_false, hf]
  unfold rd rp rw_ rn rmore
  with_reducible rfl
theorem rw_spec (r : Nat) (h0 : mg r ≠ 0) : rw_ r * rw_ r ≤ rn r ∧ rn r < (rw_ r + 1) * (rw_ r + 1) := by
  unfold rw_
  refine rootFrom_spec _ _ 0 (by omega) ?_
  have h1 : rn r < 2 ^ ((rn r).log2 + 1) := Nat.lt_log2_self
  rw [Nat.zero_add, ← Nat.pow_add]
  exact Nat.lt_of_lt_of_le h1 (Nat.pow_le_pow_right (by decide) (by omega))
/-- By value: the root's square is the number (a whole power of four apart). -/
theorem rn_val (r : Nat) : ∃ h : Int, pl r - (rmore r : Int) = 2 * h ∧ rp r = h - 1 ∧ vr r = (rn r : Rat) * ((2 : Rat) ^ h * 2 ^ h) := by
  have hev : (pl r - (rmore r : Int)) % 2 = 0 := by unfold rmore; omega
  refine ⟨(pl r - (rmore r : Int)) / 2, by omega, rfl, ?_⟩
  rw [← tw_add, show (pl r - (rmore r : Int)) / 2 + (pl r - (rmore r : Int)) / 2 = pl r - (rmore r : Int) by omega]
  have := va_shift (mg r) (rmore r) (pl r - (rmore r : Int))
  rw [show pl r - (rmore r : Int) + (rmore r : Int) = pl r by omega] at this
  unfold vr rn
  rw [← this]; rfl
theorem rw_big (r : Nat) (h0 : mg r ≠ 0) : 18014398509481984 ≤ rw_ r := by
  obtain ⟨_, h2⟩ := rw_spec r h0
  have hm1 : 2 ^ (mg r).log2 ≤ mg r := Nat.log2_self_le h0
  have hml : (mg r).log2 < 53 := (Nat.log2_lt h0).2 (mg_lt r)
  have hn : 2 ^ 108 ≤ rn r := by
    unfold rn
    have e : 2 ^ 108 ≤ 2 ^ ((mg r).log2 + rmore r) := Nat.pow_le_pow_right (by decide) (by unfold rmore; omega)
    rw [Nat.pow_add] at e
    exact Nat.le_trans e (Nat.mul_le_mul_right _ hm1)
  by_cases h : 18014398509481984 ≤ rw_ r
  · exact h
  · exfalso
    have h3 : (rw_ r + 1) * (rw_ r + 1) ≤ 18014398509481984 * 18014398509481984 := Nat.mul_le_mul (by omega) (by omega)
    have h4 : (18014398509481984 * 18014398509481984 : Nat) = 2 ^ 108 := by decide
    omega

/-- The root of what is at least 1 is at least 1. -/
theorem va_root_ge (r : Nat) (h0 : mg r ≠ 0) (h1 : 1 ≤ vr r) : 1 ≤ va (rd r) (rp r) := by
  obtain ⟨h, e1, e2, e3⟩ := rn_val r
  obtain ⟨s1, s2⟩ := rw_spec r h0
  have hbig := rw_big r h0
  -- the whole root, by value
  have hX : 1 ≤ (rw_ r : Rat) * (2 : Rat) ^ h := by
    by_cases hh : 0 ≤ h
    · have : (1 : Rat) ≤ 2 ^ h := by have := tw_le hh; simpa using this
      have hb : (1 : Rat) ≤ (rw_ r : Rat) := by exact_mod_cast (by omega : 1 ≤ rw_ r)
      have := Rat.mul_le_mul_of_nonneg_right hb (Rat.le_of_lt (tw_pos h))
      grind
    · have hk : 2 ^ (-h).toNat ≤ rw_ r := by
        have hsq : 2 ^ (-h).toNat * 2 ^ (-h).toNat ≤ rn r := by
          have q : ((2 ^ (-h).toNat : Nat) : Rat) * (2 : Rat) ^ h = 1 := by
            rw [← tw_nat, ← tw_add, show (((-h).toNat : Int) + h) = 0 by omega]; rfl
          have hp := tw_pos h
          rw [e3] at h1
          have : ((2 ^ (-h).toNat * 2 ^ (-h).toNat : Nat) : Rat) ≤ (rn r : Rat) := by
            rw [Rat.natCast_mul]
            refine Rat.le_of_mul_le_mul_right (c := (2 : Rat) ^ h * 2 ^ h) ?_ (Rat.mul_pos hp hp)
            generalize ((2 ^ (-h).toNat : Nat) : Rat) = A at *
            generalize (2 : Rat) ^ h = B at *
            have : A * A * (B * B) = 1 := by grind
            rw [this]; exact h1
          exact_mod_cast this
        by_cases hc : 2 ^ (-h).toNat ≤ rw_ r
        · exact hc
        · exfalso
          have : (rw_ r + 1) * (rw_ r + 1) ≤ 2 ^ (-h).toNat * 2 ^ (-h).toNat := Nat.mul_le_mul (by omega) (by omega)
          omega
      have q : ((2 ^ (-h).toNat : Nat) : Rat) * (2 : Rat) ^ h = 1 := by
        rw [← tw_nat, ← tw_add, show (((-h).toNat : Int) + h) = 0 by omega]; rfl
      have hk' : ((2 ^ (-h).toNat : Nat) : Rat) ≤ (rw_ r : Rat) := by exact_mod_cast hk
      have := Rat.mul_le_mul_of_nonneg_right hk' (Rat.le_of_lt (tw_pos h))
      grind
  unfold va
  rw [e2]
  have hd : 2 * rw_ r ≤ rd r := by unfold rd; omega
  have hd' : 2 * (rw_ r : Rat) ≤ (rd r : Rat) := by exact_mod_cast hd
  have e4 := two_mul_tw (h - 1)
  rw [show h - 1 + 1 = h by omega] at e4
  have hp := tw_pos (h - 1)
  generalize (2 : Rat) ^ (h - 1) = P at *
  have := Rat.mul_le_mul_of_nonneg_right hd' (Rat.le_of_lt hp)
  rw [e4] at hX
  grind
/-- The root's square is hardly too great: there is a true lower root. -/
theorem va_root_le (r : Nat) (h0 : mg r ≠ 0) : ∃ X : Rat, 0 ≤ X ∧ X * X ≤ vr r ∧ va (rd r) (rp r) ≤ X * (1 + (2 : Rat) ^ (-53 : Int)) := by
  obtain ⟨h, e1, e2, e3⟩ := rn_val r
  obtain ⟨s1, s2⟩ := rw_spec r h0
  have hbig := rw_big r h0
  have hp0 := tw_pos h
  refine ⟨(rw_ r : Rat) * 2 ^ h, Rat.mul_nonneg Rat.natCast_nonneg (Rat.le_of_lt hp0), ?_, ?_⟩
  · rw [e3]
    have q : (rw_ r : Rat) * (rw_ r : Rat) ≤ (rn r : Rat) := by exact_mod_cast s1
    have := Rat.mul_le_mul_of_nonneg_right q (Rat.le_of_lt (Rat.mul_pos hp0 hp0))
    grind
  · unfold va
    rw [e2]
    have hd : rd r ≤ 2 * rw_ r + 1 := by
      unfold rd
      have : (rw_ r * rw_ r != rn r).toNat ≤ 1 := Bool.toNat_le _
      omega
    have hd' : (rd r : Rat) ≤ 2 * (rw_ r : Rat) + 1 := by exact_mod_cast hd
    have hb' : ((18014398509481984 : Nat) : Rat) ≤ (rw_ r : Rat) := by exact_mod_cast hbig
    have e4 := two_mul_tw (h - 1)
    rw [show h - 1 + 1 = h by omega] at e4
    have hp := tw_pos (h - 1)
    have hp3 := tw_pos (-53)
    have e5 : ((18014398509481984 : Nat) : Rat) * (2 : Rat) ^ (-53 : Int) = 2 := by
      have : ((18014398509481984 : Nat) : Rat) = (2 : Rat) ^ ((54 : Nat) : Int) := by rw [tw_nat]
      rw [this, ← tw_add]; rfl
    rw [e4]
    generalize (2 : Rat) ^ (h - 1) = P at *
    generalize (2 : Rat) ^ (-53 : Int) = d at *
    generalize ((18014398509481984 : Nat) : Rat) = E at *
    generalize (rd r : Rat) = D at *
    generalize (rw_ r : Rat) = R at *
    clear hbig hd s1 s2 e1 e2 e3 hp0 h0
    have r1 := Rat.mul_le_mul_of_nonneg_right hd' (Rat.le_of_lt hp)
    have r2 := Rat.mul_le_mul_of_nonneg_right hb' (Rat.le_of_lt hp3)
    rw [e5] at r2
    have r3 := Rat.mul_le_mul_of_nonneg_right r2 (Rat.le_of_lt hp)
    grind
end Go.Proofs.Ytkagijlbmojbcaa.Fp

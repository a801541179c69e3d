/- The hypotenuse, plainly: not less than the longer side, not more than both together. No program is named. -/
import Derived.Test.YtkagijlbmojbcaaFpHyp
namespace Go.Proofs.Ytkagijlbmojbcaa.Fp
open Ieee
set_option linter.unusedVariables false

theorem vr_pow (e : Nat) (h : 1 ≤ e) : vr (e * 4503599627370496) = (2 : Rat) ^ ((e : Int) - 1023) := by
  have e1 : mg (e * 4503599627370496) = 4503599627370496 := by unfold mg; rw [if_neg (by omega)]; omega
  have e2 : pl (e * 4503599627370496) = (e : Int) - 1023 - 52 := by unfold pl; rw [if_neg (by omega)]; omega
  unfold vr va
  rw [e1, e2]
  have : ((4503599627370496 : Nat) : Rat) = (2 : Rat) ^ ((52 : Nat) : Int) := by rw [tw_nat]
  rw [this, ← tw_add]
  congr 1
  omega

def one : Nat := 4607182418800017408
theorem one_eq : one = 1023 * 4503599627370496 := by decide
theorem vr_one : vr one = 1 := by rw [one_eq, vr_pow 1023 (by omega)]; rfl
theorem one_fin : one < 9218868437227405312 := by decide

theorem rung_small_one : rung 18014398509481985 (-54) = one := by decide +kernel
theorem rung_root_one : rung (rd one) (rp one) = one := by decide +kernel
theorem mg_ne {r : Nat} (h : 0 < r) : mg r ≠ 0 := by unfold mg; split <;> omega
theorem vr_pos {r : Nat} (h : 0 < r) : 0 < vr r := va_pos (mg_ne h) _
theorem vr_nonneg (r : Nat) : 0 ≤ vr r := va_nonneg _ _

def h1 (s b : Nat) : Nat := rung (qd s b) (qp s b)
def h2 (s b : Nat) : Nat := rung (mg (h1 s b) * mg (h1 s b)) (pl (h1 s b) + pl (h1 s b))
def h3 (s b : Nat) : Nat := rung (sm (h2 s b) one) (min (pl (h2 s b)) (pl one))
def h4 (s b : Nat) : Nat := rung (rd (h3 s b)) (rp (h3 s b))
def h5 (s b : Nat) : Nat := rung (mg (h4 s b) * mg b) (pl (h4 s b) + pl b)

theorem fin_of {m : Nat} {i : Int} (e : Nat) (h1 : 1 ≤ e) (h2 : e ≤ 2000) (h : va m i ≤ (2 : Rat) ^ ((e : Int) - 1023)) : rung m i ≤ e * 4503599627370496 :=
  rung_le_of (by omega) (by rw [vr_pow e h1]; exact h)
theorem vr_le_pow {r : Nat} (e : Nat) (h1 : 1 ≤ e) (h2 : e ≤ 2000) (h : r ≤ e * 4503599627370496) : vr r ≤ (2 : Rat) ^ ((e : Int) - 1023) := by
  rw [← vr_pow e h1]; exact vr_mono (by omega) (by omega) h

theorem sq_le {a b : Rat} (ha : 0 ≤ a) (h : a ≤ b) : a * a ≤ b * b := by
  have h1 := Rat.mul_le_mul_of_nonneg_left h ha
  have h2 := Rat.mul_le_mul_of_nonneg_right h (Rat.le_trans ha h)
  exact Rat.le_trans h1 h2
theorem le_of_sq {a b : Rat} (hb : 0 ≤ b) (h : a * a ≤ b * b) : a ≤ b := by
  rcases Rat.le_total (a := a) (b := b) with h' | h'
  · exact h'
  · by_cases e : a = b
    · subst e; exact Rat.le_refl
    · exfalso
      have hlt : b < a := Rat.lt_of_le_of_ne h' (fun x => e x.symm)
      have ha : 0 < a := by grind
      have q1 := Rat.mul_lt_mul_of_pos_left hlt ha
      have q2 := Rat.mul_le_mul_of_nonneg_right h' hb
      grind

/-- The size of what is reckoned on the way. -/
theorem sizes (s b : Nat) (hb0 : 0 < b) (hsb : s ≤ b) (hb : b ≤ 1523 * 4503599627370496) :
    h1 s b ≤ 1024 * 4503599627370496 ∧ h2 s b ≤ 1025 * 4503599627370496 ∧ one ≤ h3 s b ∧ h3 s b ≤ 1026 * 4503599627370496 ∧ one ≤ h4 s b ∧ h4 s b ≤ 1026 * 4503599627370496 ∧ h5 s b ≤ 1526 * 4503599627370496 ∧ b ≤ h5 s b := by
  have hB := vr_pos hb0
  have hS : vr s ≤ vr b := vr_mono (by omega) (by omega) hsb
  have a1 : h1 s b ≤ 1024 * 4503599627370496 := by
    refine fin_of 1024 (by omega) (by omega) ?_
    by_cases h0 : mg s = 0
    · have : qd s b = 0 := by unfold qd; rw [h0]; simp
      rw [this, va_zero]
      exact Rat.le_of_lt (tw_pos _)
    · have q := va_quot s b (mg_ne hb0) h0
      refine Rat.le_of_mul_le_mul_right (c := vr b) ?_ hB
      have hd : (1 + (2 : Rat) ^ (-53 : Int)) ≤ 2 ^ (((1024 : Nat) : Int) - 1023) := by decide +kernel
      have hd0 : (0 : Rat) ≤ 1 + (2 : Rat) ^ (-53 : Int) := by have := tw_pos (-53); grind
      have q2 := Rat.mul_le_mul_of_nonneg_right hS hd0
      have q3 := Rat.mul_le_mul_of_nonneg_left hd (Rat.le_of_lt hB)
      rw [Rat.mul_comm (2 ^ (((1024 : Nat) : Int) - 1023))]
      exact Rat.le_trans q (Rat.le_trans q2 q3)
  have v1 := vr_le_pow 1024 (by omega) (by omega) a1
  have a2 : h2 s b ≤ 1025 * 4503599627370496 := by
    refine fin_of 1025 (by omega) (by omega) ?_
    rw [va_mul]
    have := sq_le (vr_nonneg (h1 s b)) v1
    have e : (2 : Rat) ^ (((1024 : Nat) : Int) - 1023) * 2 ^ (((1024 : Nat) : Int) - 1023) = 2 ^ (((1025 : Nat) : Int) - 1023) := by decide +kernel
    rw [e] at this
    exact this
  have v2 := vr_le_pow 1025 (by omega) (by omega) a2
  have s3 := va_sum (h2 s b) one
  have a3 : h3 s b ≤ 1026 * 4503599627370496 := by
    refine fin_of 1026 (by omega) (by omega) ?_
    rw [s3, vr_one]
    have e1 : (2 : Rat) ^ (((1025 : Nat) : Int) - 1023) = 4 := by decide +kernel
    have e2 : (2 : Rat) ^ (((1026 : Nat) : Int) - 1023) = 8 := by decide +kernel
    rw [e1] at v2
    rw [e2]
    grind
  have a3' : one ≤ h3 s b := by
    refine le_rung_of one_fin ?_
    rw [s3, vr_one]
    have := vr_nonneg (h2 s b)
    grind
  have hm3 : mg (h3 s b) ≠ 0 := mg_ne (Nat.lt_of_lt_of_le (by decide) a3')
  have v3 := vr_le_pow 1026 (by omega) (by omega) a3
  have v3' : 1 ≤ vr (h3 s b) := by rw [← vr_one]; exact vr_mono one_fin (by omega) a3'
  have a4 : h4 s b ≤ 1026 * 4503599627370496 := by
    refine fin_of 1026 (by omega) (by omega) ?_
    obtain ⟨X, x0, x1, x2⟩ := va_root_le (h3 s b) hm3
    have e2 : (2 : Rat) ^ (((1026 : Nat) : Int) - 1023) = 8 := by decide +kernel
    rw [e2] at v3 ⊢
    have x3 : X ≤ 4 := le_of_sq (by decide +kernel) (Rat.le_trans x1 (Rat.le_trans v3 (by decide +kernel)))
    have hd : (1 + (2 : Rat) ^ (-53 : Int)) ≤ 2 := by decide +kernel
    have q1 := Rat.mul_le_mul_of_nonneg_left hd x0
    grind
  have a4' : one ≤ h4 s b := by
    refine le_rung_of one_fin ?_
    rw [vr_one]
    exact va_root_ge _ hm3 v3'
  have v4 := vr_le_pow 1026 (by omega) (by omega) a4
  have v4' : 1 ≤ vr (h4 s b) := by rw [← vr_one]; exact vr_mono one_fin (by omega) a4'
  have vb := vr_le_pow 1523 (by omega) (by omega) hb
  refine ⟨a1, a2, a3', a3, a4', a4, ?_, ?_⟩
  · refine fin_of 1526 (by omega) (by omega) ?_
    rw [va_mul]
    have q1 := Rat.mul_le_mul_of_nonneg_right v4 (Rat.le_of_lt hB)
    have q2 := Rat.mul_le_mul_of_nonneg_left vb (Rat.le_of_lt (tw_pos (((1026 : Nat) : Int) - 1023)))
    have e : (2 : Rat) ^ (((1026 : Nat) : Int) - 1023) * 2 ^ (((1523 : Nat) : Int) - 1023) = 2 ^ (((1526 : Nat) : Int) - 1023) := by rw [← tw_add]; rfl
    rw [e] at q2
    exact Rat.le_trans q1 q2
  · refine le_rung_of (by omega) ?_
    rw [va_mul]
    have := Rat.mul_le_mul_of_nonneg_right v4' (Rat.le_of_lt hB)
    rw [Rat.one_mul] at this
    exact this

/-- The last step's reckoning, in rationals. -/
theorem final_rat (t V1 V2 V3 V4 X : Rat) (ht0 : 0 ≤ t) (ht1 : t ≤ 1) (htl : (2 : Rat) ^ (-28 : Int) ≤ t) (p1 : 0 ≤ V1) (p2 : 0 ≤ V2) (p4 : 0 ≤ V4) (x0 : 0 ≤ X)
    (b1 : V1 ≤ t * (1 + (2 : Rat) ^ (-50 : Int))) (b2 : V2 ≤ V1 * V1 * (1 + (2 : Rat) ^ (-50 : Int))) (b3 : V3 ≤ (V2 + 1) * (1 + (2 : Rat) ^ (-50 : Int))) (x1 : X * X ≤ V3) (b4 : V4 ≤ X * (1 + (2 : Rat) ^ (-50 : Int))) : V4 ≤ 1 + t := by
  obtain ⟨D, hD⟩ : ∃ D : Rat, D = 1 + (2 : Rat) ^ (-50 : Int) := ⟨_, rfl⟩
  rw [← hD] at b1 b2 b3 b4
  have d0 : 0 ≤ D := by rw [hD]; decide +kernel
  have n4 : D * D * D ≤ 1 + 4 * (2 : Rat) ^ (-50 : Int) := by rw [hD]; decide +kernel
  have n7 : D * D * D * D * D * D ≤ 1 + 8 * (2 : Rat) ^ (-50 : Int) := by rw [hD]; decide +kernel
  have n5 : 12 * (2 : Rat) ^ (-50 : Int) ≤ 2 * 2 ^ (-28 : Int) := by decide +kernel
  have hd0 : (0 : Rat) ≤ 2 ^ (-50 : Int) := Rat.le_of_lt (tw_pos _)
  clear hD
  generalize (2 : Rat) ^ (-50 : Int) = d at *
  generalize (2 : Rat) ^ (-28 : Int) = l at *
  refine le_of_sq (by grind) ?_
  have q4 := sq_le p4 b4
  have q1 := sq_le p1 b1
  have dd : 0 ≤ D * D := Rat.mul_nonneg d0 d0
  have ddd : 0 ≤ D * D * D := Rat.mul_nonneg dd d0
  have r1 := Rat.mul_le_mul_of_nonneg_right x1 dd
  have r3 := Rat.mul_le_mul_of_nonneg_right b3 dd
  have r2 := Rat.mul_le_mul_of_nonneg_right b2 ddd
  have r0 := Rat.mul_le_mul_of_nonneg_right q1 (Rat.mul_nonneg ddd d0)
  have tt0 : 0 ≤ t * t := Rat.mul_nonneg ht0 ht0
  have tt1 : t * t ≤ 1 := by have := sq_le ht0 ht1; rwa [Rat.one_mul] at this
  have m7 := Rat.mul_le_mul_of_nonneg_right n7 tt0
  have m8 := Rat.mul_le_mul_of_nonneg_right tt1 hd0
  grind

theorem log_ge {m : Nat} {i : Int} (h0 : m ≠ 0) (e : Int) (h : (2 : Rat) ^ e ≤ va m i) : e ≤ i + m.log2 := by
  have h2 := (va_log m i h0).2
  have : (2 : Rat) ^ e < 2 ^ (i + m.log2 + 1) := by grind
  have := le_of_tw_lt this
  omega

/-- NOT MORE THAN BOTH SIDES TOGETHER. -/
theorem upper (s b : Nat) (hb0 : 0 < b) (hsb : s ≤ b) (hb : b ≤ 1523 * 4503599627370496) : vr (h4 s b) * vr b ≤ vr b + vr s := by
  obtain ⟨a1, a2, a3, a3', a4, a4', a5, a6⟩ := sizes s b hb0 hsb hb
  have hB := vr_pos hb0
  have hS : vr s ≤ vr b := vr_mono (by omega) (by omega) hsb
  have hS0 := vr_nonneg s
  by_cases hc : h1 s b ≤ 996 * 4503599627370496
  · -- the quotient is so small that 1 is left
    have v1 := vr_le_pow 996 (by omega) (by omega) hc
    have c2 : h2 s b ≤ 969 * 4503599627370496 := by
      refine fin_of 969 (by omega) (by omega) ?_
      rw [va_mul]
      have := sq_le (vr_nonneg (h1 s b)) v1
      have e : (2 : Rat) ^ (((996 : Nat) : Int) - 1023) * 2 ^ (((996 : Nat) : Int) - 1023) = 2 ^ (((969 : Nat) : Int) - 1023) := by rw [← tw_add]; rfl
      rw [e] at this
      exact this
    have v2 := vr_le_pow 969 (by omega) (by omega) c2
    have c3 : h3 s b ≤ one := by
      rw [← rung_small_one]
      refine rung_mono ?_
      rw [va_sum, vr_one]
      have e : va 18014398509481985 (-54) = 1 + (2 : Rat) ^ (((969 : Nat) : Int) - 1023) := by decide +kernel
      rw [e]
      grind
    have e3 : h3 s b = one := by omega
    have e4 : h4 s b = one := by unfold h4; rw [e3]; exact rung_root_one
    rw [e4, vr_one, Rat.one_mul]
    grind
  · have hs0 : mg s ≠ 0 := by
      intro h0
      apply hc
      have : qd s b = 0 := by unfold qd; rw [h0]; simp
      unfold h1
      rw [this]
      unfold rung
      simp
    have hq0 : qd s b ≠ 0 := by
      intro h0
      apply hc
      unfold h1
      rw [h0]
      unfold rung
      simp
    have hva : (2 : Rat) ^ (-27 : Int) ≤ va (qd s b) (qp s b) := by
      rcases Rat.le_total (a := (2 : Rat) ^ (-27 : Int)) (b := va (qd s b) (qp s b)) with h | h
      · exact h
      · exact (hc (fin_of 996 (by omega) (by omega) h)).elim
    have q := va_quot s b (mg_ne hb0) hs0
    have g1 := log_ge hq0 (-27) hva
    have E1 : vr (h1 s b) ≤ va (qd s b) (qp s b) * (1 + (2 : Rat) ^ (-52 : Int)) := rung_err _ _ hq0 (by show h1 s b < _; omega) (by omega)
    have v1 : (2 : Rat) ^ (-27 : Int) ≤ vr (h1 s b) := by
      have e := vr_pow 996 (by omega)
      rw [show (((996 : Nat) : Int) - 1023) = -27 by omega] at e
      rw [← e]
      exact vr_mono (by omega) (by omega) (by omega)
    have hm1 : mg (h1 s b) ≠ 0 := mg_ne (by omega)
    have sq1 : (2 : Rat) ^ (-54 : Int) ≤ va (mg (h1 s b) * mg (h1 s b)) (pl (h1 s b) + pl (h1 s b)) := by
      rw [va_mul]
      have := sq_le (Rat.le_of_lt (tw_pos (-27))) v1
      rw [← tw_add] at this
      exact this
    have hm11 : mg (h1 s b) * mg (h1 s b) ≠ 0 := Nat.mul_ne_zero hm1 hm1
    have g2 := log_ge hm11 (-54) sq1
    have E2 : vr (h2 s b) ≤ va (mg (h1 s b) * mg (h1 s b)) (pl (h1 s b) + pl (h1 s b)) * (1 + (2 : Rat) ^ (-52 : Int)) := rung_err _ _ hm11 (by show h2 s b < _; omega) (by omega)
    rw [va_mul] at E2
    have v2 := vr_nonneg (h2 s b)
    have s3 := va_sum (h2 s b) one
    rw [vr_one] at s3
    have one3 : (2 : Rat) ^ (0 : Int) ≤ va (sm (h2 s b) one) (min (pl (h2 s b)) (pl one)) := by rw [s3]; show (1 : Rat) ≤ _; grind
    have hm3 : sm (h2 s b) one ≠ 0 := by
      intro h0
      rw [h0, va_zero] at one3
      exact (Rat.not_lt.2 one3) (tw_pos 0)
    have g3 := log_ge hm3 0 one3
    have E3 : vr (h3 s b) ≤ va (sm (h2 s b) one) (min (pl (h2 s b)) (pl one)) * (1 + (2 : Rat) ^ (-52 : Int)) := rung_err _ _ hm3 (by show h3 s b < _; omega) (by omega)
    rw [s3] at E3
    have hmg3 : mg (h3 s b) ≠ 0 := mg_ne (Nat.lt_of_lt_of_le (by decide) a3)
    have v3' : 1 ≤ vr (h3 s b) := by rw [← vr_one]; exact vr_mono one_fin (by omega) a3
    obtain ⟨X, x0, x1, x2⟩ := va_root_le (h3 s b) hmg3
    have one4 : (2 : Rat) ^ (0 : Int) ≤ va (rd (h3 s b)) (rp (h3 s b)) := va_root_ge _ hmg3 v3'
    have hm4 : rd (h3 s b) ≠ 0 := by
      intro h0
      rw [h0, va_zero] at one4
      exact (Rat.not_lt.2 one4) (tw_pos 0)
    have g4 := log_ge hm4 0 one4
    have E4 : vr (h4 s b) ≤ va (rd (h3 s b)) (rp (h3 s b)) * (1 + (2 : Rat) ^ (-52 : Int)) := rung_err _ _ hm4 (by show h4 s b < _; omega) (by omega)
    -- the quotient itself
    obtain ⟨t, ht⟩ : ∃ t : Rat, vr s = t * vr b := ⟨vr s * (vr b)⁻¹, by
      rw [Rat.mul_assoc, Rat.inv_mul_cancel _ (fun e => by rw [e] at hB; exact (Rat.not_lt.2 Rat.le_refl) hB), Rat.mul_one]⟩
    have t0 : 0 ≤ t := by
      refine Rat.le_of_mul_le_mul_right (c := vr b) ?_ hB
      rw [← ht, Rat.zero_mul]; exact hS0
    have t1 : t ≤ 1 := by
      refine Rat.le_of_mul_le_mul_right (c := vr b) ?_ hB
      rw [← ht, Rat.one_mul]; exact hS
    have k53 : (1 + (2 : Rat) ^ (-53 : Int)) * (1 + (2 : Rat) ^ (-52 : Int)) ≤ 1 + (2 : Rat) ^ (-50 : Int) := by decide +kernel
    have k52 : (1 + (2 : Rat) ^ (-52 : Int)) ≤ 1 + (2 : Rat) ^ (-50 : Int) := by decide +kernel
    have k52' : (0 : Rat) ≤ 1 + (2 : Rat) ^ (-52 : Int) := by decide +kernel
    have k2 : (2 : Rat) ^ (-28 : Int) * (1 + (2 : Rat) ^ (-50 : Int)) ≤ 2 ^ (-27 : Int) := by decide +kernel
    have k50 : (0 : Rat) < 1 + (2 : Rat) ^ (-50 : Int) := by decide +kernel
    have qt : va (qd s b) (qp s b) ≤ t * (1 + (2 : Rat) ^ (-53 : Int)) := by
      refine Rat.le_of_mul_le_mul_right (c := vr b) ?_ hB
      rw [ht] at q
      grind
    have B1 : vr (h1 s b) ≤ t * (1 + (2 : Rat) ^ (-50 : Int)) := by
      have := Rat.mul_le_mul_of_nonneg_right qt k52'
      have := Rat.mul_le_mul_of_nonneg_left k53 t0
      grind
    have tl : (2 : Rat) ^ (-28 : Int) ≤ t := by
      refine Rat.le_of_mul_le_mul_right (c := 1 + (2 : Rat) ^ (-50 : Int)) ?_ k50
      exact Rat.le_trans k2 (Rat.le_trans v1 B1)
    have B2 : vr (h2 s b) ≤ vr (h1 s b) * vr (h1 s b) * (1 + (2 : Rat) ^ (-50 : Int)) :=
      Rat.le_trans E2 (Rat.mul_le_mul_of_nonneg_left k52 (Rat.mul_nonneg (vr_nonneg _) (vr_nonneg _)))
    have B3 : vr (h3 s b) ≤ (vr (h2 s b) + 1) * (1 + (2 : Rat) ^ (-50 : Int)) :=
      Rat.le_trans E3 (Rat.mul_le_mul_of_nonneg_left k52 (by grind))
    have B4 : vr (h4 s b) ≤ X * (1 + (2 : Rat) ^ (-50 : Int)) := by
      have := Rat.mul_le_mul_of_nonneg_right x2 k52'
      have := Rat.mul_le_mul_of_nonneg_left k53 x0
      grind
    have hfin := final_rat t _ _ _ _ X t0 t1 tl (vr_nonneg (h1 s b)) v2 (vr_nonneg (h4 s b)) x0 B1 B2 B3 x1 B4
    have := Rat.mul_le_mul_of_nonneg_right hfin (Rat.le_of_lt hB)
    rw [ht]
    grind

/-- As rungs. -/
theorem upper_rung (s b : Nat) (hb0 : 0 < b) (hsb : s ≤ b) (hb : b ≤ 1523 * 4503599627370496) : h5 s b ≤ rung (sm b s) (min (pl b) (pl s)) ∧ h5 s b ≤ rung (sm s b) (min (pl s) (pl b)) := by
  have h := upper s b hb0 hsb hb
  constructor
  · unfold h5
    refine rung_mono ?_
    rw [va_mul, va_sum]
    exact h
  · unfold h5
    refine rung_mono ?_
    rw [va_mul, va_sum]
    have e : vr s + vr b = vr b + vr s := by grind
    rw [e]; exact h
end Go.Proofs.Ytkagijlbmojbcaa.Fp

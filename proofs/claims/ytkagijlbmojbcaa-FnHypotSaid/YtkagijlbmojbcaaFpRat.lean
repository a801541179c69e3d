/- Floats by value: rounding is monotone, exact where it need not round, and of small relative error. No program is named. -/
import Derived.Test.YtkagijlbmojbcaaFpMore
namespace Go.Proofs.Ytkagijlbmojbcaa.Fp
open Ieee
set_option linter.unusedVariables false

/-- 'mag * 2 ^ place'. -/
def va (mag : Nat) (place : Int) : Rat := (mag : Rat) * (2 : Rat) ^ place

theorem two_ne : (2 : Rat) ≠ 0 := by decide
theorem tw_pos (e : Int) : 0 < (2 : Rat) ^ e := Rat.zpow_pos (by decide)
theorem tw_add (a b : Int) : (2 : Rat) ^ (a + b) = 2 ^ a * 2 ^ b := Rat.zpow_add two_ne a b
theorem tw_nat (n : Nat) : (2 : Rat) ^ (n : Int) = ((2 ^ n : Nat) : Rat) := by
  rw [Rat.zpow_natCast]
  induction n with
  | zero => rfl
  | succ n ih => rw [Rat.pow_succ, ih, Nat.pow_succ, Rat.natCast_mul]; rfl
theorem va_nonneg (mag : Nat) (place : Int) : 0 ≤ va mag place := Rat.mul_nonneg (by exact_mod_cast Nat.zero_le mag) (Rat.le_of_lt (tw_pos _))
theorem va_shift (mag k : Nat) (place : Int) : va (mag * 2 ^ k) place = va mag (place + k) := by
  unfold va
  rw [Rat.natCast_mul, tw_add, ← tw_nat, Rat.mul_assoc, Rat.mul_comm (2 ^ (k : Int)) (2 ^ place)]
theorem tw_lt {a b : Int} (h : a < b) : (2 : Rat) ^ a < 2 ^ b := by
  have e : b = a + (b - a).toNat := by omega
  rw [e, tw_add, tw_nat]
  have h1 : 1 < 2 ^ (b - a).toNat := Nat.one_lt_two_pow (by omega)
  have h2 : (1 : Rat) < ((2 ^ (b - a).toNat : Nat) : Rat) := by exact_mod_cast h1
  have := Rat.mul_lt_mul_of_pos_left h2 (tw_pos a)
  rwa [Rat.mul_one] at this
theorem tw_le {a b : Int} (h : a ≤ b) : (2 : Rat) ^ a ≤ 2 ^ b := by
  rcases Int.lt_or_eq_of_le h with h | rfl
  · exact Rat.le_of_lt (tw_lt h)
  · exact Rat.le_refl
theorem le_of_tw_lt {a b : Int} (h : (2 : Rat) ^ a < 2 ^ b) : a < b := by
  by_cases h' : a < b
  · exact h'
  · exact (Rat.not_lt.2 (tw_le (by omega : b ≤ a)) h).elim

/-- Rounding to the nearest whole number, in whole numbers. -/
theorem cut_spec (n d : Nat) : 2 * (Toward.even.cut false n d * 2 ^ d) ≤ 2 * n + 2 ^ d ∧ 2 * n ≤ 2 * (Toward.even.cut false n d * 2 ^ d) + 2 ^ d ∧
    (2 * n = 2 * (Toward.even.cut false n d * 2 ^ d) + 2 ^ d → Toward.even.cut false n d % 2 = 0) ∧ (2 * (Toward.even.cut false n d * 2 ^ d) = 2 * n + 2 ^ d → Toward.even.cut false n d % 2 = 0) := by
  unfold Toward.cut
  simp only [Nat.shiftLeft_eq, Nat.one_mul]
  rcases Nat.le_total d (n.log2 + 2) with hd | hd
  · rw [Nat.min_eq_left hd]
    have hG : 0 < 2 ^ d := Nat.two_pow_pos d
    have hn : n / 2 ^ d * 2 ^ d + n % 2 ^ d = n := by rw [Nat.mul_comm]; exact Nat.div_add_mod n (2 ^ d)
    have hr : n % 2 ^ d < 2 ^ d := Nat.mod_lt _ hG
    generalize n / 2 ^ d = low at hn ⊢
    generalize n % 2 ^ d = rest at hn hr ⊢
    generalize 2 ^ d = G at hG hn hr ⊢
    have h1 : (low + 1) * G = low * G + G := Nat.succ_mul low G
    by_cases c1 : G < 2 * rest
    · simp only [c1, decide_true, Bool.true_or, Bool.toNat_true, h1]
      generalize low * G = A at *
      omega
    · by_cases c2 : G = 2 * rest
      · by_cases c3 : low % 2 = 1
        · have e : (decide (G < 2 * rest) || (G == 2 * rest && low % 2 == 1)) = true := by simp [c1, c3]; omega
          rw [e]
          simp only [Bool.toNat_true, h1]
          generalize low * G = A at *
          omega
        · have e : (decide (G < 2 * rest) || (G == 2 * rest && low % 2 == 1)) = false := by
            have : (low % 2 == 1) = false := by simpa using c3
            simp [c1, this]
          rw [e]
          simp only [Bool.toNat_false, Nat.add_zero]
          generalize low * G = A at *
          omega
      · have e : (decide (G < 2 * rest) || (G == 2 * rest && low % 2 == 1)) = false := by simp [c1, c2]
        rw [e]
        simp only [Bool.toNat_false, Nat.add_zero]
        generalize low * G = A at *
        omega
  · rw [Nat.min_eq_right hd]
    have h1 : n < 2 ^ (n.log2 + 1) := Nat.lt_log2_self
    have h2 : 2 ^ (n.log2 + 2) = 2 * 2 ^ (n.log2 + 1) := by rw [Nat.pow_succ 2 (n.log2 + 1), Nat.mul_comm]
    have h3 : 2 ^ (n.log2 + 2) ≤ 2 ^ d := Nat.pow_le_pow_right (by decide) hd
    rw [Nat.div_eq_of_lt (by omega), Nat.mod_eq_of_lt (by omega)]
    generalize 2 ^ (n.log2 + 1) = A at *
    rw [h2] at h3 ⊢
    have e : (decide (2 * A < 2 * n) || (2 * A == 2 * n && 0 % 2 == 1)) = false := by
      have : ¬ 2 * A < 2 * n := by omega
      simp [this]
    rw [e]
    simp
    omega

/-- What is kept, by value: T is what the last digit counts. -/
theorem kept_spec (mag : Nat) (place : Int) : ∃ T : Rat, T = (2 : Rat) ^ last mag place ∧ 0 < T ∧
    2 * ((kept mag place : Nat) : Rat) * T ≤ 2 * va mag place + T ∧ 2 * va mag place ≤ 2 * ((kept mag place : Nat) : Rat) * T + T ∧
    (2 * va mag place = 2 * ((kept mag place : Nat) : Rat) * T + T → kept mag place % 2 = 0) ∧ (2 * ((kept mag place : Nat) : Rat) * T = 2 * va mag place + T → kept mag place % 2 = 0) := by
  refine ⟨_, rfl, tw_pos _, ?_⟩
  have hk : kept mag place = Toward.even.cut false (mag * 2 ^ (place - last mag place).toNat) (last mag place - place).toNat := by
    unfold kept; rw [Nat.shiftLeft_eq]
  rw [hk]
  generalize last mag place = l
  obtain ⟨h1, h2, h3, h4⟩ := cut_spec (mag * 2 ^ (place - l).toNat) (l - place).toNat
  generalize Toward.even.cut false (mag * 2 ^ (place - l).toNat) (l - place).toNat = c at h1 h2 h3 h4 ⊢
  have hf : ∃ f : Int, va mag place = ((mag * 2 ^ (place - l).toNat : Nat) : Rat) * 2 ^ f ∧ (2 : Rat) ^ l = ((2 ^ (l - place).toNat : Nat) : Rat) * 2 ^ f := by
    rcases Int.le_total l place with h | h
    · refine ⟨l, ?_, ?_⟩
      · have := va_shift mag (place - l).toNat l
        rw [show l + ((place - l).toNat : Int) = place by omega] at this
        rw [← this]; rfl
      · rw [show (l - place).toNat = 0 by omega]; simp
    · refine ⟨place, ?_, ?_⟩
      · rw [show (place - l).toNat = 0 by omega]; simp [va]
      · rw [← tw_nat, ← tw_add]; congr 1; omega
  obtain ⟨f, hv, hT⟩ := hf
  rw [hv, hT]
  have hp := tw_pos f
  generalize mag * 2 ^ (place - l).toNat = n at h1 h2 h3 h4 ⊢
  generalize 2 ^ (l - place).toNat = G at h1 h2 h3 h4 ⊢
  have q1 : 2 * ((c : Rat) * (G : Rat)) ≤ 2 * (n : Rat) + (G : Rat) := by exact_mod_cast h1
  have q2 : 2 * (n : Rat) ≤ 2 * ((c : Rat) * (G : Rat)) + (G : Rat) := by exact_mod_cast h2
  generalize (2 : Rat) ^ f = P at hp ⊢
  have r1 := Rat.mul_le_mul_of_nonneg_right q1 (Rat.le_of_lt hp)
  have r2 := Rat.mul_le_mul_of_nonneg_right q2 (Rat.le_of_lt hp)
  refine ⟨by grind, by grind, fun e => h3 ?_, fun e => h4 ?_⟩
  · have e' : 2 * (n : Rat) * P = (2 * ((c : Rat) * (G : Rat)) + (G : Rat)) * P := by grind
    have : 2 * (n : Rat) = 2 * ((c : Rat) * (G : Rat)) + (G : Rat) := by
      have a1 : 2 * (n : Rat) ≤ 2 * ((c : Rat) * (G : Rat)) + (G : Rat) := q2
      have a2 : 2 * ((c : Rat) * (G : Rat)) + (G : Rat) ≤ 2 * (n : Rat) := Rat.le_of_mul_le_mul_right (by rw [e']; exact Rat.le_refl) hp
      grind
    exact_mod_cast this
  · have e' : 2 * ((c : Rat) * (G : Rat)) * P = (2 * (n : Rat) + (G : Rat)) * P := by grind
    have : 2 * ((c : Rat) * (G : Rat)) = 2 * (n : Rat) + (G : Rat) := by
      have a2 : 2 * (n : Rat) + (G : Rat) ≤ 2 * ((c : Rat) * (G : Rat)) := Rat.le_of_mul_le_mul_right (by rw [e']; exact Rat.le_refl) hp
      grind
    exact_mod_cast this

theorem two_mul_tw (a : Int) : (2 : Rat) ^ (a + 1) = 2 * 2 ^ a := by rw [tw_add]; simp [Rat.mul_comm]

/-- The first digit's place. -/
theorem va_log (mag : Nat) (place : Int) (h : mag ≠ 0) : (2 : Rat) ^ (place + mag.log2) ≤ va mag place ∧ va mag place < (2 : Rat) ^ (place + mag.log2 + 1) := by
  have h1 : 2 ^ mag.log2 ≤ mag := Nat.log2_self_le h
  have h2 : mag < 2 ^ (mag.log2 + 1) := Nat.lt_log2_self
  have q1 : ((2 ^ mag.log2 : Nat) : Rat) ≤ (mag : Rat) := by exact_mod_cast h1
  have q2 : (mag : Rat) < ((2 ^ (mag.log2 + 1) : Nat) : Rat) := by exact_mod_cast h2
  unfold va
  constructor
  · rw [tw_add, tw_nat, Rat.mul_comm]
    exact Rat.mul_le_mul_of_nonneg_right q1 (Rat.le_of_lt (tw_pos _))
  · rw [show place + (mag.log2 : Int) + 1 = place + ((mag.log2 + 1 : Nat) : Int) by omega, tw_add, tw_nat, Rat.mul_comm (2 ^ place)]
    exact Rat.mul_lt_mul_of_pos_right q2 (tw_pos _)

theorem va_zero (place : Int) : va 0 place = 0 := by simp [va]
theorem va_pos {mag : Nat} (h : mag ≠ 0) (place : Int) : 0 < va mag place := by
  have := (va_log mag place h).1
  have := tw_pos (place + mag.log2)
  grind

theorem log_mono {m n : Nat} {i j : Int} (hm : m ≠ 0) (hn : n ≠ 0) (h : va m i ≤ va n j) : i + m.log2 ≤ j + n.log2 := by
  have h1 := (va_log m i hm).1
  have h2 := (va_log n j hn).2
  have : (2 : Rat) ^ (i + m.log2) < 2 ^ (j + n.log2 + 1) := by grind
  have := le_of_tw_lt this
  omega

theorem kept_mono {m n : Nat} {i j : Int} (hl : last m i = last n j) (h : va m i ≤ va n j) : kept m i ≤ kept n j := by
  obtain ⟨T, hT, hp, a1, a2, a3, a4⟩ := kept_spec m i
  obtain ⟨T', hT', _, b1, b2, b3, b4⟩ := kept_spec n j
  rw [hl, ← hT'] at hT
  subst hT
  by_cases hle : kept m i ≤ kept n j
  · exact hle
  · exfalso
    generalize kept m i = k at *
    generalize kept n j = k' at *
    obtain ⟨t, rfl⟩ : ∃ t, k = k' + 1 + t := ⟨k - k' - 1, by omega⟩
    have e : ((k' + 1 + t : Nat) : Rat) = (k' : Rat) + 1 + (t : Rat) := by rw [Rat.natCast_add, Rat.natCast_add]; rfl
    rw [e] at a1 a2 a3 a4
    have ht : 0 ≤ (t : Rat) * T := Rat.mul_nonneg Rat.natCast_nonneg (Rat.le_of_lt hp)
    have e0 : (t : Rat) * T = 0 := by grind
    have ht0 : t = 0 := by
      rcases Nat.eq_zero_or_pos t with h | h
      · exact h
      · exfalso
        have : 0 < (t : Rat) * T := Rat.mul_pos (Rat.natCast_pos.2 h) hp
        grind
    subst ht0
    have p1 := b3 (by grind)
    have p2 := a4 (by grind)
    omega

theorem kept_ge (m : Nat) (i : Int) (hm : m ≠ 0) (hl : -1074 < last m i) : 4503599627370496 ≤ kept m i := by
  obtain ⟨T, hT, hp, a1, a2, -, -⟩ := kept_spec m i
  have h1 := (va_log m i hm).1
  have e : i + (m.log2 : Int) = last m i + (52 : Nat) := by unfold last at hl ⊢; omega
  rw [e, tw_add, ← hT, tw_nat] at h1
  by_cases hk : 4503599627370496 ≤ kept m i
  · exact hk
  · exfalso
    have hk' : kept m i + 1 ≤ 4503599627370496 := by omega
    have q : (((kept m i + 1 : Nat)) : Rat) ≤ ((4503599627370496 : Nat) : Rat) := by exact_mod_cast hk'
    rw [Rat.natCast_add] at q
    have q2 := Rat.mul_le_mul_of_nonneg_right q (Rat.le_of_lt hp)
    have e2 : ((2 ^ 52 : Nat) : Rat) = ((4503599627370496 : Nat) : Rat) := by rfl
    rw [e2] at h1
    generalize ((4503599627370496 : Nat) : Rat) = Q at *
    generalize ((kept m i : Nat) : Rat) = K at *
    have e1 : ((1 : Nat) : Rat) = 1 := rfl
    rw [e1] at q2
    grind

/-- ROUNDING IS MONOTONE. -/
theorem rung_mono {m n : Nat} {i j : Int} (h : va m i ≤ va n j) : rung m i ≤ rung n j := by
  by_cases hm : m = 0
  · subst hm; unfold rung; simp
  · have hn : n ≠ 0 := by
      intro e; subst e
      have := va_pos hm i
      rw [va_zero] at h
      grind
    have hlog := log_mono hm hn h
    have hl : last m i ≤ last n j := by unfold last; omega
    have hlo : -1074 ≤ last m i := by unfold last; omega
    unfold rung
    rw [if_neg hm, if_neg hn]
    have hk1 := kept_le m i
    have hmin : ∀ a b c : Nat, a ≤ b → min a c ≤ min b c := fun a b c h => by omega
    refine hmin _ _ _ ?_
    by_cases he : last m i = last n j
    · have := kept_mono he h
      rw [he]
      exact Nat.add_le_add_left this _
    · have hg := kept_ge n j hn (by omega)
      have ht : (last m i + 1074).toNat + 1 ≤ (last n j + 1074).toNat := by omega
      generalize (last m i + 1074).toNat = A at ht ⊢
      generalize (last n j + 1074).toNat = B at ht ⊢
      generalize kept m i = K at hk1 ⊢
      generalize kept n j = L at hg ⊢
      omega

/-- NO ROUNDING where there is nothing to round. -/
theorem kept_self (m : Nat) (i : Int) (hl : last m i = i) : kept m i = m := by
  obtain ⟨T, hT, hp, a1, a2, -, -⟩ := kept_spec m i
  rw [hl] at hT
  have hv : va m i = (m : Rat) * T := by rw [hT]; rfl
  rw [hv] at a1 a2
  have b1 : 2 * ((kept m i : Nat) : Rat) ≤ 2 * (m : Rat) + 1 := Rat.le_of_mul_le_mul_right (c := T) (by grind) hp
  have b2 : 2 * (m : Rat) ≤ 2 * ((kept m i : Nat) : Rat) + 1 := Rat.le_of_mul_le_mul_right (c := T) (by grind) hp
  have c1 : 2 * kept m i ≤ 2 * m + 1 := by exact_mod_cast b1
  have c2 : 2 * m ≤ 2 * kept m i + 1 := by exact_mod_cast b2
  omega

/-- A finite rung's number. -/
def mg (r : Nat) : Nat := if r < 4503599627370496 then r else 4503599627370496 + r % 4503599627370496
def pl (r : Nat) : Int := if r < 4503599627370496 then -1074 else -1074 + ((r / 4503599627370496 - 1 : Nat) : Int)
def vr (r : Nat) : Rat := va (mg r) (pl r)
theorem read_mg (neg : Bool) (r : Nat) (h : r < 9218868437227405312) : double.read (double.word neg r) = .number neg (mg r) (pl r) := by
  rw [read_word neg r (by omega)]
  unfold mg pl
  split
  · rfl
  · first
      | rfl
      | rw [if_pos h]
theorem rung_mg (r : Nat) (h : r < 9218868437227405312) : rung (mg r) (pl r) = r := by
  by_cases hr : r < 4503599627370496
  · have e1 : mg r = r := by unfold mg; rw [if_pos hr]
    have e2 : pl r = -1074 := by unfold pl; rw [if_pos hr]
    rw [e1, e2]
    by_cases h0 : r = 0
    · subst h0; unfold rung; simp
    · have hlog : r.log2 < 52 := (Nat.log2_lt h0).2 hr
      have hl : last r (-1074) = -1074 := by unfold last; omega
      have hk := kept_self r (-1074) hl
      unfold rung
      rw [if_neg h0, hl, hk]
      omega
  · have e1 : mg r = 4503599627370496 + r % 4503599627370496 := by unfold mg; rw [if_neg hr]
    have e2 : pl r = -1074 + ((r / 4503599627370496 - 1 : Nat) : Int) := by unfold pl; rw [if_neg hr]
    have h0 : mg r ≠ 0 := by omega
    have hlog : (mg r).log2 = 52 := (Nat.log2_eq_iff h0).2 ⟨by omega, by omega⟩
    have hl : last (mg r) (pl r) = pl r := by unfold last; rw [hlog]; omega
    have hk := kept_self _ _ hl
    unfold rung
    rw [if_neg h0, hl, hk]
    omega

theorem rung_le_of {m : Nat} {i : Int} {r : Nat} (hr : r < 9218868437227405312) (h : va m i ≤ vr r) : rung m i ≤ r := by
  have := rung_mono (m := m) (i := i) (n := mg r) (j := pl r) h
  rwa [rung_mg r hr] at this
theorem le_rung_of {m : Nat} {i : Int} {r : Nat} (hr : r < 9218868437227405312) (h : vr r ≤ va m i) : r ≤ rung m i := by
  have := rung_mono (m := mg r) (i := pl r) (n := m) (j := i) h
  rwa [rung_mg r hr] at this
theorem vr_mono {r q : Nat} (hr : r < 9218868437227405312) (hq : q < 9218868437227405312) (h : r ≤ q) : vr r ≤ vr q := by
  rcases Rat.le_total (a := vr r) (b := vr q) with h' | h'
  · exact h'
  · have := le_rung_of (m := mg r) (i := pl r) hq h'
    rw [rung_mg r hr] at this
    obtain rfl : r = q := by omega
    exact Rat.le_refl
theorem vr_le_iff {r q : Nat} (hr : r < 9218868437227405312) (hq : q < 9218868437227405312) : vr r ≤ vr q ↔ r ≤ q := by
  refine ⟨fun h => ?_, vr_mono hr hq⟩
  have := rung_le_of (m := mg r) (i := pl r) hq h
  rwa [rung_mg r hr] at this

/-- What it was rounded to, by value. -/
theorem vr_rung (m : Nat) (i : Int) (h0 : m ≠ 0) (h : rung m i < 9218868437227405312) : vr (rung m i) = ((kept m i : Nat) : Rat) * 2 ^ last m i := by
  have hk := kept_le m i
  have hge := kept_ge m i h0
  have hlo : -1074 ≤ last m i := by unfold last; omega
  have hr : rung m i = (last m i + 1074).toNat * 4503599627370496 + kept m i := by
    unfold rung at h ⊢
    rw [if_neg h0] at h ⊢
    omega
  rw [hr] at h ⊢
  generalize kept m i = k at *
  generalize last m i = l at *
  unfold vr
  by_cases c1 : k < 4503599627370496
  · have hl : l = -1074 := by
      by_cases e : l = -1074
      · exact e
      · have := hge (by omega); omega
    subst hl
    have e0 : ((-1074 : Int) + 1074).toNat * 4503599627370496 + k = k := by simp
    rw [e0]
    unfold mg pl
    rw [if_pos c1, if_pos c1]
    rfl
  · by_cases c2 : k < 9007199254740992
    · have e1 : mg ((l + 1074).toNat * 4503599627370496 + k) = k := by unfold mg; rw [if_neg (by omega)]; omega
      have e2 : pl ((l + 1074).toNat * 4503599627370496 + k) = l := by unfold pl; rw [if_neg (by omega)]; omega
      rw [e1, e2]
      rfl
    · obtain rfl : k = 9007199254740992 := by omega
      have e1 : mg ((l + 1074).toNat * 4503599627370496 + 9007199254740992) = 4503599627370496 := by unfold mg; rw [if_neg (by omega)]; omega
      have e2 : pl ((l + 1074).toNat * 4503599627370496 + 9007199254740992) = l + 1 := by unfold pl; rw [if_neg (by omega)]; omega
      rw [e1, e2]
      unfold va
      rw [two_mul_tw]
      have : ((9007199254740992 : Nat) : Rat) = ((4503599627370496 : Nat) : Rat) * 2 := by
        show (((4503599627370496 * 2 : Nat)) : Rat) = _
        rw [Rat.natCast_mul]; rfl
      rw [this]
      grind

/-- OF SMALL RELATIVE ERROR: at most one part in 2^52 too great. -/
theorem rung_err (m : Nat) (i : Int) (h0 : m ≠ 0) (h : rung m i < 9218868437227405312) (hn : -1022 ≤ i + m.log2) : vr (rung m i) ≤ va m i * (1 + (2 : Rat) ^ (-52 : Int)) := by
  rw [vr_rung m i h0 h]
  obtain ⟨T, hT, hp, a1, -, -, -⟩ := kept_spec m i
  rw [← hT]
  have h1 := (va_log m i h0).1
  have e : i + (m.log2 : Int) = last m i + 52 := by unfold last; omega
  rw [e, tw_add, ← hT] at h1
  have e3 : (2 : Rat) ^ (-52 : Int) * 2 ^ (52 : Int) = 1 := by rw [← tw_add]; rfl
  have hp2 := tw_pos (-52)
  generalize (2 : Rat) ^ (-52 : Int) = e52 at *
  have q := Rat.mul_le_mul_of_nonneg_right h1 (Rat.le_of_lt hp2)
  have q2 : T * 2 ^ (52 : Int) * e52 = T := by grind
  grind
end Go.Proofs.Ytkagijlbmojbcaa.Fp

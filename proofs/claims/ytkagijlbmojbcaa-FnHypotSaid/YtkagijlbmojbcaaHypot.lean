/- The hypotenuse of the program: the assembly's, the evaluator's, by contract. -/
import Derived.Test.YtkagijlbmojbcaaRows
import Derived.Test.YtkagijlbmojbcaaTimes
import Derived.Test.YtkagijlbmojbcaaFpMore
import Derived.Test.YtkagijlbmojbcaaFpOrd
import Derived.Laws.EntriesVeiled
import Derived.Test.YtkagijlbmojbcaaLawKit
namespace Go.Proofs.Ytkagijlbmojbcaa.hypot
open Go.ChangeShapes Go.WideShapes Go.ChangeAt Go.RowKit Go.Proofs.Ytkagijlbmojbcaa.fl Go.Proofs.Ytkagijlbmojbcaa.num Go.Proofs.Ytkagijlbmojbcaa Go.Proofs.Ytkagijlbmojbcaa.times Fp

theorem run_arith (op : BinOp) (x y r : Nat) (w : World) (h : (Op.floatArith op .f64 x y).run Try.prog w = .ok (.float .f64 r) w) : (Extern.MathAsm.arith op x y).run Try.prog w = .ok r w := by
  unfold Extern.MathAsm.arith
  simp only [Sem.run_bind, h, Result.andThen_ok, Sem.run_pure]
theorem run_mul (x y r : Nat) (w : World) (h : Ieee.double.mul x y = some r) : (Extern.MathAsm.mul x y).run Try.prog w = .ok r w :=
  run_arith _ _ _ _ _ (by unfold Op.floatArith; have h' : FloatKind.f64.format.mul x y = some r := h; simp [go_sem, h'])
theorem run_div (x y r : Nat) (w : World) (h : Ieee.double.div x y = some r) : (Extern.MathAsm.div x y).run Try.prog w = .ok r w :=
  run_arith _ _ _ _ _ (by unfold Op.floatArith; have h' : FloatKind.f64.format.div x y = some r := h; simp [go_sem, h'])
theorem run_add (x y r : Nat) (w : World) (h : Ieee.double.add x y = some r) : (Extern.MathAsm.add x y).run Try.prog w = .ok r w :=
  run_arith _ _ _ _ _ (by unfold Op.floatArith; have h' : FloatKind.f64.format.add x y = some r := h; simp [go_sem, h'])
theorem run_sqrt (x r : Nat) (w : World) (h : Ieee.double.sqrt x = some r) : (Extern.MathSqrt.sqrt #[.float .f64 x]).run Try.prog w = .ok (.float .f64 r) w := by
  have h' : FloatKind.f64.format.sqrt x = some r := h
  change Sem.run Try.prog (match FloatKind.f64.format.sqrt x with | some r => _ | none => _) w = _
  rw [h']
  rfl

theorem lt_eq (p q : Nat) (hp : p < 9218868437227405312) (hq : q < 9218868437227405312) : Extern.MathAsm.lt p q = decide (p < q) := by
  unfold Extern.MathAsm.lt
  have h : FloatKind.f64.format.order p q = some (compare p q) := ord p q hp hq
  rw [h]
  rcases Nat.lt_trichotomy p q with g | g | g
  · rw [nat_lt g, decide_eq_true g]; rfl
  · subst g; rw [nat_eq, decide_eq_false (by omega)]; rfl
  · rw [nat_gt g, decide_eq_false (by omega)]; rfl

/-- What the steps make of two sides, the lesser one and the greater one. -/
theorem run_steps (x y p q s b : Nat) (hx : x % 9223372036854775808 = p) (hy' : y % 9223372036854775808 = q)
    (c1 : (p == 9218868437227405312) = false) (c2 : (q == 9218868437227405312) = false) (c3 : ¬ p > 9218868437227405312) (c4 : ¬ q > 9218868437227405312)
    (c5 : (p == 0 && q == 0) = false) (hl : (if Extern.MathAsm.lt p q then (q, p) else (p, q)) = (b, s))
    (hb0 : 0 < b) (hsb : s ≤ b) (hb : b ≤ 1523 * 4503599627370496) (w : World) :
    (Extern.MathHypot.archHypot #[.float .f64 x, .float .f64 y]).run Try.prog w = .ok (.float .f64 (h5 s b)) w := by
  obtain ⟨a1, a2, a3, a3', a4, a4', a5, a6⟩ := sizes s b hb0 hsb hb
  have e1 : Ieee.double.div s b = some (h1 s b) := div_eq s b (by omega) (by omega) (mg_ne hb0)
  have e2 : Ieee.double.mul (h1 s b) (h1 s b) = some (h2 s b) := mul_eq _ _ (by omega) (by omega)
  have e3 : Ieee.double.add (h2 s b) Extern.MathAsm.one = some (h3 s b) := add_eq _ one (by omega) (by decide)
  have o0 : 0 < one := by decide
  have e4 : Ieee.double.sqrt (h3 s b) = some (h4 s b) := sqrt_eq _ (by omega) (mg_ne (by omega))
  have e5 : Ieee.double.mul (h4 s b) b = some (h5 s b) := mul_eq _ _ (by omega) (by omega)
  have e63 : (2 : Nat) ^ 63 = 9223372036854775808 := by decide
  have ei : Extern.MathAsm.posInf = 9218868437227405312 := rfl
  change Sem.run Try.prog (ite _ _ _) w = _
  simp only [e63, hx, hy', ei, c1, c2, Bool.or_false, c3, c4, c5, decide_false, Bool.false_eq_true, if_false, hl, Sem.run_bind, Result.andThen_ok, Sem.run_pure,
    run_div _ _ _ _ e1, run_mul _ _ _ _ e2, run_add _ _ _ _ e3, run_sqrt _ _ _ e4, run_mul _ _ _ _ e5]

theorem run_arch (x y p q : Nat) (hx : x % 9223372036854775808 = p) (hy' : y % 9223372036854775808 = q) (hp : p ≤ 1523 * 4503599627370496) (hq : q ≤ 1523 * 4503599627370496) (w : World) :
    (Extern.MathHypot.archHypot #[.float .f64 x, .float .f64 y]).run Try.prog w = .ok (.float .f64 (hy p q)) w := by
  have b1 : (p == 9218868437227405312) = false := by simp; omega
  have b2 : (q == 9218868437227405312) = false := by simp; omega
  unfold hy
  by_cases h0 : p = 0 ∧ q = 0
  · rw [if_pos h0]
    obtain ⟨rfl, rfl⟩ := h0
    have e63 : (2 : Nat) ^ 63 = 9223372036854775808 := by decide
    have ei : Extern.MathAsm.posInf = 9218868437227405312 := rfl
    change Sem.run Try.prog (ite _ _ _) w = _
    simp only [e63, hx, hy', ei]
    rfl
  · rw [if_neg h0]
    have hz : (p == 0 && q == 0) = false := by
      cases h : (p == 0 && q == 0)
      · rfl
      · simp at h; exact (h0 h).elim
    have hlt := lt_eq p q (by omega) (by omega)
    by_cases g : p < q
    · rw [if_pos g]
      exact run_steps x y p q p q hx hy' b1 b2 (by omega) (by omega) hz (by rw [hlt, decide_eq_true g]; rfl) (by omega) (by omega) hq w
    · rw [if_neg g]
      exact run_steps x y p q q p hx hy' b1 b2 (by omega) (by omega) hz (by rw [hlt, decide_eq_false g]; rfl) (by omega) (by omega) hp w

theorem arch_fn (x y p q : Nat) (hx : x % 9223372036854775808 = p) (hy' : y % 9223372036854775808 = q) (hp : p ≤ 1523 * 4503599627370496) (hq : q ≤ 1523 * 4503599627370496) (w : World) :
    (callFunc 65 #[.float .f64 x, .float .f64 y]).run Try.prog w = .ok (.value (.float .f64 (hy p q))) w := by
  rw [run_callFunc_extern (e := Extern.MathHypot.archHypot) Try.func65 (by kernel_rfl) (by kernel_rfl) (by kernel_rfl) (by kernel_rfl)]
  rw [run_arch x y p q hx hy' hp hq w]
  rfl

/-- math.Hypot of two such sides. -/
theorem hypot_fn (x y h : Nat) (ht : ∀ w, (callFunc 65 #[.float .f64 x, .float .f64 y]).run Try.prog w = .ok (.value (.float .f64 h)) w) (w : World) :
    Calls Try.prog 56 #[.float .f64 x, .float .f64 y] w fun e w' => e = .returned (.float .f64 h) ∧ w = w' := by
  go_enter Try.func56, Try.ntmps56
  go_wp2
  go_ret
  exact ⟨rfl, rfl⟩

theorem lift (w : World) :
    Calls Try.prog 45 #[] w fun e w' => e = .returned (.func (Fn.func 64) #[] #[.pointer (some ⟨w.heap.size, 0, none⟩)]) ∧ w.alloc (.cells #[.func (.func 56) #[] #[]] 79) = w' := by
  have hmf : ∀ (fn : Fn) (first cap : Array Value) (w : World), (Instr.makeFunc fn first cap).run Try.prog w = .ok (.func fn first cap) w := fun _ _ _ _ => rfl
  go_enter Try.func45, Try.ntmps45
  go_wp2
  go_ret
  exact ⟨rfl, rfl⟩

/-- Ldexp(1, 500). -/
theorem norm_one (w : World) : Calls Try.prog 42 #[.float .f64 4607182418800017408] w fun e w' => e = .returned (.tuple #[.float .f64 4607182418800017408, .int .i64 0]) ∧ w = w' := by
  have ha : fabs 4607182418800017408 = 4607182418800017408 := by decide +kernel
  have h1 := abs_any 4607182418800017408
  rw [ha] at h1
  go_enter Try.func42, Try.ntmps42
  go_wp2_with (go_at_call 18; refine (h1 _).mono ?_; rintro e w' ⟨rfl, rfl⟩)
  go_ret2
  exact ⟨rfl, rfl⟩
theorem ldexp_most (w : World) : Calls Try.prog 28 #[.float .f64 4607182418800017408, .int .i64 500] w fun e w' => e = .returned (.float .f64 6858982232485265408) ∧ w = w' := by
  have hi : infB 4607182418800017408 = false := by decide +kernel
  have hn : nanB 4607182418800017408 = false := by decide +kernel
  have c1 := inf_any 4607182418800017408
  have c2 := nan_any 4607182418800017408
  rw [hi] at c1
  rw [hn] at c2
  have h1 := run_bits 4607182418800017408
  have h2 := run_frombits
  clear hi hn
  have e1 : wrap64 (bits .and .i64 1023 2047 - 1023) = 0 := by decide +kernel
  have e2 : (FloatKind.f64.format.order 4607182418800017408 0 == some .eq) = false := by decide +kernel
  have e3 : wrap64 500 = 500 := by decide +kernel
  have e4 : bits BinOp.or IntKind.u64 (bits BinOp.andNot IntKind.u64 4607182418800017408 9218868437227405312) 6858982232485265408 = 6858982232485265408 := by decide +kernel
  have hm : ∀ w, (binOp .mul 22 (.float .f64 4607182418800017408) (.float .f64 6858982232485265408)).run Try.prog w = .ok (.float .f64 6858982232485265408) w := fun w => run_float_arith w .mul 22 .f64 _ _ _ (by decide +kernel)
  go_enter Try.func28, Try.ntmps28
  go_wp2_with (first | (go_at_call 34; refine (c1 _).mono ?_; rintro e w' ⟨rfl, rfl⟩) | (go_at_call 33; refine (c2 _).mono ?_; rintro e w' ⟨rfl, rfl⟩) | (go_at_call 42; refine (norm_one _).mono ?_; rintro e w' ⟨rfl, rfl⟩))
  go_ret
  exact ⟨rfl, rfl⟩
theorem most (w : World) : Calls Try.prog 16 #[.float .f64 4607182418800017408, .int .i64 500] w fun e w' => e = .returned (.float .f64 6858982232485265408) ∧ w = w' := by
  go_enter Try.func16, Try.ntmps16
  go_wp2_with (go_at_call 28; refine (ldexp_most _).mono ?_; rintro e w' ⟨rfl, rfl⟩)
  go_ret
  exact ⟨rfl, rfl⟩

set_option maxHeartbeats 800000 in
theorem clo_ok (b b1 b2 fb x y h : Nat) (w : World) (hF : ∀ w, Calls Try.prog 56 #[.float .f64 x, .float .f64 y] w fun e w' => e = .returned (.float .f64 h) ∧ w = w') (hf : finB h = true)
    (k1 : w.cell? ⟨b1, 0, none⟩ = some (.float .f64 x)) (k3 : w.cell? ⟨b2, 0, none⟩ = some (.float .f64 y)) (k2 : w.cell? ⟨fb, 0, none⟩ = some (.func (.func 56) #[] #[])) :
    Calls Try.prog 64 #[.pointer (some ⟨b, 0, none⟩), .iface 87 (.pointer (some ⟨b1, 0, none⟩)), .iface 87 (.pointer (some ⟨b2, 0, none⟩)), .pointer (some ⟨fb, 0, none⟩)] w fun e w' => e = .returned (.tuple #[.iface 87 (.pointer (some ⟨w.heap.size, 0, none⟩)), .nilIface]) ∧ w.drew.alloc (.cells #[.float .f64 h] 86) = w' := by
  have F := Lib.hid hf
  have HF := Lib.hid hF
  have S1 : Hid (∀ w', Below w.heap.size w w' → w'.cell? ⟨b1, 0, none⟩ = some (.float .f64 x) ∧ w'.cell? ⟨b2, 0, none⟩ = some (.float .f64 y) ∧ w'.cell? ⟨fb, 0, none⟩ = some (.func (.func 56) #[] #[])) :=
    fun w' hb => ⟨cell_later hb k1, cell_later hb k3, cell_later hb k2⟩
  have S3 : Hid (∀ o, Below w.heap.size w (w.drew.alloc o)) := fun o => (Below.refl _ _).drew.alloc (by simp) o
  clear hf hF
  go_enter Try.func64, Try.ntmps64
  go_wp2_with ((go_at_call 46; refine (get_any _ _ _).mono ?_; rintro e w' ⟨rfl, rfl⟩))
  go_region_held3 (fun w' => w'.cell? ⟨b1, 0, none⟩ = some (.float .f64 x) ∧ w'.cell? ⟨b2, 0, none⟩ = some (.float .f64 y) ∧ w'.cell? ⟨fb, 0, none⟩ = some (.func (.func 56) #[] #[]))
    (first | exact S1.out _ ((Below.refl _ _).drew) | exact S1.out _ (S3.out _))
    (first | (go_at_call 56; refine (HF.out _).mono ?_; rintro e w' ⟨rfl, rfl⟩) | (go_at_call 51; refine (dc_ok _ _ _ F.out).mono ?_; rintro e w' ⟨rfl, rfl⟩))
  go_wp2
  go_ret2
  exact ⟨rfl, rfl⟩

/-- The world in which the closure is called. -/
def HW (w : World) (x y : Nat) : World := (((w.alloc (.cells #[.func (.func 56) #[] #[]] 79)).alloc zeroI).alloc (.cells #[.float .f64 x] 86)).alloc (.cells #[.float .f64 y] 86)
theorem hw_below (w : World) (x y : Nat) : Below w.heap.size w (HW w x y) := ((((Below.refl _ _).alloc (Nat.le_refl _) _).alloc (by simp) _).alloc (by simp; omega) _).alloc (by simp; omega) _
theorem hw_x (w : World) (x y : Nat) : (HW w x y).cell? ⟨w.heap.size + 1 + 1, 0, none⟩ = some (.float .f64 x) := by simp [HW, go_sem]
theorem hw_y (w : World) (x y : Nat) : (HW w x y).cell? ⟨w.heap.size + 1 + 1 + 1, 0, none⟩ = some (.float .f64 y) := by simp [HW, go_sem]
theorem hw_f (w : World) (x y : Nat) : (HW w x y).cell? ⟨w.heap.size, 0, none⟩ = some (.func (.func 56) #[] #[]) := by simp [HW, zeroI, go_sem]

theorem part_ok (x y h : Nat) (w : World) (hF : ∀ w, Calls Try.prog 56 #[.float .f64 x, .float .f64 y] w fun e w' => e = .returned (.float .f64 h) ∧ w = w') (hf : finB h = true) :
    Calls Try.prog 29 #[.float .f64 x, .float .f64 y] w fun e w' => e = .returned (.tuple #[.float .f64 h, .nilIface]) ∧ Below w.heap.size w w' := by
  have HC := Lib.hid (clo_ok (w.heap.size + 1) (w.heap.size + 1 + 1) (w.heap.size + 1 + 1 + 1) w.heap.size x y h (HW w x y) hF hf (hw_x w x y) (hw_y w x y) (hw_f w x y))
  have HB := Lib.hid (hw_below w x y)
  clear hF hf
  go_enter Try.func29, Try.ntmps29
  go_wp2_with (first | (go_at_call 37; refine (num_any _ _).mono ?_; rintro e w' ⟨rfl, rfl⟩) | (go_at_call 45; refine (lift _).mono ?_; rintro e w' ⟨rfl, rfl⟩))
  refine HC.out.mono ?_
  rintro e w' ⟨rfl, rfl⟩
  generalize HW w x y = W at HB ⊢
  clear HC
  go_wp2_with (go_at_call 35; refine (numOf_ok h _ _ (by simp [go_sem])).mono ?_; rintro e w' ⟨rfl, rfl⟩)
  go_ret2
  exact ⟨rfl, HB.out.drew.alloc HB.out.drew.size _⟩

theorem num_ok (x y h : Nat) (w : World) (hF : ∀ w, Calls Try.prog 56 #[.float .f64 x, .float .f64 y] w fun e w' => e = .returned (.float .f64 h) ∧ w = w') (hf : finB h = true) :
    Calls Try.prog 17 #[.float .f64 x, .float .f64 y] w fun e w' => e = .returned (.tuple #[.float .f64 h, .bool true]) ∧ Below w.heap.size w w' := by
  have HC := Lib.hid (part_ok x y h w hF hf)
  clear hF hf
  go_enter Try.func17, Try.ntmps17
  go_wp2_with fail
  refine HC.out.mono ?_
  rintro e W ⟨rfl, hb⟩
  have HB := Lib.hid hb
  clear hb
  go_wp2_with (go_at_call 21; refine (number_ok h _).mono ?_; rintro e w' ⟨rfl, rfl⟩)
  go_ret2
  exact ⟨rfl, HB.out⟩

/-- The door, of two words whose rungs are not above the bound. -/
theorem num_hy (s t : Bool) (p q : Nat) (hp : p ≤ 1523 * 4503599627370496) (hq : q ≤ 1523 * 4503599627370496) (w : World) :
    Calls Try.prog 17 #[.float .f64 (Ieee.double.word s p), .float .f64 (Ieee.double.word t q)] w fun e w' => e = .returned (.tuple #[.float .f64 (hy p q), .bool true]) ∧ Below w.heap.size w w' := by
  have e : ∀ (s : Bool) (p : Nat), p ≤ 1523 * 4503599627370496 → Ieee.double.word s p % 9223372036854775808 = p := by
    intro s p h
    cases s
    · rw [word_false]; omega
    · rw [word_true]; omega
  refine num_ok _ _ _ w (hypot_fn _ _ _ (arch_fn _ _ p q (e s p hp) (e t q hq) hp hq)) ?_
  have := (hy_law p q hp hq).2.2.2
  have h := finB_word false (hy p q) (by omega)
  rwa [word_false] at h

/-- The law's walk, of sides that are not both between the bounds. -/
theorem walk_out (x y m : Nat) (g1 g2 g3 g4 : Bool) (w : World) (hm : Op.negFloat .f64 6858982232485265408 = m)
    (c1 : (FloatKind.f64.format.order x m == some .gt || FloatKind.f64.format.order x m == some .eq) = g1) (c2 : (FloatKind.f64.format.order x 6858982232485265408 == some .lt || FloatKind.f64.format.order x 6858982232485265408 == some .eq) = g2)
    (c3 : (FloatKind.f64.format.order y m == some .gt || FloatKind.f64.format.order y m == some .eq) = g3) (c4 : (FloatKind.f64.format.order y 6858982232485265408 == some .lt || FloatKind.f64.format.order y 6858982232485265408 == some .eq) = g4)
    (hg : (g1 && g2 && g3 && g4) = false) :
    Calls Try.prog 7 #[.float .f64 x, .float .f64 y] w fun e w' => e = .returned (.bool true) ∧ Below w.heap.size w w' := by
  have hng : ∀ b w, (Op.unary .neg (.float .f64 b)).run Try.prog w = .ok (.float .f64 (Op.negFloat .f64 b)) w := fun _ _ => rfl
  have HM := most
  cases g1 <;> cases g2 <;> cases g3 <;> cases g4
  all_goals try (exact absurd hg (by decide))
  all_goals
    clear hg
    go_enter Try.func7, Try.ntmps7
    go_wp2_with (go_at_call 16; refine (HM _).mono ?_; rintro e w' ⟨rfl, rfl⟩)
    go_ret
    exact ⟨rfl, Below.refl _ _⟩

set_option maxHeartbeats 1600000 in
/-- The law's walk, of sides between the bounds. -/
theorem walk_in (x y z n m p q r : Nat) (w : World) (hz : Op.negFloat .f64 x = z) (hm : Op.negFloat .f64 6858982232485265408 = m)
    (c1 : (FloatKind.f64.format.order x m == some .gt || FloatKind.f64.format.order x m == some .eq) = true) (c2 : (FloatKind.f64.format.order x 6858982232485265408 == some .lt || FloatKind.f64.format.order x 6858982232485265408 == some .eq) = true)
    (c3 : (FloatKind.f64.format.order y m == some .gt || FloatKind.f64.format.order y m == some .eq) = true) (c4 : (FloatKind.f64.format.order y 6858982232485265408 == some .lt || FloatKind.f64.format.order y 6858982232485265408 == some .eq) = true)
    (d1 : ∀ w, Calls Try.prog 17 #[.float .f64 x, .float .f64 y] w fun e w' => e = .returned (.tuple #[.float .f64 n, .bool true]) ∧ Below w.heap.size w w')
    (d2 : ∀ w, Calls Try.prog 17 #[.float .f64 y, .float .f64 x] w fun e w' => e = .returned (.tuple #[.float .f64 n, .bool true]) ∧ Below w.heap.size w w')
    (d3 : ∀ w, Calls Try.prog 17 #[.float .f64 z, .float .f64 y] w fun e w' => e = .returned (.tuple #[.float .f64 n, .bool true]) ∧ Below w.heap.size w w')
    (a1 : ∀ w, Calls Try.prog 18 #[.float .f64 x] w fun e w' => e = .returned (.float .f64 p) ∧ w = w')
    (a2 : ∀ w, Calls Try.prog 18 #[.float .f64 y] w fun e w' => e = .returned (.float .f64 q) ∧ w = w')
    (o1 : (FloatKind.f64.format.order n n == some .eq) = true)
    (o2 : (FloatKind.f64.format.order n p == some .gt || FloatKind.f64.format.order n p == some .eq) = true)
    (o3 : (FloatKind.f64.format.order n q == some .gt || FloatKind.f64.format.order n q == some .eq) = true)
    (hs : ∀ w, (binOp .add 22 (.float .f64 p) (.float .f64 q)).run Try.prog w = .ok (.float .f64 r) w)
    (o4 : (FloatKind.f64.format.order n r == some .lt || FloatKind.f64.format.order n r == some .eq) = true) :
    Calls Try.prog 7 #[.float .f64 x, .float .f64 y] w fun e w' => e = .returned (.bool true) ∧ Below w.heap.size w w' := by
  have hng : ∀ b w, (Op.unary .neg (.float .f64 b)).run Try.prog w = .ok (.float .f64 (Op.negFloat .f64 b)) w := fun _ _ => rfl
  have HM := most
  have D1 := Lib.hid d1
  have D2 := Lib.hid d2
  have D3 := Lib.hid d3
  have A1 := Lib.hid a1
  have A2 := Lib.hid a2
  clear d1 d2 d3 a1 a2
  go_enter Try.func7, Try.ntmps7
  go_wp2_with (go_at_call 16; refine (HM _).mono ?_; rintro e w' ⟨rfl, rfl⟩)
  refine (D1.out _).mono ?_
  rintro e w1 ⟨rfl, hb⟩
  have B1 := Lib.hid hb
  clear hb
  go_wp2_with fail
  refine (D2.out _).mono ?_
  rintro e w2 ⟨rfl, hb⟩
  have B2 := Lib.hid (B1.out.trans (hb.mono B1.out.size))
  clear hb B1
  go_wp2_with fail
  refine (D3.out _).mono ?_
  rintro e w3 ⟨rfl, hb⟩
  have B3 := Lib.hid (B2.out.trans (hb.mono B2.out.size))
  clear hb B2
  go_wp2_with (first | (go_at_call 18; refine (A1.out _).mono ?_; rintro e w' ⟨rfl, rfl⟩) | (go_at_call 18; refine (A2.out _).mono ?_; rintro e w' ⟨rfl, rfl⟩))
  go_ret
  exact ⟨rfl, B3.out⟩

theorem ge_of {n p : Nat} (hn : n < 9218868437227405312) (hp : p < 9218868437227405312) (h : p ≤ n) : (FloatKind.f64.format.order n p == some .gt || FloatKind.f64.format.order n p == some .eq) = true := by
  have e : FloatKind.f64.format.order n p = some (compare n p) := ord n p hn hp
  rw [e]
  rcases Nat.lt_or_ge p n with g | g
  · rw [nat_gt g]; rfl
  · have : n = p := by omega
    subst this; rw [nat_eq]; rfl
theorem le_of {n p : Nat} (hn : n < 9218868437227405312) (hp : p < 9218868437227405312) (h : n ≤ p) : (FloatKind.f64.format.order n p == some .lt || FloatKind.f64.format.order n p == some .eq) = true := by
  have e : FloatKind.f64.format.order n p = some (compare n p) := ord n p hn hp
  rw [e]
  rcases Nat.lt_or_ge n p with g | g
  · rw [nat_lt g]; rfl
  · have : n = p := by omega
    subst this; rw [nat_eq]; rfl
theorem or_of {o : Option Ordering} {a b : Ordering} (h : (o == some a || o == some b) = true) : o = some a ∨ o = some b := by
  simpa using h

theorem walk (x y : Nat) (hx : x < 18446744073709551616) (hy0 : y < 18446744073709551616) (w : World) :
    Calls Try.prog 7 #[.float .f64 x, .float .f64 y] w fun e w' => e = .returned (.bool true) ∧ Below w.heap.size w w' := by
  have hm : Op.negFloat .f64 6858982232485265408 = Ieee.double.word true 6858982232485265408 := neg_word false 6858982232485265408 (by omega)
  cases hg : ((FloatKind.f64.format.order x (Ieee.double.word true 6858982232485265408) == some .gt || FloatKind.f64.format.order x (Ieee.double.word true 6858982232485265408) == some .eq) && (FloatKind.f64.format.order x 6858982232485265408 == some .lt || FloatKind.f64.format.order x 6858982232485265408 == some .eq) && (FloatKind.f64.format.order y (Ieee.double.word true 6858982232485265408) == some .gt || FloatKind.f64.format.order y (Ieee.double.word true 6858982232485265408) == some .eq) && (FloatKind.f64.format.order y 6858982232485265408 == some .lt || FloatKind.f64.format.order y 6858982232485265408 == some .eq))
  · exact walk_out x y _ _ _ _ _ w hm rfl rfl rfl rfl hg
  · rw [Bool.and_eq_true, Bool.and_eq_true, Bool.and_eq_true] at hg
    obtain ⟨⟨⟨c1, c2⟩, c3⟩, c4⟩ := hg
    obtain ⟨s, p, hp, rfl⟩ := read_split x hx
    obtain ⟨t, q, hq, rfl⟩ := read_split y hy0
    have bp : p ≤ 6858982232485265408 := between s p _ hp (by omega) (or_of c1) (or_of c2)
    have bq : q ≤ 6858982232485265408 := between t q _ hq (by omega) (or_of c3) (or_of c4)
    obtain ⟨l1, l2, l3, l4⟩ := hy_law p q bp bq
    have sf := sum_fin p q bp bq
    refine walk_in _ _ _ (hy p q) _ p q (rung (sm p q) (min (pl p) (pl q))) w (neg_word s p hp) hm c1 c2 c3 c4 (num_hy s t p q bp bq) ?_ (num_hy (!s) t p q bp bq) ?_ ?_ ?_ ?_ ?_ ?_ ?_
    · rw [hy_comm p q]; exact num_hy t s q p bq bp
    · have := abs_any (Ieee.double.word s p); rwa [fabs_word s p hp] at this
    · have := abs_any (Ieee.double.word t q); rwa [fabs_word t q hq] at this
    · have e : FloatKind.f64.format.order (hy p q) (hy p q) = some (compare (hy p q) (hy p q)) := ord _ _ (by omega) (by omega)
      rw [e, nat_eq]; rfl
    · exact ge_of (by omega) (by omega) l1
    · exact ge_of (by omega) (by omega) l2
    · exact fun w => run_float_arith w .add 22 .f64 p q _ (add_eq p q (by omega) (by omega))
    · exact le_of (by omega) (by omega) l3

set_option maxRecDepth 100000 in
theorem lifted (os : Os) (started : os.Started) (H : Type) (enc : TypeId × Value → H) :
    ReturnsInHanded {} Try.checked os 7 .any (Rows.fnHypotSpec.pre6 enc Try.prog Try.f7 [] false) (Rows.fnHypotSpec.post enc Try.prog Try.f7 false true false false) := by
  refine LawKit.law_lifted (C := Try.checked) own started (by kernel_rfl) Try.func7
    (ChangeSpec.witness6 (enc := enc) (C := Try.checked) false ⟨#[], #[.float .f64 0, .float .f64 0], []⟩ 8 (by kernel_rfl) (by kernel_rfl) (by kernel_rfl) (by kernel_rfl))
    laidOut (by kernel_rfl) rfl (by kernel_rfl) Try.underlying4 ?_ ?_
  · intro ds hl
    have hl' : ds.length = 2 := hl
    obtain ⟨a, b, rfl⟩ : ∃ a b, ds = [a, b] := by
      match ds, hl' with
      | [a, b], _ => exact ⟨a, b, rfl⟩
    exact ⟨rfl, rfl, rfl⟩
  · intro W base args ds before hval0 hA0 _ _
    have hval : ∀ (j : Nat) t v, Try.f7.params[j]? = some t → args[j]? = some v → Value.okWide Try.prog W .any base t v := hval0
    have hA : DataW.TrodAll enc Try.prog W 0 (fun _ => true) true Try.f7.params.toList args.toList ds before := hA0
    rw [Try.params7] at hA hval
    obtain ⟨v0, v1, d0, d1, p0, p1, rfl, rfl, rfl, h0, h1⟩ := trodAll_two hA
    obtain ⟨x, rfl, rfl, rfl, hx⟩ := open_float Try.underlying22 (hval 0 22 v0 rfl rfl) h0
    obtain ⟨y, rfl, rfl, rfl, hy⟩ := open_float Try.underlying22 (hval 1 22 v1 rfl rfl) h1
    have hx' : x < 18446744073709551616 := by simpa [Lit.wf, FloatKind.format, Ieee.Format.width, Ieee.double] using hx
    have hy' : y < 18446744073709551616 := by simpa [Lit.wf, FloatKind.format, Ieee.Format.width, Ieee.double] using hy
    exact walk x y hx' hy' W

theorem holds : Rows.FnHypotSaid :=
  OpenClaim.holds_of_wide 7 Try.f7 rfl rfl rfl rfl rfl rfl rfl ⟨rfl, rfl, rfl, rfl, rfl⟩ rfl rfl rfl rfl rfl (by kernel_rfl) Try.func7 (by kernel_rfl)
    (of_decide_eq_true (by kernel_rfl)) (by unfold Func.isWrapper; first | (rw [if_pos (by decide +kernel)]; kernel_rfl) | (rw [if_neg (by decide +kernel)]; exact ⟨rfl, rfl⟩))
    (fun os started H enc _ => lifted os started H enc)

end Go.Proofs.Ytkagijlbmojbcaa.hypot

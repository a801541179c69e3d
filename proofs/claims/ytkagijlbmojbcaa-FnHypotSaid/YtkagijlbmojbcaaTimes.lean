/- FnNumTimes: x * y is the product of two doubles; an error if it is not finite. For all doubles, without a condition. -/
import Derived.Test.YtkagijlbmojbcaaRows
import Derived.Test.YtkagijlbmojbcaaLawKit
import Derived.Test.YtkagijlbmojbcaaMult
namespace Go.Proofs.Ytkagijlbmojbcaa.times
open Go.ChangeShapes Go.WideShapes Go.ChangeAt Go.RowKit Go.Proofs.Ytkagijlbmojbcaa.fl Go.Proofs.Ytkagijlbmojbcaa.num Go.Proofs.Ytkagijlbmojbcaa

theorem own : ownKnob Try.prog.godebug = none := by kernel_rfl
theorem laidOut : laidOutB Try.prog = true := by kernel_rfl

/-- The world in which the operation is called: the interpreter and two numbers laid. -/
def zeroI : Obj := .cells #[.nilIface, .map none, .map none, .pointer none, .pointer none, .pointer none, .pointer none, .slice none 0 0, .int .i64 0, .int .i64 0, .nilFunc, .nilFunc] 71
def ErrPost2 (w : World) (e : Ending) (w' : World) : Prop := ∃ v, e = .returned (.tuple #[.float .f64 0, .iface 99 v]) ∧ Below w.heap.size w w'
def W3 (w : World) (x y : Nat) : World := ((w.alloc zeroI).alloc (.cells #[.float .f64 x] 86)).alloc (.cells #[.float .f64 y] 86)
theorem W3_below (w : World) (x y : Nat) : Below w.heap.size w (W3 w x y) := (((Below.refl _ _).alloc (Nat.le_refl _) _).alloc (by simp) _).alloc (by simp; omega) _
theorem W3_size (w : World) (x y : Nat) : (W3 w x y).heap.size = w.heap.size + 3 := by simp [W3]
theorem W3_7 (w : World) (x y : Nat) : (W3 w x y).cell? ⟨w.heap.size, 7, none⟩ = some (.slice none 0 0) := by simp [W3, zeroI, go_sem]
theorem W3_5 (w : World) (x y : Nat) : (W3 w x y).cell? ⟨w.heap.size, 5, none⟩ = some (.pointer none) := by simp [W3, zeroI, go_sem]
theorem W3_x (w : World) (x y : Nat) : (W3 w x y).cell? ⟨w.heap.size + 1, 0, none⟩ = some (.float .f64 x) := by simp [W3, go_sem]
theorem W3_y (w : World) (x y : Nat) : (W3 w x y).cell? ⟨w.heap.size + 1 + 1, 0, none⟩ = some (.float .f64 y) := by simp [W3, go_sem]

set_option maxHeartbeats 400000 in
theorem part_ok (x y r : Nat) (w : World) (hr : FloatKind.f64.format.mul x y = some r) (hf : finB r = true) :
    Calls Try.prog 24 #[.float .f64 x, .float .f64 y] w fun e w' => e = .returned (.tuple #[.float .f64 r, .nilIface]) ∧ Below w.heap.size w w' := by
  have C := fun W => mult_ok w.heap.size (w.heap.size + 1) (w.heap.size + 1 + 1) x y r (W3 W x y) hr hf
  have HC := Lib.hid C
  clear C hr hf
  go_enter Try.func24, Try.ntmps24
  go_wp2_with (go_at_call 37; refine (num_any _ _).mono ?_; rintro e w' ⟨rfl, rfl⟩)
  refine (HC.out w (W3_x w x y) (W3_y w x y)).mono ?_
  rintro e w' ⟨rfl, rfl⟩
  rw [W3_size]
  have hb := W3_below w x y
  have hs := W3_size w x y
  generalize W3 w x y = W at hb hs ⊢
  have HB := Lib.hid hb
  have HS := Lib.hid hs
  clear hb hs
  have hz : w.heap.size + 3 = W.heap.size := HS.out.symm
  rw [hz]
  clear hz
  go_wp2_with (go_at_call 35; refine (numOf_ok r _ _ (by simp [go_sem])).mono ?_; rintro e w' ⟨rfl, rfl⟩)
  go_ret2
  exact ⟨rfl, (HB.out.alloc (by rw [HS.out]; omega) _).drew⟩

set_option maxHeartbeats 400000 in
theorem part_err (x y : Nat) (w : World) (r : World → Nat) (d : World → World) (hd : ∀ w, d w = w ∨ d w = w.drew) (hr : ∀ w, (binOp .mul 22 (.float .f64 x) (.float .f64 y)).run Try.prog w = .ok (.float .f64 (r w)) (d w)) (hf : ∀ w, finB (r w) = false) :
    Calls Try.prog 24 #[.float .f64 x, .float .f64 y] w fun e w' => ∃ v, e = .returned (.tuple #[.float .f64 0, .iface 99 v]) ∧ Below w.heap.size w w' := by
  have C := fun W => mult_err w.heap.size (w.heap.size + 1) (w.heap.size + 1 + 1) x y (W3 W x y) r d hd hr hf
  have HC := Lib.hid C
  clear C hr hf hd
  suffices h : Calls Try.prog 24 #[.float .f64 x, .float .f64 y] w (fun e w' => ErrPost2 w e w') from h
  go_enter Try.func24, Try.ntmps24
  go_wp2_with (go_at_call 37; refine (num_any _ _).mono ?_; rintro e w' ⟨rfl, rfl⟩)
  refine (HC.out w (W3_x w x y) (W3_y w x y) (W3_7 w x y) (W3_5 w x y)).mono ?_
  rintro e W ⟨v, rfl, hb⟩
  have HB := Lib.hid ((W3_below w x y).trans (hb.mono (by rw [W3_size]; omega)))
  clear hb
  go_wp2_with (go_at_call 35; refine (numOf_err 99 v _).mono ?_; rintro e w' ⟨rfl, rfl⟩)
  go_ret2
  exact ⟨v, rfl, HB.out⟩

theorem times_ok (x y r : Nat) (w : World) (hr : FloatKind.f64.format.mul x y = some r) (hf : finB r = true) :
    Calls Try.prog 12 #[.float .f64 x, .float .f64 y] w fun e w' => e = .returned (.tuple #[.float .f64 r, .bool true]) ∧ Below w.heap.size w w' := by
  have C := part_ok x y r
  have HC := Lib.hid (fun W => C W hr hf)
  clear C hr hf
  go_enter Try.func12, Try.ntmps12
  go_wp2_with fail
  refine (HC.out w).mono ?_
  rintro e W ⟨rfl, hb⟩
  have HB := Lib.hid hb
  clear hb
  go_wp2_with (go_at_call 21; refine (number_ok r _).mono ?_; rintro e w' ⟨rfl, rfl⟩)
  go_ret2
  exact ⟨rfl, HB.out⟩
theorem times_err (x y : Nat) (w : World) (r : World → Nat) (d : World → World) (hd : ∀ w, d w = w ∨ d w = w.drew) (hr : ∀ w, (binOp .mul 22 (.float .f64 x) (.float .f64 y)).run Try.prog w = .ok (.float .f64 (r w)) (d w)) (hf : ∀ w, finB (r w) = false) :
    Calls Try.prog 12 #[.float .f64 x, .float .f64 y] w fun e w' => e = .returned (.tuple #[.float .f64 0, .bool false]) ∧ Below w.heap.size w w' := by
  have HC := Lib.hid (fun W => part_err x y W r d hd hr hf)
  clear hr hf hd
  go_enter Try.func12, Try.ntmps12
  go_wp2_with fail
  refine (HC.out w).mono ?_
  rintro e W ⟨v, rfl, hb⟩
  have HB := Lib.hid hb
  clear hb
  go_wp2_with (go_at_call 21; refine (number_err 0 99 v _).mono ?_; rintro e w' ⟨rfl, rfl⟩)
  go_ret2
  exact ⟨rfl, HB.out⟩

theorem is_fin (o want : Nat) (ok q : Bool) (w : World) (hw : finB want = true) (ho : (FloatKind.f64.format.order o want == some .eq) = q) :
    Calls Try.prog 13 #[.float .f64 o, .bool ok, .float .f64 want] w fun e w' => e = .returned (.bool (ok && q)) ∧ w = w' := by
  have c := finite_any want
  rw [hw] at c
  have HC := Lib.hid c
  clear c hw
  cases ok
  all_goals
    go_enter Try.func13, Try.ntmps13
    go_wp2_with (go_at_call 20; refine (HC.out _).mono ?_; rintro e w' ⟨rfl, rfl⟩)
    go_ret
    exact ⟨rfl, rfl⟩
theorem is_not (o want : Nat) (ok : Bool) (w : World) (hw : finB want = false) :
    Calls Try.prog 13 #[.float .f64 o, .bool ok, .float .f64 want] w fun e w' => e = .returned (.bool !ok) ∧ w = w' := by
  have c := finite_any want
  rw [hw] at c
  have HC := Lib.hid c
  clear c hw
  go_enter Try.func13, Try.ntmps13
  go_wp2_with (go_at_call 20; refine (HC.out _).mono ?_; rintro e w' ⟨rfl, rfl⟩)
  go_ret
  exact ⟨rfl, rfl⟩

/-- Whatever NaN the tape gives: it is not finite. -/
def nanOf (x y : Nat) (w : World) : Nat := (Question.nanBits .f64 x y).cut (w.tape w.drawn (.nanBits .f64 x y))
theorem read_nan (a : Nat) (h : 9218868437227405312 < a % 9223372036854775808) : ∃ s t, Ieee.double.read a = .nan s t := by
  unfold Ieee.Format.read
  have e1 : Ieee.double.signWeight = 9223372036854775808 := by decide
  have e2 : Ieee.double.binade = 4503599627370496 := by decide
  have e3 : Ieee.double.infRung = 9218868437227405312 := by decide
  simp only [e1, e2, e3]
  rw [if_neg (by omega), if_neg (by omega), if_neg (by omega)]
  exact ⟨_, _, rfl⟩
theorem nan_notfin (x y : Nat) (w : World) : finB (nanOf x y w) = false := by
  obtain ⟨s, t, h⟩ := read_nan (nanOf x y w) (by
    unfold nanOf
    simp only [Question.cut]
    generalize w.tape w.drawn (Question.nanBits FloatKind.f64 x y) = t
    have hm : t / 2 % (2 ^ 52 - 1) < 2 ^ 52 - 1 := Nat.mod_lt _ (by decide)
    generalize t / 2 % (2 ^ 52 - 1) = m at hm ⊢
    rcases Nat.mod_two_eq_zero_or_one t with h | h <;> rw [h] <;> omega)
  have hn : nanB (nanOf x y w) = true := by
    unfold nanB
    show (Ieee.double.order _ _ != some .eq) = true
    unfold Ieee.Format.order
    rw [h]
    rfl
  simp [finB, hn]
theorem run_nan (x y : Nat) (h : FloatKind.f64.format.mul x y = none) (w : World) : (binOp .mul 22 (.float .f64 x) (.float .f64 y)).run Try.prog w = .ok (.float .f64 (nanOf x y w)) w.drew := by
  simp [binOp, Op.floatArith, h, nanOf, Question.forced]

def mulR (x y : Nat) : World → Nat := fun w => match FloatKind.f64.format.mul x y with | some r => r | none => nanOf x y w
def mulD (x y : Nat) : World → World := fun w => match FloatKind.f64.format.mul x y with | some _ => w | none => w.drew
theorem mul_run (x y : Nat) (w : World) : (binOp .mul 22 (.float .f64 x) (.float .f64 y)).run Try.prog w = .ok (.float .f64 (mulR x y w)) (mulD x y w) := by
  unfold mulR mulD
  cases h : FloatKind.f64.format.mul x y with
  | some r => exact run_float_arith w .mul 22 .f64 x y r h
  | none => exact run_nan x y h w
theorem mulD_or (x y : Nat) (w : World) : mulD x y w = w ∨ mulD x y w = w.drew := by
  unfold mulD
  cases h : FloatKind.f64.format.mul x y <;> simp

set_option maxHeartbeats 400000 in
theorem walk (x y : Nat) (w : World) :
    Calls Try.prog 5 #[.float .f64 x, .float .f64 y] w fun e w' => e = .returned (.bool true) ∧ Below w.heap.size w w' := by
  obtain ⟨p, hp⟩ : ∃ n, (finB x && finB y) = n := ⟨_, rfl⟩
  have c1 := finite2_any x y
  rw [hp] at c1
  have C1 := Lib.hid c1
  clear c1 hp
  by_cases hok : ∃ r, FloatKind.f64.format.mul x y = some r ∧ finB r = true
  · obtain ⟨r, hr, hf⟩ := hok
    have hm : ∀ w, (binOp .mul 22 (.float .f64 x) (.float .f64 y)).run Try.prog w = .ok (.float .f64 r) w := fun w => run_float_arith w .mul 22 .f64 x y r hr
    have C2 := Lib.hid (fun W => times_ok x y r W hr hf)
    have hq : (FloatKind.f64.format.order r r == some .eq) = true := by
      have : nanB r = false := by cases h : nanB r <;> simp_all [finB]
      unfold nanB at this
      simpa using this
    have C3 := Lib.hid (fun W => is_fin r r true true W hf hq)
    clear hr hf hq
    cases p
    all_goals
      go_enter Try.func5, Try.ntmps5
      go_wp2_with fail
      refine (C2.out _).mono ?_
      rintro e W ⟨rfl, hb⟩
      have hs := hb.size
      have HB := Lib.hid hb
      clear hb
      go_wp2_with (first | (go_at_call 9; refine (C1.out _ _ ?_ ?_).mono ?_; (next => simp [go_sem]); (next => simp [go_sem]); rintro e w' ⟨rfl, rfl⟩) | (go_at_call 13; refine (C3.out _).mono ?_; rintro e w' ⟨rfl, rfl⟩))
      go_ret
      exact ⟨rfl, HB.out.alloc hs _⟩
  · have hf : ∀ w, finB (mulR x y w) = false := by
      intro w
      cases h : FloatKind.f64.format.mul x y with
      | some r =>
        simp only [mulR, h]
        cases hq : finB r
        · rfl
        · exact (hok ⟨r, h, hq⟩).elim
      | none => simp only [mulR, h]; exact nan_notfin x y w
    have C2 := Lib.hid (fun W => times_err x y W (mulR x y) (mulD x y) (mulD_or x y) (mul_run x y) hf)
    have hm := mul_run x y
    have C3 := Lib.hid (fun W => is_not 0 (mulR x y W) false)
    have HF := Lib.hid hf
    have HD := Lib.hid (mulD_or x y)
    clear hf hok
    cases p
    all_goals
      go_enter Try.func5, Try.ntmps5
      go_wp2_with fail
      refine (C2.out _).mono ?_
      rintro e W ⟨rfl, hb⟩
      have hs := hb.size
      have HB := Lib.hid hb
      clear hb
      go_wp2_with (first | (go_at_call 9; refine (C1.out _ _ ?_ ?_).mono ?_; (next => simp [go_sem]); (next => simp [go_sem]); rintro e w' ⟨rfl, rfl⟩) | (go_at_call 13; refine (C3.out _ _ (HF.out _)).mono ?_; rintro e w' ⟨rfl, rfl⟩))
      go_ret
      first
        | exact ⟨rfl, HB.out.alloc hs _⟩
        | (refine ⟨rfl, ?_⟩; rcases HD.out (W.alloc (Obj.cells #[Value.float FloatKind.f64 x, Value.float FloatKind.f64 y] 22)) with h | h <;> rw [h]; exact HB.out.alloc hs _; exact (HB.out.alloc hs _).drew)

set_option maxRecDepth 100000 in
theorem lifted (os : Os) (started : os.Started) (H : Type) (enc : TypeId × Value → H) :
    ReturnsInHanded {} Try.checked os 5 .any (Rows.fnNumTimesSpec.pre6 enc Try.prog Try.f5 [] false) (Rows.fnNumTimesSpec.post enc Try.prog Try.f5 false true false false) := by
  refine LawKit.law_lifted (C := Try.checked) own started (by kernel_rfl) Try.func5
    (ChangeSpec.witness6 (enc := enc) (C := Try.checked) false ⟨#[], #[.float .f64 0, .float .f64 0], []⟩ 8 (by kernel_rfl) (by kernel_rfl) (by kernel_rfl) (by kernel_rfl))
    laidOut (by kernel_rfl) rfl (by kernel_rfl) Try.underlying4 ?_ ?_
  · intro ds hl
    have hl' : ds.length = 2 := hl
    obtain ⟨a, b, rfl⟩ : ∃ a b, ds = [a, b] := by
      match ds, hl' with
      | [a, b], _ => exact ⟨a, b, rfl⟩
    exact ⟨rfl, rfl, rfl⟩
  · intro W base args ds before hval0 hA0 _ _
    have hval : ∀ (j : Nat) t v, Try.f5.params[j]? = some t → args[j]? = some v → Value.okWide Try.prog W .any base t v := hval0
    have hA : DataW.TrodAll enc Try.prog W 0 (fun _ => true) true Try.f5.params.toList args.toList ds before := hA0
    rw [Try.params5] at hA hval
    obtain ⟨v0, v1, d0, d1, p0, p1, rfl, rfl, rfl, h0, h1⟩ := trodAll_two hA
    obtain ⟨x, rfl, rfl, rfl, _⟩ := open_float Try.underlying22 (hval 0 22 v0 rfl rfl) h0
    obtain ⟨y, rfl, rfl, rfl, _⟩ := open_float Try.underlying22 (hval 1 22 v1 rfl rfl) h1
    exact walk x y W

theorem holds : Rows.FnNumTimesSaid :=
  OpenClaim.holds_of_wide 5 Try.f5 rfl rfl rfl rfl rfl rfl rfl ⟨rfl, rfl, rfl, rfl, rfl⟩ rfl rfl rfl rfl rfl (by kernel_rfl) Try.func5 (by kernel_rfl)
    (of_decide_eq_true (by kernel_rfl)) (by unfold Func.isWrapper; first | (rw [if_pos (by decide +kernel)]; kernel_rfl) | (rw [if_neg (by decide +kernel)]; exact ⟨rfl, rfl⟩))
    (fun os started H enc _ => lifted os started H enc)

end Go.Proofs.Ytkagijlbmojbcaa.times

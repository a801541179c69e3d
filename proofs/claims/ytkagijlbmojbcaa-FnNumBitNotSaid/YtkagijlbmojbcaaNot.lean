/- FnNumBitNot: ~x of an integer is -x - 1. For all doubles, without a condition. -/
import Derived.Test.YtkagijlbmojbcaaRows
import Derived.Test.YtkagijlbmojbcaaLawKit
import Derived.Test.YtkagijlbmojbcaaNum
import Derived.Test.YtkagijlbmojbcaaFp
import Derived.Laws.BitsAllLaws
namespace Go.Proofs.Ytkagijlbmojbcaa.bitnot
open Go.ChangeShapes Go.WideShapes Go.ChangeAt Go.RowKit Go.Proofs.Ytkagijlbmojbcaa.fl Go.Proofs.Ytkagijlbmojbcaa.num Go.Proofs.Ytkagijlbmojbcaa

theorem own : ownKnob Try.prog.godebug = none := by kernel_rfl
theorem laidOut : laidOutB Try.prog = true := by kernel_rfl

theorem i64_not (n : Int) (h1 : -9223372036854775808 ≤ n) (h2 : n < 9223372036854775808) : bits .xor .i64 (-1) n = -n - 1 := by
  show IntKind.i64.wrap ((BitVec.ofInt 64 (-1) ^^^ BitVec.ofInt 64 n).toNat : Int) = _
  have e1 : BitVec.ofInt 64 (-1) = BitVec.allOnes 64 := by decide
  rw [e1, BitVec.allOnes_xor, BitVec.toNat_not, BitVec.toNat_ofInt]
  simp [IntKind.wrap, IntKind.bits, IntKind.signed]
  omega

/-- What int64(x) gives, and the world behind it, whatever x is. -/
def cR (x : Nat) (w : World) : Int := match floatToIntVal .f64 x .i64 with | some n => n | none => IntKind.i64.wrap ((Question.floatToInt .f64 x .i64).cut (w.tape w.drawn (.floatToInt .f64 x .i64)) : Nat)
def cD (x : Nat) (w : World) : World := match floatToIntVal .f64 x .i64 with | some _ => w | none => w.drew
theorem conv_run (x : Nat) (w : World) : (convert 22 2 (.float .f64 x)).run Try.prog w = .ok (.int .i64 (cR x w)) (cD x w) := by
  unfold cR cD
  cases h : floatToIntVal .f64 x .i64 with
  | some n => exact run_convert_float_int w 22 2 .f64 .i64 x n (by rw [Try.underlying22]; rfl) Try.underlying2 h
  | none =>
    unfold floatToIntVal at h
    simp only [convert, Sem.run_bind, run_underlying Try.underlying22, run_underlying Try.underlying2, Result.andThen_ok]
    cases ht : (FloatKind.f64.decode x).toInt .zero with
    | none => simp [Conv.floatToInt, ht, Question.forced]
    | some n =>
      rw [ht] at h
      simp only at h
      split at h
      · cases h
      · rename_i hn
        simp only [Conv.floatToInt, ht, if_neg hn]
        simp [Question.forced]
theorem cD_below (x : Nat) (w : World) : Below w.heap.size w (cD x w) := by
  unfold cD
  split
  · exact Below.refl _ _
  · exact (Below.refl _ _).drew

theorem toVal_any (n : Int) (w : World) :
    Calls Try.prog 47 #[.int .i64 n] w fun e w' => e = .returned (.pointer (some ⟨w.heap.size, 0, none⟩)) ∧ w.alloc (.cells #[.float .f64 (floatOfInt .f64 n)] 86) = w' := by
  go_enter Try.func47, Try.ntmps47
  go_wp2_with (go_at_call 48; refine (mk_any _ _).mono ?_; rintro e w' ⟨rfl, rfl⟩)
  go_ret
  exact ⟨rfl, rfl⟩

theorem neg_any (b b1 x : Nat) (w : World) (k1 : w.cell? ⟨b1, 0, none⟩ = some (.float .f64 x)) :
    Calls Try.prog 36 #[.pointer (some ⟨b, 0, none⟩), .iface 87 (.pointer (some ⟨b1, 0, none⟩))] w fun e w' =>
      e = .returned (.tuple #[.iface 87 (.pointer (some ⟨(cD x w).heap.size, 0, none⟩)), .nilIface]) ∧ (cD x w).alloc (.cells #[.float .f64 (floatOfInt .f64 (bits .xor .i64 (-1) (cR x w)))] 86) = w' := by
  have hm := conv_run x
  go_enter Try.func36, Try.ntmps36
  go_wp2_with (first | (go_at_call 46; refine (get_any _ _ _).mono ?_; rintro e w' ⟨rfl, rfl⟩) | (go_at_call 47; refine (toVal_any _ _).mono ?_; rintro e w' ⟨rfl, rfl⟩))
  go_ret2
  exact ⟨rfl, rfl⟩

def zeroI : Obj := .cells #[.nilIface, .map none, .map none, .pointer none, .pointer none, .pointer none, .pointer none, .slice none 0 0, .int .i64 0, .int .i64 0, .nilFunc, .nilFunc] 71
def W2 (w : World) (x : Nat) : World := (w.alloc zeroI).alloc (.cells #[.float .f64 x] 86)
theorem W2_below (w : World) (x : Nat) : Below w.heap.size w (W2 w x) := ((Below.refl _ _).alloc (Nat.le_refl _) _).alloc (by simp) _
theorem W2_x (w : World) (x : Nat) : (W2 w x).cell? ⟨w.heap.size + 1, 0, none⟩ = some (.float .f64 x) := by simp [W2, go_sem]

theorem part_any (x : Nat) (w : World) :
    Calls Try.prog 22 #[.float .f64 x] w fun e w' => e = .returned (.tuple #[.float .f64 (floatOfInt .f64 (bits .xor .i64 (-1) (cR x (W2 w x)))), .nilIface]) ∧ Below w.heap.size w w' := by
  have HC := Lib.hid (neg_any w.heap.size (w.heap.size + 1) x (W2 w x) (W2_x w x))
  generalize floatOfInt .f64 (bits .xor .i64 (-1) (cR x (W2 w x))) = r at HC ⊢
  have HB := Lib.hid ((W2_below w x).trans ((cD_below x (W2 w x)).mono (W2_below w x).size))
  go_enter Try.func22, Try.ntmps22
  go_wp2_with (go_at_call 37; refine (num_any _ _).mono ?_; rintro e w' ⟨rfl, rfl⟩)
  refine HC.out.mono ?_
  rintro e w' ⟨rfl, rfl⟩
  generalize cD x (W2 w x) = W at HB ⊢
  clear HC
  go_wp2_with (go_at_call 35; refine (numOf_ok r _ _ (by simp [go_sem])).mono ?_; rintro e w' ⟨rfl, rfl⟩)
  go_ret2
  exact ⟨rfl, HB.out.alloc HB.out.size _⟩

theorem not_any (x : Nat) (w : World) :
    Calls Try.prog 10 #[.float .f64 x] w fun e w' => e = .returned (.tuple #[.float .f64 (floatOfInt .f64 (bits .xor .i64 (-1) (cR x (W2 w x)))), .bool true]) ∧ Below w.heap.size w w' := by
  have HC := Lib.hid (part_any x w)
  generalize floatOfInt .f64 (bits .xor .i64 (-1) (cR x (W2 w x))) = r at HC ⊢
  go_enter Try.func10, Try.ntmps10
  go_wp2_with fail
  refine HC.out.mono ?_
  rintro e W ⟨rfl, hb⟩
  have HB := Lib.hid hb
  clear hb HC
  go_wp2_with (go_at_call 21; refine (number_ok r _).mono ?_; rintro e w' ⟨rfl, rfl⟩)
  go_ret2
  exact ⟨rfl, HB.out⟩

theorem trunc_run (x : Nat) (d : Ieee.Datum) (hd : FloatKind.f64.decode x = d) (hn : d.isNaN = false) (w : World) : (callFunc 49 #[.float .f64 x]).run Try.prog w = .ok (.value (.float .f64 (FloatKind.f64.encode (d.integral .zero)))) w := by
  rw [run_callFunc_extern (e := Extern.MathFloor.toIntegral "math.archTrunc" .zero) Try.func49 (by kernel_rfl) (by kernel_rfl) (by kernel_rfl) (by kernel_rfl)]
  change (Sem.run Try.prog (match FloatKind.f64.decode x with | .nan s t => _ | d => _) w).andThen _ = _
  rw [hd]
  cases d with
  | nan => simp [Ieee.Datum.isNaN] at hn
  | infinity s => rfl
  | number s m i => rfl

theorem trunc_any (x : Nat) (hn : (FloatKind.f64.decode x).isNaN = false) (w : World) :
    Calls Try.prog 38 #[.float .f64 x] w fun e w' => e = .returned (.float .f64 (FloatKind.f64.encode ((FloatKind.f64.decode x).integral .zero))) ∧ w = w' := by
  have ht := trunc_run x _ rfl hn
  generalize FloatKind.f64.encode ((FloatKind.f64.decode x).integral .zero) = r at ht ⊢
  go_enter Try.func38, Try.ntmps38
  go_wp2
  go_ret
  exact ⟨rfl, rfl⟩

theorem whole_no (x : Nat) (w : World) (h : ¬ (FloatKind.f64.format.order x 14069245235905429504 = some .gt ∧ FloatKind.f64.format.order x 4845873199050653696 = some .lt)) :
    Calls Try.prog 11 #[.float .f64 x] w fun e w' => e = .returned (.tuple #[.int .i64 0, .bool false]) ∧ w = w' := by
  obtain ⟨a, ha⟩ : ∃ a, (FloatKind.f64.format.order x 14069245235905429504 == some .gt) = a := ⟨_, rfl⟩
  obtain ⟨b, hb⟩ : ∃ b, (FloatKind.f64.format.order x 4845873199050653696 == some .lt) = b := ⟨_, rfl⟩
  have hab : (a && b) = false := by
    cases a <;> cases b <;> simp_all
  clear h
  cases a <;> cases b <;> simp at hab
  all_goals
    go_enter Try.func11, Try.ntmps11
    go_wp2
    go_ret2
    exact ⟨rfl, rfl⟩

/-- What spec.Whole tells of a number between -2^53 and 2^53: no integer, or what int64(x) gives. -/
def WholePost (n : Int) (w : World) (e : Ending) (w' : World) : Prop := (e = .returned (.tuple #[.int .i64 0, .bool false]) ∨ e = .returned (.tuple #[.int .i64 n, .bool true])) ∧ w = w'

theorem whole_yes (x : Nat) (n : Int) (w : World) (h1 : FloatKind.f64.format.order x 14069245235905429504 = some .gt) (h2 : FloatKind.f64.format.order x 4845873199050653696 = some .lt) (hn : floatToIntVal .f64 x .i64 = some n) (hnn : (FloatKind.f64.decode x).isNaN = false) :
    Calls Try.prog 11 #[.float .f64 x] w (WholePost n w) := by
  have ha : (FloatKind.f64.format.order x 14069245235905429504 == some .gt) = true := by rw [h1]; rfl
  have hb : (FloatKind.f64.format.order x 4845873199050653696 == some .lt) = true := by rw [h2]; rfl
  have hm : ∀ w, (convert 22 2 (.float .f64 x)).run Try.prog w = .ok (.int .i64 n) w := fun w => run_convert_float_int w 22 2 .f64 .i64 x n (by rw [Try.underlying22]; rfl) Try.underlying2 hn
  have ht := trunc_any x hnn
  generalize FloatKind.f64.encode ((FloatKind.f64.decode x).integral .zero) = r at ht
  have HT := Lib.hid ht
  obtain ⟨c, hc⟩ : ∃ c, (FloatKind.f64.format.order x r != some .eq) = c := ⟨_, rfl⟩
  clear ht hn hnn h1 h2
  cases c
  all_goals
    go_enter Try.func11, Try.ntmps11
    go_wp2_with (first | (go_at_call 38; refine (HT.out _).mono ?_; rintro e w' ⟨rfl, rfl⟩) | (go_at_call 23; go_in))
    go_ret2
    first
      | exact ⟨.inr rfl, rfl⟩
      | exact ⟨.inl rfl, rfl⟩

set_option maxHeartbeats 400000 in
theorem walk (x : Nat) (w : World) :
    Calls Try.prog 4 #[.float .f64 x] w fun e w' => e = .returned (.bool true) ∧ Below w.heap.size w w' := by
  have C := not_any x w
  by_cases hin : FloatKind.f64.format.order x 14069245235905429504 = some .gt ∧ FloatKind.f64.format.order x 4845873199050653696 = some .lt
  · obtain ⟨n, hn, hlo, hhi⟩ := Fp.small_toInt x hin.1 hin.2
    have hv : floatToIntVal .f64 x .i64 = some n := by
      unfold floatToIntVal
      have e : (FloatKind.f64.decode x).toInt .zero = some n := hn
      rw [e]
      simp only
      rw [if_pos (by simp [IntKind.min, IntKind.max, IntKind.signed, IntKind.bits]; omega)]
    have hnn : (FloatKind.f64.decode x).isNaN = false := by
      cases hd : FloatKind.f64.decode x with
      | nan => have e : (FloatKind.f64.decode x).toInt .zero = some n := hn; rw [hd] at e; simp [Ieee.Datum.toInt, Ieee.Datum.integral] at e
      | infinity => rfl
      | number => rfl
    have hc : cR x (W2 w x) = n := by simp only [cR, hv]
    rw [hc, i64_not n (by omega) (by omega)] at C
    have hq : (FloatKind.f64.format.order (floatOfInt .f64 (-n - 1)) (floatOfInt .f64 (-n - 1)) == some .eq) = true := by
      have : FloatKind.f64.format.order (floatOfInt .f64 (-n - 1)) (floatOfInt .f64 (-n - 1)) = some .eq := Fp.nearest_self _ _ _
      rw [this]; rfl
    have HC := Lib.hid C
    have HW := Lib.hid (fun W => whole_yes x n W hin.1 hin.2 hv hnn)
    clear C hc hv hn hin hnn
    generalize hr : floatOfInt .f64 (-n - 1) = r at HC hq
    have HR := Lib.hid hr
    clear hr
    have hm : ∀ w, (convert 2 22 (.int .i64 (-n - 1))).run Try.prog w = .ok (.float .f64 r) w := fun w => by rw [run_convert_int_float w 2 22 .i64 .f64 (-n - 1) (by rw [Try.underlying2]; rfl) Try.underlying22, HR.out]
    go_enter Try.func4, Try.ntmps4
    go_wp2_with fail
    refine HC.out.mono ?_
    rintro e W ⟨rfl, hb⟩
    have HB := Lib.hid hb
    clear hb
    go_wp2_with fail
    refine (HW.out W).mono ?_
    rintro e w' ⟨rfl | rfl, rfl⟩
    · go_wp2_with fail
      go_ret
      exact ⟨rfl, HB.out⟩
    · go_wp2_with fail
      go_ret
      exact ⟨rfl, HB.out⟩
  · generalize floatOfInt .f64 (bits .xor .i64 (-1) (cR x (W2 w x))) = r at C
    have HC := Lib.hid C
    have HW := Lib.hid (fun W => whole_no x W hin)
    clear C hin
    go_enter Try.func4, Try.ntmps4
    go_wp2_with fail
    refine HC.out.mono ?_
    rintro e W ⟨rfl, hb⟩
    have HB := Lib.hid hb
    clear hb
    go_wp2_with fail
    refine (HW.out W).mono ?_
    rintro e w' ⟨rfl, rfl⟩
    go_wp2_with fail
    go_ret
    exact ⟨rfl, HB.out⟩

set_option maxRecDepth 100000 in
theorem lifted (os : Os) (started : os.Started) (H : Type) (enc : TypeId × Value → H) :
    ReturnsInHanded {} Try.checked os 4 .any (Rows.fnNumBitNotSpec.pre6 enc Try.prog Try.f4 [] false) (Rows.fnNumBitNotSpec.post enc Try.prog Try.f4 false true false false) := by
  refine LawKit.law_lifted (C := Try.checked) own started (by kernel_rfl) Try.func4
    (ChangeSpec.witness6 (enc := enc) (C := Try.checked) false ⟨#[], #[.float .f64 0], []⟩ 8 (by kernel_rfl) (by kernel_rfl) (by kernel_rfl) (by kernel_rfl))
    laidOut (by kernel_rfl) rfl (by kernel_rfl) Try.underlying4 ?_ ?_
  · intro ds hl
    have hl' : ds.length = 1 := hl
    obtain ⟨a, rfl⟩ : ∃ a, ds = [a] := by
      match ds, hl' with
      | [a], _ => exact ⟨a, rfl⟩
    exact ⟨rfl, rfl, rfl⟩
  · intro W base args ds before hval0 hA0 _ _
    have hval : ∀ (j : Nat) t v, Try.f4.params[j]? = some t → args[j]? = some v → Value.okWide Try.prog W .any base t v := hval0
    have hA : DataW.TrodAll enc Try.prog W 0 (fun _ => true) true Try.f4.params.toList args.toList ds before := hA0
    rw [Try.params4] at hA hval
    obtain ⟨v0, d0, rfl, rfl, h0⟩ := trodAll_one hA
    obtain ⟨x, rfl, rfl, rfl, _⟩ := open_float Try.underlying22 (hval 0 22 v0 rfl rfl) h0
    exact walk x W

theorem holds : Rows.FnNumBitNotSaid :=
  OpenClaim.holds_of_wide 4 Try.f4 rfl rfl rfl rfl rfl rfl rfl ⟨rfl, rfl, rfl, rfl, rfl⟩ rfl rfl rfl rfl rfl (by kernel_rfl) Try.func4 (by kernel_rfl)
    (of_decide_eq_true (by kernel_rfl)) (by unfold Func.isWrapper; first | (rw [if_pos (by decide +kernel)]; kernel_rfl) | (rw [if_neg (by decide +kernel)]; exact ⟨rfl, rfl⟩))
    (fun os started H enc _ => lifted os started H enc)

end Go.Proofs.Ytkagijlbmojbcaa.bitnot

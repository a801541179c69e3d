/- FnOpPrecedence: operators of two operands bind as the table of the language says, looser than unary ones (4), closer than 16, and as the expressions do that they make. For all pairs of operators, without a condition. -/
import Derived.Test.YtincgkolpicipaaPrec
import Derived.Test.YtincgkolpicipaaLawKit
import Derived.Lib.SmallJoins
import Derived.WalkKit
import Derived.Lib.Hide
namespace Go.Proofs.Ytincgkolpicipaa.tree
open Go.ChangeShapes Go.WideShapes Go.ChangeAt Go.RowKit Go.Joins
theorem own : ownKnob Try.prog.godebug = none := by kernel_rfl
theorem laidOut : laidOutB Try.prog = true := by kernel_rfl
theorem plain : ∀ x y : Fin 20, 1 ≤ x.val → 1 ≤ y.val → 4 < ops.prec x.val ∧ ops.prec x.val < 16 ∧ decide (ops.prec x.val < ops.prec y.val) = decide (ops.lev x.val < ops.lev y.val) ∧ (ops.prec x.val == ops.prec y.val) = (ops.lev x.val == ops.lev y.val) := by decide +kernel
theorem of_wf {a : Int} (h : (Lit.int .u8 a).wf = true) : 0 ≤ a ∧ a < 256 := by
  have h1 : (decide (IntKind.u8.min ≤ a) && decide (a ≤ IntKind.u8.max)) = true := h
  have e1 : IntKind.u8.min = 0 := by decide
  have e2 : IntKind.u8.max = 255 := by decide
  rw [e1, e2] at h1
  simp at h1
  omega
theorem up (a : Int) : ∃ x : Nat, 1 ≤ x ∧ x < 20 ∧ 1 + a % 19 = (x : Int) :=
  ⟨(1 + a % 19).toNat, by omega, by omega, by omega⟩
set_option maxRecDepth 100000 in
set_option maxHeartbeats 4000000 in
theorem law (a c : Int) (ha : 0 ≤ a) (hc : 0 ≤ c) (ha2 : a < 256) (hc2 : c < 256) (w : World) :
    Calls Try.prog 4 #[.int .u8 a, .int .u8 c] w fun e w' => e = .returned (.bool true) ∧ Below w.heap.size w w' := by
  obtain ⟨x, hx0, hx1, hx⟩ := up a
  obtain ⟨y, hy0, hy1, hy⟩ := up c
  obtain ⟨p1, p2, p3, p4⟩ := plain ⟨x, hx1⟩ ⟨y, hy1⟩ hx0 hy0
  simp only at p1 p2 p3 p4
  have A1 := Lib.hid (fun w => ops.prec_any x hx0 hx1 w)
  have A2 := Lib.hid (fun w => ops.prec_any y hy0 hy1 w)
  have S1 := Lib.hid (fun w => ops.signs_any x hx1 w)
  have S2 := Lib.hid (fun w => ops.signs_any y hy1 w)
  have B1 := Lib.hid (fun w => ops.binds_any x hx0 hx1 w)
  have B2 := Lib.hid (fun w => ops.binds_any y hy0 hy1 w)
  have M := Lib.hid (fun g cap (hcap : 3 ≤ cap) w' (h : ops.RowAt w' g (ops.three x)) => precedence_op g cap hcap x hx0 hx1 w' h)
  generalize ops.prec x = px at *
  generalize ops.prec y = py at *
  generalize ops.lev x = lx at *
  generalize ops.lev y = ly at *
  generalize ops.sg x = sx at *
  generalize ops.sg y = sy at *
  clear hx0 hx1 hy0 hy1
  go_enter Try.func4, Try.ntmps4
  go_wp2_with fail
  refine (A1.out _).mono ?_
  rintro e w1 ⟨rfl, hb⟩
  have HB1 := Lib.hid hb
  clear hb
  go_wp2_with fail
  refine (A2.out _).mono ?_
  rintro e w2 ⟨rfl, hb⟩
  have HB2 := Lib.hid (step_after HB1.out hb)
  clear hb HB1
  go_wp2_with fail
  refine (S1.out _).mono ?_
  rintro e w3 ⟨rfl, hb⟩
  have HB3 := Lib.hid (step_after HB2.out hb)
  clear hb HB2
  go_wp2_with fail
  refine (B1.out _).mono ?_
  rintro e w4 ⟨rfl, hb⟩
  have HB4 := Lib.hid (step_after HB3.out hb)
  clear hb HB3
  go_wp2_with fail
  refine (S2.out _).mono ?_
  rintro e w5 ⟨rfl, hb⟩
  have HB5 := Lib.hid (step_after HB4.out hb)
  clear hb HB4
  go_wp2_with fail
  refine (B2.out _).mono ?_
  rintro e w6 ⟨rfl, hb⟩
  have HB6 := Lib.hid (step_after HB5.out hb)
  clear hb HB5
  go_wp2_with fail
  refine (ops.made_one _ _ _ _ _ _).mono ?_
  rintro e w7 ⟨N1, rfl, hr, hb⟩
  have HB7 := Lib.hid (step_after HB6.out hb)
  have HR := Lib.hid hr
  clear hb HB6 hr
  go_wp2_with fail
  refine (ops.made_two 23 x 0 0 ⟨#[]⟩ w7.heap.size N1 N1 4 0 0 1 4 0 0 1 ⟨#[49]⟩ ⟨#[49]⟩ _ (by simp [World.cell?_alloc_new]) (by simp [World.cell?_alloc_new]) (HR.out.later ((Below.refl _ _).alloc (Nat.le_refl _) _)) (HR.out.later ((Below.refl _ _).alloc (Nat.le_refl _) _))).mono ?_
  rintro e w8 ⟨g, cap, rfl, hcap, hr, hb⟩
  have HB8 := Lib.hid (step_after (HB7.out.alloc HB7.out.size _) hb)
  have HM := Lib.hid (M.out g cap hcap w8 hr)
  clear hb HB7 hr hcap HR
  have d1 : decide (4 < px) = true := decide_eq_true p1
  have d2 : decide (px < 16) = true := decide_eq_true p2
  obtain ⟨b1, hb1⟩ : ∃ b, decide (lx < ly) = b := ⟨_, rfl⟩
  obtain ⟨b2, hb2⟩ : ∃ b, (lx == ly) = b := ⟨_, rfl⟩
  rw [hb1] at p3
  rw [hb2] at p4
  clear p1 p2 hx hy ha hc ha2 hc2
  cases b1 <;> cases b2
  all_goals
    go_wp2_with (go_at_call 15; refine HM.out.mono ?_; rintro e w9 ⟨rfl, hb⟩; have HB9 := Lib.hid hb; clear hb)
    go_ret
    exact ⟨rfl, step_after HB8.out HB9.out⟩
set_option maxRecDepth 100000 in
theorem lifted (os : Os) (started : os.Started) (H : Type) (enc : TypeId × Value → H) :
    ReturnsInHanded {} Try.checked os 4 .any (Rows.fnOpPrecedenceSpec.pre6 enc Try.prog Try.f4 [] false) (Rows.fnOpPrecedenceSpec.post enc Try.prog Try.f4 false true false false) := by
  refine LawKit.law_lifted (C := Try.checked) own started (by kernel_rfl) Try.func4
    (ChangeSpec.witness6 (enc := enc) (C := Try.checked) false ⟨#[], #[.int .u8 0, .int .u8 0], []⟩ 8 (by kernel_rfl) (by kernel_rfl) (by kernel_rfl) (by kernel_rfl))
    laidOut (by kernel_rfl) rfl (by kernel_rfl) Try.underlying4 ?_ ?_
  · intro ds hl
    have hl' : ds.length = 2 := hl
    obtain ⟨a, b, rfl⟩ : ∃ a b, ds = [a, b] := by
      match ds, hl' with
      | [a, b], _ => exact ⟨a, b, rfl⟩
    exact ⟨rfl, rfl, rfl⟩
  · intro W base args ds before hval0 hA0 _ _
    have hval : ∀ (j : Nat) t v, Try.f4.params[j]? = some t → args[j]? = some v → Value.okWide Try.prog W .any base t v := hval0
    have hA : DataW.TrodAll enc Try.prog W 0 (fun _ => true) true Try.f4.params.toList args.toList ds before := hA0
    rw [Try.params4] at hA hval
    obtain ⟨v0, v1, d0, d1, p0, p1, rfl, rfl, rfl, h0, h1⟩ := trodAll_two hA
    obtain ⟨a, rfl, rfl, rfl, k0⟩ := open_int Try.underlying5 (hval 0 5 v0 rfl rfl) h0
    obtain ⟨c, rfl, rfl, rfl, k1⟩ := open_int Try.underlying5 (hval 1 5 v1 rfl rfl) h1
    have u0 := of_wf k0
    have u1 := of_wf k1
    exact law a c u0.1 u1.1 u0.2 u1.2 W
theorem holds : Rows.FnOpPrecedenceSaid :=
  OpenClaim.holds_of_wide 4 Try.f4 rfl rfl rfl rfl rfl rfl rfl ⟨rfl, rfl, rfl, rfl, rfl⟩ rfl rfl rfl rfl rfl (by kernel_rfl) Try.func4 (by kernel_rfl)
    (of_decide_eq_true (by kernel_rfl)) (by unfold Func.isWrapper; first | (rw [if_pos (by decide +kernel)]; kernel_rfl) | (rw [if_neg (by decide +kernel)]; exact ⟨rfl, rfl⟩))
    (fun os started H enc _ => lifted os started H enc)
end Go.Proofs.Ytincgkolpicipaa.tree

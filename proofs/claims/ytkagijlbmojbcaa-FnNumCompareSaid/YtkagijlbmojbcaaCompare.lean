/- FnNumCompare: numbers are ordered by value. For all doubles, without a condition. -/
import Derived.Test.YtkagijlbmojbcaaRows
import Derived.Test.YtkagijlbmojbcaaLawKit
import Derived.Test.YtkagijlbmojbcaaFloat
namespace Go.Proofs.Ytkagijlbmojbcaa.compare
open Go.ChangeShapes Go.WideShapes Go.ChangeAt Go.RowKit Go.Proofs.Ytkagijlbmojbcaa.fl

theorem own : ownKnob Try.prog.godebug = none := by kernel_rfl
theorem laidOut : laidOutB Try.prog = true := by kernel_rfl

def cmpO : Option Ordering → Int
  | some .lt => -1
  | some .gt => 1
  | _ => 0
def cmpI (x y : Nat) : Int := cmpO (FloatKind.f64.format.order x y)

theorem cmp_any (x y : Nat) (w : World) : Calls Try.prog 8 #[.float .f64 x, .float .f64 y] w fun e w' => e = .returned (.int .i64 (cmpI x y)) ∧ w = w' := by
  obtain ⟨o, ho⟩ : ∃ o, FloatKind.f64.format.order x y = o := ⟨_, rfl⟩
  have hc : cmpI x y = cmpO o := by rw [← ho]; rfl
  rw [hc]
  clear hc
  rcases o with _ | _ | _ | _
  all_goals
    go_enter Try.func8, Try.ntmps8
    go_wp2
    go_ret
    exact ⟨rfl, rfl⟩

set_option maxHeartbeats 400000 in
theorem walk (x y : Nat) (w : World) :
    Calls Try.prog 3 #[.float .f64 x, .float .f64 y] w fun e w' => e = .returned (.bool true) ∧ Below w.heap.size w w' := by
  obtain ⟨p, hp⟩ : ∃ n, (finB x && finB y) = n := ⟨_, rfl⟩
  obtain ⟨o, ho⟩ : ∃ o, FloatKind.f64.format.order x y = o := ⟨_, rfl⟩
  have hc : cmpI x y = cmpO o := by rw [← ho]; rfl
  have c1 := finite2_any x y
  have c2 := cmp_any x y
  rw [hp] at c1
  rw [hc] at c2
  have C1 := Lib.hid c1
  clear c1 hp hc
  rcases o with _ | _ | _ | _ <;> cases p
  all_goals
    simp only [cmpO] at c2
    have C2 := Lib.hid c2
    clear c2
    go_enter Try.func3, Try.ntmps3
    go_wp2_with (first | (go_at_call 8; refine (C2.out _).mono ?_; rintro e w' ⟨rfl, rfl⟩) | (go_at_call 9; refine (C1.out _ _ ?_ ?_).mono ?_; (next => simp [go_sem]); (next => simp [go_sem]); rintro e w' ⟨rfl, rfl⟩))
    go_ret
    exact ⟨rfl, (Below.refl _ _).alloc (Nat.le_refl _) _⟩

set_option maxRecDepth 100000 in
theorem lifted (os : Os) (started : os.Started) (H : Type) (enc : TypeId × Value → H) :
    ReturnsInHanded {} Try.checked os 3 .any (Rows.fnNumCompareSpec.pre6 enc Try.prog Try.f3 [] false) (Rows.fnNumCompareSpec.post enc Try.prog Try.f3 false true false false) := by
  refine LawKit.law_lifted (C := Try.checked) own started (by kernel_rfl) Try.func3
    (ChangeSpec.witness6 (enc := enc) (C := Try.checked) false ⟨#[], #[.float .f64 0, .float .f64 0], []⟩ 8 (by kernel_rfl) (by kernel_rfl) (by kernel_rfl) (by kernel_rfl))
    laidOut (by kernel_rfl) rfl (by kernel_rfl) Try.underlying4 ?_ ?_
  · intro ds hl
    have hl' : ds.length = 2 := hl
    obtain ⟨a, b, rfl⟩ : ∃ a b, ds = [a, b] := by
      match ds, hl' with
      | [a, b], _ => exact ⟨a, b, rfl⟩
    exact ⟨rfl, rfl, rfl⟩
  · intro W base args ds before hval0 hA0 _ _
    have hval : ∀ (j : Nat) t v, Try.f3.params[j]? = some t → args[j]? = some v → Value.okWide Try.prog W .any base t v := hval0
    have hA : DataW.TrodAll enc Try.prog W 0 (fun _ => true) true Try.f3.params.toList args.toList ds before := hA0
    rw [Try.params3] at hA hval
    obtain ⟨v0, v1, d0, d1, p0, p1, rfl, rfl, rfl, h0, h1⟩ := trodAll_two hA
    obtain ⟨x, rfl, rfl, rfl, _⟩ := open_float Try.underlying22 (hval 0 22 v0 rfl rfl) h0
    obtain ⟨y, rfl, rfl, rfl, _⟩ := open_float Try.underlying22 (hval 1 22 v1 rfl rfl) h1
    exact walk x y W

theorem holds : Rows.FnNumCompareSaid :=
  OpenClaim.holds_of_wide 3 Try.f3 rfl rfl rfl rfl rfl rfl rfl ⟨rfl, rfl, rfl, rfl, rfl⟩ rfl rfl rfl rfl rfl (by kernel_rfl) Try.func3 (by kernel_rfl)
    (of_decide_eq_true (by kernel_rfl)) (by unfold Func.isWrapper; first | (rw [if_pos (by decide +kernel)]; kernel_rfl) | (rw [if_neg (by decide +kernel)]; exact ⟨rfl, rfl⟩))
    (fun os started H enc _ => lifted os started H enc)

end Go.Proofs.Ytkagijlbmojbcaa.compare

/- FnBefore: a place is before another one if it stands in an earlier line, or in the same one further to the left. For all places, without a condition. -/
import Derived.Test.YtfdkgaipakannaaRows
import Derived.Test.YtfdkgaipakannaaLawKit
import Derived.Lib.SmallJoins
import Derived.BigRegion
import Derived.BigQuiet
import Derived.Lib.Hide
import Derived.Lib.QuietBelow
namespace Go.Proofs.Ytfdkgaipakannaa.before
open Go.ChangeShapes Go.WideShapes Go.ChangeAt Go.RowKit Go.Joins

theorem own : ownKnob Try.prog.godebug = none := by kernel_rfl
theorem laidOut : laidOutB Try.prog = true := by kernel_rfl
theorem cellsPlace : Try.prog.cellsOf 23 = 2 := by kernel_rfl

def lt2 (al ac bl bc : Int) : Bool := decide (al < bl ∨ al = bl ∧ ac < bc)

set_option maxHeartbeats 400000 in
theorem inner (al ac bl bc : Int) (w : World) (r : Bool) (hr : lt2 al ac bl bc = r) :
    Calls Try.prog 6 #[.agg #[.int .i64 al, .int .i64 ac], .agg #[.int .i64 bl, .int .i64 bc]] w fun e w' => e = .returned (.bool r) ∧ (((w.alloc (.cells #[.int .i64 al, .int .i64 ac] 23)).alloc (.cells #[.int .i64 bl, .int .i64 bc] 23)).alloc (.cells #[.int .i64 al, .int .i64 ac] 39)).alloc (.cells #[.int .i64 bl, .int .i64 bc] 39) = w' := by
  unfold lt2 at hr
  by_cases h1 : al = bl
  · subst h1
    have hr' : decide (ac < bc) = r := by simpa using hr
    have H := Lib.hid hr'
    clear hr hr'
    go_enter Try.func6, Try.ntmps6
    go_wp2
    go_ret
    exact ⟨by rw [← H.out]; rfl, rfl⟩
  · have hr' : decide (al < bl) = r := by rw [← hr]; simp [h1]
    have H := Lib.hid hr'
    clear hr hr'
    have hne : (al != bl) = true := by simpa using h1
    clear h1
    go_enter Try.func6, Try.ntmps6
    go_wp2
    go_ret
    exact ⟨by rw [← H.out]; rfl, rfl⟩

theorem inner_b (al ac bl bc : Int) (w : World) (r : Bool) (hr : lt2 al ac bl bc = r) :
    Calls Try.prog 6 #[.agg #[.int .i64 al, .int .i64 ac], .agg #[.int .i64 bl, .int .i64 bc]] w fun e w' => e = .returned (.bool r) ∧ Below w.heap.size w w' :=
  (inner al ac bl bc w r hr).mono fun _ _ ⟨he, hw⟩ => ⟨he, by subst hw; repeat (first | exact Below.refl _ _ | refine Below.alloc ?_ (by simp; try omega) _)⟩

set_option maxHeartbeats 400000 in
theorem walk_at (al ac bl bc : Int) (w : World) (p q s : Bool) (h1 : decide (al < bl) = p) (h2 : (al == bl) = q) (h3 : decide (ac < bc) = s) :
    Calls Try.prog 3 #[.agg #[.int .i64 al, .int .i64 ac], .agg #[.int .i64 bl, .int .i64 bc]] w fun e w' => e = .returned (.bool true) ∧ Below w.heap.size w w' := by
  have hr : lt2 al ac bl bc = (p || (q && s)) := by rw [← h1, ← h2, ← h3, Bool.eq_iff_iff]; simp [lt2]
  obtain ⟨r, hrr⟩ : ∃ r, r = (p || (q && s)) := ⟨_, rfl⟩
  rw [← hrr] at hr
  have H := Lib.hid hr
  clear hr
  cases p <;> cases q <;> cases s <;> simp only [Bool.or_false, Bool.and_false, Bool.and_true, Bool.or_true, Bool.and_self] at hrr <;> subst hrr
  all_goals
    go_enter Try.func3, Try.ntmps3
    go_wp2
    obtain ⟨W, hW⟩ : ∃ W, W = (w.alloc (Obj.cells #[Value.int IntKind.i64 al, Value.int IntKind.i64 ac] 23)).alloc (Obj.cells #[Value.int IntKind.i64 bl, Value.int IntKind.i64 bc] 23) := ⟨_, rfl⟩
    have c0 : W.cell? ⟨w.heap.size, 0, none⟩ = some (.int .i64 al) := by rw [hW]; simp [go_sem]
    have c1 : W.cell? ⟨w.heap.size, 1, none⟩ = some (.int .i64 ac) := by rw [hW]; simp [go_sem]
    have c2 : W.cell? ⟨w.heap.size + 1, 0, none⟩ = some (.int .i64 bl) := by rw [hW]; simp [go_sem]
    have c3 : W.cell? ⟨w.heap.size + 1, 1, none⟩ = some (.int .i64 bc) := by rw [hW]; simp [go_sem]
    rw [← hW]
    have k0 := fun d os => cell_regrown c0 d os
    have k1 := fun d os => cell_regrown c1 d os
    have k2 := fun d os => cell_regrown c2 d os
    have k3 := fun d os => cell_regrown c3 d os
    have hb : Below w.heap.size w W := by rw [hW]; repeat (first | exact Below.refl _ _ | refine Below.alloc ?_ (by simp; try omega) _)
    have hs : w.heap.size ≤ W.heap.size := hb.size
    have HW := Lib.hid hW
    clear hW c0 c1 c2 c3
    refine wp_region_quiet_below (by kernel_rfl) (by kernel_rfl) ?_
    repeat (go_big_quiet_step (exact Calls.regrown_of (inner_b _ _ _ _ _ _ H.out)))
    refine wpQuiet_nil ?_
    intro _ hw'
    obtain ⟨⟨dq, osq⟩, hw''⟩ := hw'
    subst hw''
    go_wp2
    go_ret
    exact ⟨rfl, hb.trans ((below_regrown W dq osq).mono hs)⟩

set_option maxRecDepth 100000 in
theorem lifted (os : Os) (started : os.Started) (H : Type) (enc : TypeId × Value → H) :
    ReturnsInHanded {} Try.checked os 3 .any (Rows.fnBeforeSpec.pre6 enc Try.prog Try.f3 [] false) (Rows.fnBeforeSpec.post enc Try.prog Try.f3 false true false false) := by
  refine LawKit.law_lifted (C := Try.checked) own started (by kernel_rfl) Try.func3
    (ChangeSpec.witness6 (enc := enc) (C := Try.checked) false ⟨#[], #[.agg #[.int .i64 0, .int .i64 0], .agg #[.int .i64 0, .int .i64 0]], []⟩ 8 (by kernel_rfl) (by kernel_rfl) (by kernel_rfl) (by kernel_rfl))
    laidOut (by kernel_rfl) rfl (by kernel_rfl) Try.underlying4 ?_ ?_
  · intro ds hl
    have hl' : ds.length = 2 := hl
    obtain ⟨a, b, rfl⟩ : ∃ a b, ds = [a, b] := by
      match ds, hl' with
      | [a, b], _ => exact ⟨a, b, rfl⟩
    exact ⟨rfl, rfl, rfl⟩
  · intro W base args ds before hval0 hA0 _ _
    have hval : ∀ (j : Nat) t v, Try.f3.params[j]? = some t → args[j]? = some v → Value.okWide Try.prog W .any base t v := hval0
    have hA : DataW.TrodAll enc Try.prog W 0 (fun _ => true) true Try.f3.params.toList args.toList ds before := hA0
    rw [Try.params3] at hA hval
    obtain ⟨v0, v1, d0, d1, p0, p1, rfl, rfl, rfl, h0, h1⟩ := trodAll_two hA
    obtain ⟨c0, c1, y0, y1, m, rfl, rfl, rfl, hy0, hy1⟩ := open_agg2 Try.underlying23 (by kernel_rfl) cellsPlace (hval 0 23 v0 rfl rfl) h0
    obtain ⟨e0, e1, z0, z1, n, rfl, rfl, rfl, hz0, hz1⟩ := open_agg2 Try.underlying23 (by kernel_rfl) cellsPlace (hval 1 23 v1 rfl rfl) h1
    obtain ⟨al, i0, -, -⟩ := DataW.trod_int Try.underlying3 hy0
    obtain ⟨ac, i1, -, -⟩ := DataW.trod_int Try.underlying3 hy1
    obtain ⟨bl, i2, -, -⟩ := DataW.trod_int Try.underlying3 hz0
    obtain ⟨bc, i3, -, -⟩ := DataW.trod_int Try.underlying3 hz1
    simp at i0 i1 i2 i3
    subst i0 i1 i2 i3
    exact walk_at al ac bl bc W _ _ _ rfl rfl rfl

theorem holds : Rows.FnBeforeSaid :=
  OpenClaim.holds_of_wide 3 Try.f3 rfl rfl rfl rfl rfl rfl rfl ⟨rfl, rfl, rfl, rfl, rfl⟩ rfl rfl rfl rfl rfl (by kernel_rfl) Try.func3 (by kernel_rfl)
    (of_decide_eq_true (by kernel_rfl)) (by unfold Func.isWrapper; first | (rw [if_pos (by decide +kernel)]; kernel_rfl) | (rw [if_neg (by decide +kernel)]; exact ⟨rfl, rfl⟩))
    (fun os started H enc _ => lifted os started H enc)

end Go.Proofs.Ytfdkgaipakannaa.before

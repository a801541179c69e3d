/- FnChildren: spec.fieldBare by contract. -/
import Derived.Test.YtincgkolpicipaaC01
import Derived.Test.YtincgkolpicipaaC03
set_option linter.unusedVariables false
set_option linter.unusedSimpArgs false
namespace Go.Proofs.Ytincgkolpicipaa.kin
open Go.RowKit
open Go.Proofs.Ytincgkolpicipaa.stack (step_after AnyBool AnyInt add_off owns_form)
/-- A node as a value. -/
def nv (n : Nd) : Value := .agg #[.int .i64 n.k, .int .i64 n.o, .string n.t, .int .i64 n.m, .int .i64 n.z]
def FB (o m : Int) : Prop := (o = 0 ∨ o = 1 ∨ o = 2) ∧ (m = 0 ∨ m = 1 ∨ m = 2 ∨ m = 4 ∨ m = 5 ∨ m = 6 ∨ m = 8 ∨ m = 9 ∨ m = 10)
set_option maxRecDepth 100000 in
set_option maxHeartbeats 4000000 in
theorem fieldBare_says (k o m z : Int) (t : ByteArray) (hs : t.size ≤ 4000) (w : World) : Calls Try.prog 72 #[.agg #[.int .i64 k, .int .i64 o, .string t, .int .i64 m, .int .i64 z]] w fun r w' => Says r (FB o m) ∧ Below w.heap.size w w' := by
  have H1 := Lib.hid (fun w' (hb : Below w.heap.size w w') => (identifier_any t hs w').mono (R' := fun r w1 => AnyBool r ∧ Below w.heap.size w w1) fun r w1 h => ⟨h.1, step_after hb h.2⟩)
  have H2 := Lib.hid (fun w' (hb : Below w.heap.size w w') => (points_any t hs w').mono (R' := fun r w1 => AnyBool r ∧ Below w.heap.size w w1) fun r w1 h => ⟨h.1, step_after hb h.2⟩)
  clear hs
  by_cases h1 : m < 0
  · have u1 : decide (m < 0) = true := decide_eq_true h1
    clear h1
    go_enter Try.func72, Try.ntmps72
    go_wp2
    go_ret
    exact ⟨.no, (Below.refl _ _).alloc (Nat.le_refl _) _⟩
  by_cases h2 : 15 < m
  · have u1 : decide (m < 0) = false := decide_eq_false h1
    have u2 : decide (15 < m) = true := decide_eq_true h2
    clear h1 h2
    go_enter Try.func72, Try.ntmps72
    go_wp2
    go_ret
    exact ⟨.no, (Below.refl _ _).alloc (Nat.le_refl _) _⟩
  have hm : (m = 3 ∨ m = 7 ∨ m = 11 ∨ m = 15 ∨ m = 12 ∨ m = 13 ∨ m = 14) ∨ (m = 0 ∨ m = 1 ∨ m = 2 ∨ m = 4 ∨ m = 5 ∨ m = 6 ∨ m = 8 ∨ m = 9 ∨ m = 10) := by omega
  clear h1 h2
  rcases hm with hm | hm
  · rcases hm with rfl | rfl | rfl | rfl | rfl | rfl | rfl
    all_goals
      go_enter Try.func72, Try.ntmps72
      go_wp2
      go_ret
      exact ⟨.no, (Below.refl _ _).alloc (Nat.le_refl _) _⟩
  by_cases h3 : o < 0
  · have u3 : decide (o < 0) = true := decide_eq_true h3
    clear h3
    rcases hm with rfl | rfl | rfl | rfl | rfl | rfl | rfl | rfl | rfl
    all_goals
      go_enter Try.func72, Try.ntmps72
      go_wp2
      go_ret
      exact ⟨.no, (Below.refl _ _).alloc (Nat.le_refl _) _⟩
  have u3 : decide (o < 0) = false := decide_eq_false h3
  by_cases h4 : 2 < o
  · have u4 : decide (2 < o) = true := decide_eq_true h4
    clear h3 h4
    rcases hm with rfl | rfl | rfl | rfl | rfl | rfl | rfl | rfl | rfl
    all_goals
      go_enter Try.func72, Try.ntmps72
      go_wp2
      go_ret
      exact ⟨.no, (Below.refl _ _).alloc (Nat.le_refl _) _⟩
  have u4 : decide (2 < o) = false := decide_eq_false h4
  have HF := Lib.hid (show FB o m from ⟨by omega, hm⟩)
  clear h3 h4
  rcases hm with rfl | rfl | rfl | rfl | rfl | rfl | rfl | rfl | rfl
  all_goals
    go_enter Try.func72, Try.ntmps72
    go_wp2_with (first | (go_at_call 71; refine (H1.out _ ((Below.refl _ _).alloc (Nat.le_refl _) _)).mono ?_; rintro r w1 ⟨⟨b, rfl⟩, hb⟩; have HB := Lib.hid hb; clear hb) | (go_at_call 70; refine (H2.out _ ((Below.refl _ _).alloc (Nat.le_refl _) _)).mono ?_; rintro r w1 ⟨⟨b, rfl⟩, hb⟩; have HB := Lib.hid hb; clear hb))
    go_ret
    first
      | exact ⟨⟨_, rfl, fun _ => HF.out⟩, HB.out⟩
      | exact ⟨⟨_, rfl, fun _ => HF.out⟩, (Below.refl _ _).alloc (Nat.le_refl _) _⟩
end Go.Proofs.Ytincgkolpicipaa.kin

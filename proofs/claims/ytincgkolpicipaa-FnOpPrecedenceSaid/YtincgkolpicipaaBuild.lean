/- impl.build of an operator with two numbers, by contract. -/
import Derived.Test.YtincgkolpicipaaRows
import Derived.Test.YtincgkolpicipaaMade
import Derived.WalkKit
import Derived.WalkLawsBesides
import Derived.WalkSpells
import Derived.Lib.Hide
import Derived.Below
namespace Go.Proofs.Ytincgkolpicipaa.ops
open Go.RowKit
def three (x : Int) : List Value := node 23 x ⟨#[]⟩ 0 3 ++ node 4 0 ⟨#[49]⟩ 0 1 ++ node 4 0 ⟨#[49]⟩ 0 1
theorem fifteen {w : World} {g : Nat} {x : Int} (h : RowAt w g (three x)) :
    w.cell? ⟨g, 0, none⟩ = some (.int .i64 23) ∧ w.cell? ⟨g, 1, none⟩ = some (.int .i64 x) ∧ w.cell? ⟨g, 2, none⟩ = some (.string ⟨#[]⟩) ∧ w.cell? ⟨g, 3, none⟩ = some (.int .i64 0) ∧ w.cell? ⟨g, 4, none⟩ = some (.int .i64 3) ∧
    w.cell? ⟨g, 5, none⟩ = some (.int .i64 4) ∧ w.cell? ⟨g, 6, none⟩ = some (.int .i64 0) ∧ w.cell? ⟨g, 7, none⟩ = some (.string ⟨#[49]⟩) ∧ w.cell? ⟨g, 8, none⟩ = some (.int .i64 0) ∧ w.cell? ⟨g, 9, none⟩ = some (.int .i64 1) ∧
    w.cell? ⟨g, 10, none⟩ = some (.int .i64 4) ∧ w.cell? ⟨g, 11, none⟩ = some (.int .i64 0) ∧ w.cell? ⟨g, 12, none⟩ = some (.string ⟨#[49]⟩) ∧ w.cell? ⟨g, 13, none⟩ = some (.int .i64 0) ∧ w.cell? ⟨g, 14, none⟩ = some (.int .i64 1) :=
  ⟨h 0 _ rfl, h 1 _ rfl, h 2 _ rfl, h 3 _ rfl, h 4 _ rfl, h 5 _ rfl, h 6 _ rfl, h 7 _ rfl, h 8 _ rfl, h 9 _ rfl, h 10 _ rfl, h 11 _ rfl, h 12 _ rfl, h 13 _ rfl, h 14 _ rfl⟩

set_option maxRecDepth 100000 in
theorem shaped_three (g cap : Nat) (x : Int) (w : World) (hg : g < w.heap.size) (h : RowAt w g (three x)) : Calls Try.prog 54 #[.slice (some ⟨g, 0, none⟩) 3 cap] w fun e w' => e = .returned (.bool true) ∧ Below w.heap.size w w' := by
  obtain ⟨c0, c1, c2, c3, c4, c5, c6, c7, c8, c9, c10, c11, c12, c13, c14⟩ := fifteen h
  clear h
  go_enter Try.func54, Try.ntmps54
  go_wp2
  refine wp_loop_rounds 4 ?_
  rw [rounds_succ]
  go_wp2
  go_region
  all_goals (try go_wp2)
  refine wp_loop_rounds 3 ?_
  rw [rounds_succ]
  go_wp2
  rw [rounds_succ]
  go_wp2
  rw [rounds_succ]
  go_wp2
  rw [rounds_succ]
  go_wp2
  go_region
  all_goals (try go_wp2)
  refine wp_loop_rounds 1 ?_
  rw [rounds_succ]
  go_wp2
  rw [rounds_succ]
  go_wp2
  go_region
  all_goals (try go_wp2)
  refine wp_loop_rounds 1 ?_
  rw [rounds_succ]
  go_wp2
  rw [rounds_succ]
  go_wp2
  go_ret
  refine ⟨rfl, ?_⟩
  repeat (first | exact Below.refl _ _ | apply Below.drew | (refine Below.alloc ?_ (by simp; try omega) _))
end Go.Proofs.Ytincgkolpicipaa.ops

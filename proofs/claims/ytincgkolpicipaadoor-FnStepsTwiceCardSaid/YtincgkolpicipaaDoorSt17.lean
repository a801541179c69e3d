/- FnStepsTwice: the sort of no string at all. -/
import Derived.Test.YtincgkolpicipaaDoorSt16
namespace Go.Proofs.YtincgkolpicipaaDoor.twice
open Go.RowKit
theorem insNil (w : World) : Calls Tryd.prog 30 #[.slice none 0 0, .int .i64 0, .int .i64 0] w fun e w' => e = .returned (.tuple #[]) ∧ w' = w := by
  go_enter Tryd.func30, Tryd.ntmps30
  go_wp2
  refine wp_loop_rounds 1 ?_
  rw [rounds_succ]
  go_wp2
  go_returns
  exact ⟨rfl, rfl⟩
set_option maxRecDepth 100000 in
theorem pdqNil (w : World) : Calls Tryd.prog 27 #[.slice none 0 0, .int .i64 0, .int .i64 0, .int .i64 0] w fun e w' => e = .returned (.tuple #[]) ∧ w' = w := by
  go_enter Tryd.func27, Tryd.ntmps27
  go_wp2
  refine wp_loop_rounds 1 ?_
  rw [rounds_succ]
  go_wp2_with (first | (go_at_call 30; refine (insNil _).mono ?_; rintro e w' ⟨rfl, rfl⟩))
  go_returns
  exact ⟨rfl, rfl⟩
theorem lenNil64 (w : World) : Calls Tryd.prog 40 #[.int .u64 0] w fun e w' => e = .returned (.int .i64 0) ∧ w' = w := by
  go_enter Tryd.func40, Tryd.ntmps40
  go_wp2
  go_returns
  exact ⟨by kernel_rfl, rfl⟩
theorem lenNil (w : World) : Calls Tryd.prog 28 #[.int .u64 0] w fun e w' => e = .returned (.int .i64 0) ∧ w' = w := by
  go_enter Tryd.func28, Tryd.ntmps28
  go_wp2_with (first | (go_at_call 40; refine (lenNil64 _).mono ?_; rintro e w' ⟨rfl, rfl⟩))
  go_returns
  exact ⟨rfl, rfl⟩
set_option maxRecDepth 100000 in
theorem sortNil22 (w : World) : Calls Tryd.prog 22 #[.slice none 0 0] w fun e w' => e = .returned (.tuple #[]) ∧ w' = w := by
  go_enter Tryd.func22, Tryd.ntmps22
  go_wp2_with (first
    | (go_at_call 28; refine (lenNil _).mono ?_; rintro e w' ⟨rfl, rfl⟩)
    | (go_at_call 27; refine (pdqNil _).mono ?_; rintro e w' ⟨rfl, rfl⟩))
  go_returns
  exact ⟨rfl, rfl⟩
theorem sortNil (w : World) : Calls Tryd.prog 16 #[.slice none 0 0] w fun e w' => e = .returned (.tuple #[]) ∧ w' = w := by
  go_enter Tryd.func16, Tryd.ntmps16
  go_wp2_with (go_at_call 22; refine (sortNil22 _).mono ?_; rintro e w' ⟨rfl, rfl⟩)
  go_returns
  exact ⟨rfl, rfl⟩
/-- sort.Strings, of a row that the call owns. -/
theorem sorted_any (B : Nat) (v : Value) (ss : List (List UInt8)) (w : World) (h : StrsO w B v ss) (hn : ss = [] → v = .slice none 0 0) (hl : ss.length ≤ 1000000) : Calls Tryd.prog 16 #[v] w fun e w' => e = .returned (.tuple #[]) ∧ StrsO w' B v (ss.mergeSort leB) ∧ w.grownBy w' v.ownBlock := by
  by_cases hne : ss = []
  · subst hne
    have hv := hn rfl
    subst hv
    refine (sortNil w).mono ?_
    rintro e w' ⟨rfl, rfl⟩
    exact ⟨rfl, by simpa using h, World.grownBy.refl _ _⟩
  · exact sort_any B v ss w h hne hl
end Go.Proofs.YtincgkolpicipaaDoor.twice

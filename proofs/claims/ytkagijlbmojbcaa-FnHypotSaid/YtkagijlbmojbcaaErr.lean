/- (*interpreter).Error of an interpreter without frames. -/
import Derived.Test.YtkagijlbmojbcaaRows
import Derived.WalkKit
import Derived.WalkLawsBesides
import Derived.Lib.Hide
import Derived.Below
import Derived.BigRegion
import Derived.BigQuiet
namespace Go.Proofs.Ytkagijlbmojbcaa.err
open Go.RowKit

theorem trace_any (b : Nat) (w : World) (h7 : w.cell? ⟨b, 7, none⟩ = some (.slice none 0 0)) (h5 : w.cell? ⟨b, 5, none⟩ = some (.pointer none)) :
    Calls Try.prog 68 #[.pointer (some ⟨b, 0, none⟩)] w fun e w' => e = .returned (.slice none 0 0) ∧ w = w' := by
  go_enter Try.func68, Try.ntmps68
  go_wp2
  refine wp_loop_rounds 1 ?_
  rw [rounds_succ]
  go_wp2
  go_ret
  exact ⟨rfl, rfl⟩


theorem make_any (s : ByteArray) (w : World) :
    Calls Try.prog 67 #[.string s, .slice none 0 0] w fun e w' => e = .returned (.agg #[.string s, .slice none 0 0]) ∧ w.alloc (.cells #[.string s, .slice none 0 0] 99) = w' := by
  go_enter Try.func67, Try.ntmps67
  go_wp2
  exact bodyPost_ret (v := .agg #[.string s, .slice none 0 0]) (by simp [results, Try.results67, go_sem]) rfl ⟨rfl, rfl⟩

theorem error_any (b : Nat) (s : ByteArray) (w : World) (h7 : w.cell? ⟨b, 7, none⟩ = some (.slice none 0 0)) (h5 : w.cell? ⟨b, 5, none⟩ = some (.pointer none)) :
    Calls Try.prog 58 #[.pointer (some ⟨b, 0, none⟩), .string s] w fun e w' => e = .returned (.iface 99 (.agg #[.string s, .slice none 0 0])) ∧ (w.alloc (.cells #[.string s, .slice none 0 0] 99)).alloc (.cells #[.string s, .slice none 0 0] 99) = w' := by
  go_enter Try.func58, Try.ntmps58
  go_wp2_with (first | (go_at_call 68; refine (trace_any _ _ (by assumption) (by assumption)).mono ?_; rintro e w' ⟨rfl, rfl⟩) | (go_at_call 67; refine (make_any _ _).mono ?_; rintro e w' ⟨rfl, rfl⟩))
  go_ret
  exact ⟨rfl, rfl⟩
end Go.Proofs.Ytkagijlbmojbcaa.err

/- builder.leaf of an operator and of a number by contract. -/
import Derived.Test.YtincgkolpicipaaBuild
namespace Go.Proofs.Ytincgkolpicipaa.ops
open Go.RowKit
set_option maxRecDepth 100000 in
theorem leaf_op (b : Nat) (x : Int) (w : World) : Calls Try.prog 82 #[.pointer (some ⟨b, 0, none⟩), .agg #[.int .i64 23, .int .i64 x, .string ⟨#[]⟩, .int .i64 0, .int .i64 3]] w fun e w' => e = .returned .nilIface ∧ Below w.heap.size w w' := by
  go_enter Try.func82, Try.ntmps82
  go_wp2
  go_ret
  exact ⟨rfl, by repeat (first | exact Below.refl _ _ | apply Below.drew | (refine Below.alloc ?_ (by simp; try omega) _))⟩
set_option maxRecDepth 100000 in
theorem leaf_num (b : Nat) (w : World) : Calls Try.prog 82 #[.pointer (some ⟨b, 0, none⟩), .agg #[.int .i64 4, .int .i64 0, .string ⟨#[49]⟩, .int .i64 0, .int .i64 1]] w fun e w' => (∃ B, e = .returned (.iface 190 (.pointer (some ⟨B, 0, none⟩)))) ∧ Below w.heap.size w w' := by
  go_enter Try.func82, Try.ntmps82
  go_wp2
  go_ret
  exact ⟨⟨_, rfl⟩, by repeat (first | exact Below.refl _ _ | apply Below.drew | (refine Below.alloc ?_ (by simp; try omega) _))⟩
end Go.Proofs.Ytincgkolpicipaa.ops

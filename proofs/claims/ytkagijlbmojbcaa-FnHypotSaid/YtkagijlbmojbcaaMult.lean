/- x * y of the evaluator: builtinMult by contract. -/
import Derived.Test.YtkagijlbmojbcaaRows
import Derived.Test.YtkagijlbmojbcaaNum
import Derived.Deep.RegionHeld3
import Derived.WalkSpells
import Derived.Deep.RegionWith
namespace Go.Proofs.Ytkagijlbmojbcaa.times
open Go.RowKit Go.Proofs.Ytkagijlbmojbcaa.fl Go.Proofs.Ytkagijlbmojbcaa.num Go.Proofs.Ytkagijlbmojbcaa

set_option maxHeartbeats 400000 in
theorem mult_ok (b b1 b2 x y r : Nat) (w : World) (hr : FloatKind.f64.format.mul x y = some r) (hf : finB r = true) (k1 : w.cell? ⟨b1, 0, none⟩ = some (.float .f64 x)) (k2 : w.cell? ⟨b2, 0, none⟩ = some (.float .f64 y)) :
    Calls Try.prog 39 #[.pointer (some ⟨b, 0, none⟩), .iface 87 (.pointer (some ⟨b1, 0, none⟩)), .iface 87 (.pointer (some ⟨b2, 0, none⟩))] w fun e w' => e = .returned (.tuple #[.iface 87 (.pointer (some ⟨w.heap.size, 0, none⟩)), .nilIface]) ∧ (w.alloc (.cells #[.float .f64 r] 86)).drew = w' := by
  have hm : ∀ w, (binOp .mul 22 (.float .f64 x) (.float .f64 y)).run Try.prog w = .ok (.float .f64 r) w := fun w => run_float_arith w .mul 22 .f64 x y r hr
  have F := Lib.hid hf
  clear hr hf
  go_enter Try.func39, Try.ntmps39
  go_wp2_with ((go_at_call 46; refine (get_any _ _ _).mono ?_; rintro e w' ⟨rfl, rfl⟩))
  go_region_held3 (fun w' => w'.cell? ⟨b1, 0, none⟩ = some (.float .f64 x) ∧ w'.cell? ⟨b2, 0, none⟩ = some (.float .f64 y)) (go_keep)
    (first | (go_at_call 51; refine (dc_ok _ _ _ F.out).mono ?_; rintro e w' ⟨rfl, rfl⟩))
  go_wp2
  go_ret2
  exact ⟨rfl, rfl⟩


def ErrPost (w : World) (e : Ending) (w' : World) : Prop := ∃ v, e = .returned (.tuple #[.nilIface, .iface 99 v]) ∧ Below w.heap.size w w'

theorem dc_errp (b : Nat) (x : Nat) (w : World) (hx : finB x = false) (h7 : w.cell? ⟨b, 7, none⟩ = some (.slice none 0 0)) (h5 : w.cell? ⟨b, 5, none⟩ = some (.pointer none)) :
    Calls Try.prog 51 #[.pointer (some ⟨b, 0, none⟩), .float .f64 x] w (ErrPost w) := (dc_err b x w hx h7 h5).mono fun _ _ ⟨h1, h2⟩ => ⟨_, h1, h2⟩

set_option maxHeartbeats 400000 in
theorem mult_err (b b1 b2 x y : Nat) (w : World) (r : World → Nat) (d : World → World) (hd : ∀ w, d w = w ∨ d w = w.drew) (hr : ∀ w, (binOp .mul 22 (.float .f64 x) (.float .f64 y)).run Try.prog w = .ok (.float .f64 (r w)) (d w)) (hf : ∀ w, finB (r w) = false) (k1 : w.cell? ⟨b1, 0, none⟩ = some (.float .f64 x)) (k2 : w.cell? ⟨b2, 0, none⟩ = some (.float .f64 y))
    (h7 : w.cell? ⟨b, 7, none⟩ = some (.slice none 0 0)) (h5 : w.cell? ⟨b, 5, none⟩ = some (.pointer none)) :
    Calls Try.prog 39 #[.pointer (some ⟨b, 0, none⟩), .iface 87 (.pointer (some ⟨b1, 0, none⟩)), .iface 87 (.pointer (some ⟨b2, 0, none⟩))] w (ErrPost w) := by
  have F := Lib.hid hf
  have D := Lib.hid hd
  have S1 : Hid (∀ w', Below w.heap.size w w' → (w'.cell? ⟨b1, 0, none⟩ = some (.float .f64 x) ∧ w'.cell? ⟨b2, 0, none⟩ = some (.float .f64 y)) ∧ (w'.cell? ⟨b, 7, none⟩ = some (.slice none 0 0) ∧ w'.cell? ⟨b, 5, none⟩ = some (.pointer none)) ∧ Below w.heap.size w w') :=
    fun w' hb => ⟨⟨cell_later hb k1, cell_later hb k2⟩, ⟨cell_later hb h7, cell_later hb h5⟩, ⟨hb.os, hb.tape, hb.output, hb.size, hb.block⟩⟩
  have S2 : Hid (Below w.heap.size w (d w.drew)) := by
    rcases hd w.drew with h | h <;> (show Below _ _ _; rw [h]; exact ⟨rfl, rfl, rfl, Nat.le_refl _, fun _ _ => rfl⟩)
  have S3 : Hid (∀ w', Below (d w.drew).heap.size (d w.drew) w' → Below w.heap.size w w') := by
    intro w' hb
    exact S2.out.trans (hb.mono S2.out.size)
  clear hf hd
  go_enter Try.func39, Try.ntmps39
  go_wp2_with ((go_at_call 46; refine (get_any _ _ _).mono ?_; rintro e w' ⟨rfl, rfl⟩))
  go_region_with (go_at_call 51; refine (dc_errp _ _ _ (F.out _) (S1.out _ S2.out).2.1.1 (S1.out _ S2.out).2.1.2).mono ?_; rintro e w' ⟨v, rfl, hb⟩)
  all_goals
   go_wp2
   go_ret2
   exact ⟨_, rfl, S3.out _ (by assumption)⟩
end Go.Proofs.Ytkagijlbmojbcaa.times

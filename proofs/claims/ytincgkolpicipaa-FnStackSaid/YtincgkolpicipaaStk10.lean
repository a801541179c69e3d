/- FnStack: top, clear and pop of the call stack by contract. -/
import Derived.Test.YtincgkolpicipaaStk9
import Derived.Deep.RegionHeld3
import Derived.BigQuiet
namespace Go.Proofs.Ytincgkolpicipaa.stack
open Go.RowKit
theorem csTop_any (g gs cap : Nat) (t0 t1 : Value) (n m : Int) (B : Nat) (ps : List (Nat × Fr)) (p : Nat × Fr) (w : World) (hl : ps.length ≤ 200) (h : Cs w g t0 t1 (.slice (some ⟨gs, 0, none⟩) (ps.length + 1) cap) n m) (ho : StkO w B (.slice (some ⟨gs, 0, none⟩) (ps.length + 1) cap) (ps ++ [p])) :
    Calls Try.prog 67 #[.pointer (some ⟨g, 0, none⟩)] w fun e w' => e = .returned (.pointer (some ⟨p.1, 0, none⟩)) ∧ Below w.heap.size w w' := by
  have c2 : w.cell? ⟨g, 2, none⟩ = some (.slice (some ⟨gs, 0, none⟩) (ps.length + 1) cap) := h.at 2
  have ct : w.cell? ⟨gs, ps.length, none⟩ = some (.pointer (some ⟨p.1, 0, none⟩)) := by
    have h1 := ho.own
    rw [show (ps ++ [p]).length = ps.length + 1 by simp] at h1
    rw [h1.cellAt _ (by omega)]
    simp [ptrs]
  have hcap : ps.length + 1 ≤ cap := by
    obtain ⟨A, c, e, h1, -⟩ := owns_form ho.own
    injection e with e1 e2 e3
    simp at h1; omega
  clear h ho
  generalize ps.length = k at *
  go_enter Try.func67, Try.ntmps67
  go_wp2_with fail
  go_quiet (fail)
  go_wp2_with fail
  go_ret
  exact ⟨rfl, drewN_below _ _⟩
end Go.Proofs.Ytincgkolpicipaa.stack

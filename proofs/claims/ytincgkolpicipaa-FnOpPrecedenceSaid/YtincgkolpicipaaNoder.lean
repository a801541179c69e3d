/- impl.builder.node by contract. -/
import Derived.Test.YtincgkolpicipaaMaker
namespace Go.Proofs.Ytincgkolpicipaa.tree
open Go.RowKit
set_option maxRecDepth 100000 in
set_option maxHeartbeats 4000000 in
theorem node_any (b N L i : Nat) (P : Nat → Value → World → Prop) (w : World) (hi : i < L) (hbN : N ≠ b)
    (h3 : w.cell? ⟨b, 3, none⟩ = some (.slice (some ⟨N, 0, none⟩) L L))
    (hm : ∀ n, Calls Try.prog 68 #[.pointer (some ⟨b, 0, none⟩), .int .i64 i] (w.drewN n) fun e w' => ∃ T p, e = .returned (.iface T p) ∧ P T p w' ∧ w'.cell? ⟨b, 3, none⟩ = some (.slice (some ⟨N, 0, none⟩) L L) ∧ (∃ u, w'.cell? ⟨N, i, none⟩ = some u) ∧ w'.frozen? ⟨N, i, none⟩ = false) :
    Calls Try.prog 55 #[.pointer (some ⟨b, 0, none⟩), .int .i64 i] w fun e w' => ∃ T p W, e = .returned (.iface T p) ∧ P T p W ∧ w' = W.setCell ⟨N, i, none⟩ (.iface T p) := by
  have hi' : (i : Int) < (L : Int) := by omega
  have HM := Lib.hid hm
  clear hm hi
  go_enter Try.func55, Try.ntmps55
  go_wp2_with fail
  go_region_held3 (fun w' => w'.cell? ⟨b, 3, none⟩ = some (.slice (some ⟨N, 0, none⟩) L L))
    (first | assumption | (rw [World.cell?_setCell_far _ _ _ _ hbN]; assumption))
    (first | (go_at_call 68; refine (HM.out 1).mono ?_; rintro e w1 ⟨T, p, rfl, hp, hc3, ⟨u, hu⟩, hf⟩; have HP := Lib.hid hp; clear hp))
  rename_i hh
  have hu2 : (w1.setCell ⟨N, i, none⟩ (.iface T p)).cell? ⟨N, i, none⟩ = some (.iface T p) := World.cell?_setCell_same _ _ _ hu
  go_wp2
  go_ret
  exact ⟨T, p, w1, rfl, HP.out, rfl⟩
end Go.Proofs.Ytincgkolpicipaa.tree

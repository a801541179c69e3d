/- FnStepsTwice: objects less a field, objects one to the right of the other: made. -/
import Derived.Test.YtincgkolpicipaaDoorSt9
import Derived.Deep.RegionHeld3
namespace Go.Proofs.YtincgkolpicipaaDoor.twice
open Go.RowKit
theorem val_form : ∀ o : Ob, ∃ T p, o.val = .iface T (.pointer (some ⟨p, 0, none⟩))
  | .sim p _ _ _ => ⟨82, p, rfl⟩
  | .res p _ _ _ _ => ⟨75, p, rfl⟩
  | .ext p _ _ _ => ⟨79, p, rfl⟩
theorem ba1 (W : World) (o : Obj) : Below W.heap.size W (W.alloc o) := (Below.refl _ _).alloc (Nat.le_refl _) o
theorem ba2 (W : World) (o1 o2 : Obj) : Below W.heap.size W ((W.alloc o1).alloc o2) := (ba1 W o1).alloc (ba1 W o1).size _
theorem ba3 (W : World) (o1 o2 o3 : Obj) : Below W.heap.size W (((W.alloc o1).alloc o2).alloc o3) := (ba2 W o1 o2).alloc (ba2 W o1 o2).size _
set_option maxRecDepth 100000 in
set_option maxHeartbeats 8000000 in
theorem mkRestricted_any (g : Nat) (o : Ob) (w : World) (h : VoAt w g o) (hc : o.cnt ≤ 1000000) : Calls Tryd.prog 25 #[.pointer (some ⟨g, 0, none⟩)] w fun e w' => Below w.heap.size w w' ∧ ∃ g' p b, e = .returned (.pointer (some ⟨g', 0, none⟩)) ∧ w.heap.size ≤ b ∧ VoAt w' g' (.res p b o.view o.cnt o) := by
  have HH := Lib.hid (show ∀ W, Below w.heap.size w W → VoAt W g o ∧ W.cell? ⟨g, 2, none⟩ = some o.val from fun W hb => ⟨h.later hb, (h.later hb).cell⟩)
  have HV := Lib.hid (fun W (hb : Below w.heap.size w W) => objVis_any g o W (HH.out W hb).1 hc)
  clear h
  have hmk := hmk66
  obtain ⟨T, q, hv⟩ := val_form o
  rw [hv] at HH
  have HVV := Lib.hid hv
  clear hv
  go_enter Tryd.func25, Tryd.ntmps25
  go_wp2_with fail
  go_region_held3 (fun w' => w'.cell? ⟨g, 2, none⟩ = some (.iface T (.pointer (some ⟨q, 0, none⟩))) ∧ Below w.heap.size w w')
    (first | (with_reducible exact ⟨(HH.out _ (Below.refl _ _).drew).2, (Below.refl _ _).drew⟩) | (with_reducible exact ⟨(HH.out _ (ba1 _ _).drew).2, (ba1 _ _).drew⟩) | (with_reducible exact ⟨(HH.out _ HB1.out).2, HB1.out⟩) | (with_reducible exact ⟨(HH.out _ (step_after HB1.out (ba1 _ _))).2, step_after HB1.out (ba1 _ _)⟩) | (with_reducible exact ⟨(HH.out _ (step_after HB1.out (ba2 _ _ _))).2, step_after HB1.out (ba2 _ _ _)⟩) | (with_reducible exact ⟨(HH.out _ (step_after HB1.out (ba3 _ _ _ _))).2, step_after HB1.out (ba3 _ _ _ _)⟩))
    (first
      | (go_at_call 20; refine (HV.out _ (And.right (by assumption))).mono ?_; rintro e w1 ⟨hb, b, rfl, hle, hm⟩; have HB1 := Lib.hid (show Below w.heap.size w w1 from (show Below w.heap.size w _ from And.right (by assumption)).trans (hb.mono (show w.heap.size ≤ _ from (show Below w.heap.size w _ from And.right (by assumption)).size))); have HLE := Lib.hid (show w.heap.size ≤ b from Nat.le_trans (show Below w.heap.size w _ from And.right (by assumption)).size hle); have HM := Lib.hid hm; clear hb hle hm))
  all_goals
    go_wp2_with fail
    go_returns
    first
      | exact ⟨step_after HB1.out (ba2 _ _ _), _, _, b, rfl, HLE.out, ⟨_, nw1 _ _ _⟩, by rw [HVV.out]; exact kp1 _ _ _ _ (heap_alloc_new _ _), HM.out.later (ba2 _ _ _), (HH.out _ HB1.out).1.2.later (ba2 _ _ _)⟩
      | exact ⟨step_after HB1.out (ba3 _ _ _ _), _, _, b, rfl, HLE.out, ⟨_, nw2 _ _ _ _⟩, by rw [HVV.out]; exact kp1 _ _ _ _ (nw1 _ _ _), HM.out.later (ba3 _ _ _ _), (HH.out _ HB1.out).1.2.later (ba3 _ _ _ _)⟩
      | exact ⟨step_after HB1.out (ba3 _ _ _ _), _, _, b, rfl, HLE.out, ⟨_, nw2 _ _ _ _⟩, by rw [HVV.out]; exact kp1 _ _ _ _ (kp1 _ _ _ _ (heap_alloc_new _ _)), HM.out.later (ba3 _ _ _ _), (HH.out _ HB1.out).1.2.later (ba3 _ _ _ _)⟩
set_option maxRecDepth 100000 in
set_option maxHeartbeats 8000000 in
theorem mkExtended_any (g1 g2 : Nat) (l r : Ob) (w : World) (h1 : VoAt w g1 l) (h2 : VoAt w g2 r) : Calls Tryd.prog 26 #[.pointer (some ⟨g1, 0, none⟩), .pointer (some ⟨g2, 0, none⟩)] w fun e w' => Below w.heap.size w w' ∧ ∃ g' p z, e = .returned (.pointer (some ⟨g', 0, none⟩)) ∧ VoAt w' g' (.ext p z l r) := by
  have HH := Lib.hid (show ∀ W, Below w.heap.size w W → (W.cell? ⟨g1, 2, none⟩ = some l.val ∧ W.cell? ⟨g2, 2, none⟩ = some r.val) ∧ Below w.heap.size w W from fun W hb => ⟨⟨(h1.later hb).cell, (h2.later hb).cell⟩, hb⟩)
  have HLA := Lib.hid (show ∀ W, Below w.heap.size w W → l.At W from fun W hb => h1.2.later hb)
  have HRA := Lib.hid (show ∀ W, Below w.heap.size w W → r.At W from fun W hb => h2.2.later hb)
  clear h1 h2
  have hmk := hmk66
  obtain ⟨T1, v1, f1, e1, m1, n1, k1⟩ := size_any l
  obtain ⟨T2, v2, f2, e2, m2, n2, k2⟩ := size_any r
  rw [e1, e2] at HH
  have HE1 := Lib.hid e1
  have HE2 := Lib.hid e2
  have K1 := Lib.hid (fun W hb => k1 W (HLA.out W hb))
  have K2 := Lib.hid (fun W hb => k2 W (HRA.out W hb))
  clear e1 e2 k1 k2
  go_enter Tryd.func26, Tryd.ntmps26
  go_wp2_with fail
  go_region_held3 (fun w' => (w'.cell? ⟨g1, 2, none⟩ = some (.iface T1 v1) ∧ w'.cell? ⟨g2, 2, none⟩ = some (.iface T2 v2)) ∧ Below w.heap.size w w')
    (first | assumption | (with_reducible exact HH.out _ (Below.refl _ _).drew) | (with_reducible exact HH.out _ (ba1 _ _).drew) | (with_reducible exact HH.out _ (ba2 _ _ _).drew) | (with_reducible exact HH.out _ (ba3 _ _ _ _).drew))
    (first
      | (with_reducible refine (K1.out _ (And.right (by assumption))).mono ?_; rintro e w1 ⟨⟨z1, rfl⟩, rfl⟩)
      | (with_reducible refine (K2.out _ (And.right (by assumption))).mono ?_; rintro e w1 ⟨⟨z2, rfl⟩, rfl⟩))
  all_goals
    go_wp2_with fail
    go_returns
    first
      | exact ⟨(ba3 _ _ _ _).drew, _, _, IntKind.i64.wrap (z1 + z2), rfl, ⟨_, nw2 _ _ _ _⟩, by rw [HE1.out, HE2.out]; exact kp1 _ _ _ _ (nw1 _ _ _), HLA.out _ (ba3 _ _ _ _).drew, HRA.out _ (ba3 _ _ _ _).drew⟩
      | exact ⟨(ba3 _ _ _ _).drew, _, _, IntKind.i64.wrap (z1 + z2), rfl, ⟨_, nw2 _ _ _ _⟩, by rw [HE1.out, HE2.out]; exact kp1 _ _ _ _ (kp1 _ _ _ _ (heap_alloc_new _ _)), HLA.out _ (ba3 _ _ _ _).drew, HRA.out _ (ba3 _ _ _ _).drew⟩
end Go.Proofs.YtincgkolpicipaaDoor.twice

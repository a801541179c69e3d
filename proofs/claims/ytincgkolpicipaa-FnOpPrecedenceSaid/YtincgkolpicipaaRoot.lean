/- impl.build of an operator with two numbers, by contract: the nodes. -/
import Derived.Test.YtincgkolpicipaaBd
import Derived.Test.YtincgkolpicipaaOps
import Derived.Test.YtincgkolpicipaaKids
import Derived.Test.YtincgkolpicipaaLeaf
namespace Go.Proofs.Ytincgkolpicipaa.tree
open Go.RowKit
def ns3 (x : Int) : List Nd := [⟨23, x, ⟨#[]⟩, 0, 3⟩, ⟨4, 0, ⟨#[49]⟩, 0, 1⟩, ⟨4, 0, ⟨#[49]⟩, 0, 1⟩]
theorem three_of {W : World} {g : Nat} {x : Int} (h : ∀ i n, (ns3 x)[i]? = some n → NodeAt W g i n.k n.o n.t n.m n.z) : ops.RowAt W g (ops.three x) := by
  obtain ⟨a0, a1, a2, a3, a4⟩ := h 0 _ rfl
  obtain ⟨b0, b1, b2, b3, b4⟩ := h 1 _ rfl
  obtain ⟨d0, d1, d2, d3, d4⟩ := h 2 _ rfl
  intro j v hj
  have hlt : j < 15 := (List.getElem?_eq_some_iff.1 hj).1
  have hc : j = 0 ∨ j = 1 ∨ j = 2 ∨ j = 3 ∨ j = 4 ∨ j = 5 ∨ j = 6 ∨ j = 7 ∨ j = 8 ∨ j = 9 ∨ j = 10 ∨ j = 11 ∨ j = 12 ∨ j = 13 ∨ j = 14 := by omega
  rcases hc with rfl | rfl | rfl | rfl | rfl | rfl | rfl | rfl | rfl | rfl | rfl | rfl | rfl | rfl | rfl <;> (rw [← hj]; assumption)
theorem bld_of {W : World} {b g cap N : Nat} {x : Int} (h : Bd W b g cap N (ns3 x)) : ops.Bld W b g cap N x := ⟨h.c0, h.c1, h.c2, h.c3, three_of h.nodes⟩
theorem kidsAt_two {B : Nat} {w : World} {v : Value} (h : w.ownsRow B 3 1 v 2 [.int .i64 1, .int .i64 2]) : KidsAt B w v [1, 2] := by
  obtain ⟨q, cap, rfl, hq⟩ : ∃ q cap, v = .slice (some ⟨q, 0, none⟩) 2 cap ∧ B ≤ q := by
    rcases h.2 with ⟨_, h⟩ | ⟨q, cap, cur, h, hq, _⟩
    · exact absurd h (by decide)
    · exact ⟨q, cap, h, hq⟩
  have c0 := h.cellAt 0 (by decide)
  have c1 := h.cellAt 1 (by decide)
  refine .inr ⟨q, cap, rfl, hq, block_lt_of_cell c0, by decide, fun j hj => ?_⟩
  have : j = 0 ∨ j = 1 := by simp at hj; omega
  rcases this with rfl | rfl
  · exact c0
  · exact c1
theorem node_num (b g cap N i : Nat) (x : Int) (hi : i = 1 ∨ i = 2) (w : World) (h : Bd w b g cap N (ns3 x)) :
    Calls Try.prog 55 #[.pointer (some ⟨b, 0, none⟩), .int .i64 i] w fun e w' => ∃ T p, e = .returned (.iface T p) ∧ Aside N w w' := by
  have hn : NodeAt w g i 4 0 ⟨#[49]⟩ 0 1 := by
    rcases hi with rfl | rfl
    · exact h.nodes 1 _ rfl
    · exact h.nodes 2 _ rfl
  have hlt : i < 3 := by omega
  refine (node_made b g cap N i (ns3 x) (fun _ _ _ => True) w h hlt fun w' hb => ?_).mono ?_
  · have h' := h.later hb
    refine made_leaf b g cap 3 i 4 0 0 1 ⟨#[49]⟩ (fun _ _ W => True ∧ Aside N w' W) w' hlt h'.c0 (hn.later hb) (fun w1 h1 => ?_) (fun w1 h1 => ?_)
    · exact ops.kids_none b g cap N x i hi w1 (bld_of (h'.later h1))
    · refine (ops.leaf_num b w1).mono ?_
      rintro e w2 ⟨⟨B, he⟩, h2⟩
      exact ⟨_, _, he, trivial, (Aside.of h1).trans (Aside.of h2)⟩
  · rintro e w' ⟨T, p, W, he, -, ha, hw⟩
    subst hw
    exact ⟨T, p, he, ha.trans (Aside.place _)⟩
theorem count_two (b q cap : Nat) (w : World) : Calls Try.prog 96 #[.pointer (some ⟨b, 0, none⟩), .slice (some ⟨q, 0, none⟩) 2 cap, .int .i64 2, .int .i64 2] w fun e w' => e = .returned (.bool true) ∧ w = w' := by
  go_enter Try.func96, Try.ntmps96
  go_wp2
  go_ret
  exact ⟨rfl, rfl⟩
set_option maxRecDepth 100000 in
set_option maxHeartbeats 4000000 in
theorem both_op (b g cap N : Nat) (x : Nat) (hx0 : 1 ≤ x) (hx1 : x < 20) (v : Value) (B : Nat) (hB : N < B) (w : World) (h : Bd w b g cap N (ns3 x)) (hv : KidsAt B w v [1, 2]) :
    Calls Try.prog 84 #[.pointer (some ⟨b, 0, none⟩), .agg #[.int .i64 23, .int .i64 x, .string ⟨#[]⟩, .int .i64 0, .int .i64 3], v] w fun e w' => ∃ q, e = .returned (.iface 132 (.pointer (some ⟨q, 0, none⟩))) ∧ w'.cell? ⟨q, 12, none⟩ = some (.int .i64 (ops.opL.getD x 0)) ∧ q ≠ N ∧ Aside N w w' := by
  have hN : N < w.heap.size := by
    obtain ⟨cs, hc, _⟩ := h.places
    exact (Array.getElem?_eq_some_iff.1 hc).1
  obtain ⟨q, qc, rfl, hq0, hq1, c0, c1⟩ : ∃ q qc, v = .slice (some ⟨q, 0, none⟩) 2 qc ∧ B ≤ q ∧ q < w.heap.size ∧ w.cell? ⟨q, 0, none⟩ = some (.int .i64 1) ∧ w.cell? ⟨q, 1, none⟩ = some (.int .i64 2) := by
    rcases hv with ⟨_, h⟩ | ⟨q, qc, h, hb, hq, _, hc⟩
    · exact absurd h (by decide)
    · exact ⟨q, qc, h, hb, hq, hc 0 (by decide), hc 1 (by decide)⟩
  have hqN : q ≠ N := by omega
  have HO := Lib.hid (ops.binaryOp_any x hx0 hx1)
  have S1 := Lib.hid (show ∀ w', Aside N w w' → (w'.cell? ⟨q, 0, none⟩ = some (.int .i64 1) ∧ w'.cell? ⟨q, 1, none⟩ = some (.int .i64 2)) ∧ Aside N w w' from fun w' ha => ⟨⟨ha.cell c0 hqN, ha.cell c1 hqN⟩, ha⟩)
  have HN1 := Lib.hid (show ∀ w', Aside N w w' → Calls Try.prog 55 #[.pointer (some ⟨b, 0, none⟩), .int .i64 1] w' fun e w'' => ∃ T p, e = .returned (.iface T p) ∧ Aside N w w'' from fun w' ha => (node_num b g cap N 1 x (.inl rfl) w' (h.aside ha)).mono fun e w'' ⟨T, p, he, h2⟩ => ⟨T, p, he, ha.trans h2⟩)
  have HN2 := Lib.hid (show ∀ w', Aside N w w' → Calls Try.prog 55 #[.pointer (some ⟨b, 0, none⟩), .int .i64 2] w' fun e w'' => ∃ T p, e = .returned (.iface T p) ∧ Aside N w w'' from fun w' ha => (node_num b g cap N 2 x (.inr rfl) w' (h.aside ha)).mono fun e w'' ⟨T, p, he, h2⟩ => ⟨T, p, he, ha.trans h2⟩)
  clear hx0 hx1 hv h hB
  generalize ops.opL.getD x 0 = op at HO ⊢
  go_enter Try.func84, Try.ntmps84
  go_wp2_with (first | (go_at_call 27; refine (HO.out _).mono ?_; rintro e w1 ⟨rfl, hw1⟩; have HW := Lib.hid hw1; clear hw1) | (go_at_call 96; refine (count_two _ _ _ _).mono ?_; rintro e w' ⟨rfl, rfl⟩))
  have hA1 : Below w.heap.size w w1 := by rw [← HW.out]; exact ((Below.refl _ _).alloc (Nat.le_refl _) _).alloc (by simp) _
  obtain ⟨⟨d0, d1⟩, hA⟩ := S1.out w1 (Aside.of hA1)
  clear HW hA1
  have HA := Lib.hid hA
  clear hA
  go_region_held3 (fun w' => (w'.cell? ⟨q, 0, none⟩ = some (.int .i64 1) ∧ w'.cell? ⟨q, 1, none⟩ = some (.int .i64 2)) ∧ Aside N w w')
    (first | (with_reducible exact S1.out _ (HA.out.trans (Aside.of (Below.drew (Below.refl _ _))))) | (with_reducible exact S1.out _ hb) | (with_reducible exact S1.out _ (hb.trans (Aside.of ((Below.refl _ _).alloc (Nat.le_refl _) _)))))
    (first | (go_at_call_of 55 (Value.int IntKind.i64 1); refine (HN1.out _ (And.right (by assumption))).mono ?_; rintro e w2 ⟨T, p, rfl, hb⟩) | (go_at_call_of 55 (Value.int IntKind.i64 2); refine (HN2.out _ (And.right (by assumption))).mono ?_; rintro e w2 ⟨T, p, rfl, hb⟩))
  have HB := Lib.hid hb
  clear hb
  go_wp2
  go_ret
  exact ⟨w2.heap.size, rfl, by simp [World.cell?_alloc_new], by have := HB.out.size; omega, HB.out.trans (Aside.of ((Below.refl _ _).alloc (Nat.le_refl _) _))⟩
theorem made_op (b g cap N : Nat) (x : Nat) (hx0 : 1 ≤ x) (hx1 : x < 20) (w : World) (h : Bd w b g cap N (ns3 x)) :
    Calls Try.prog 68 #[.pointer (some ⟨b, 0, none⟩), .int .i64 (0 : Nat)] w fun e w' => ∃ T p, e = .returned (.iface T p) ∧ (T = 132 ∧ ∃ q, p = .pointer (some ⟨q, 0, none⟩) ∧ w'.cell? ⟨q, 12, none⟩ = some (.int .i64 (ops.opL.getD x 0)) ∧ q ≠ N) ∧ Aside N w w' := by
  have hN : N < w.heap.size := by
    obtain ⟨cs, hc, _⟩ := h.places
    exact (Array.getElem?_eq_some_iff.1 hc).1
  refine made_both b g cap 3 0 23 x 0 3 ⟨#[]⟩ [1, 2] (fun T p W => (T = 132 ∧ ∃ q, p = .pointer (some ⟨q, 0, none⟩) ∧ W.cell? ⟨q, 12, none⟩ = some (.int .i64 (ops.opL.getD x 0)) ∧ q ≠ N) ∧ Aside N w W) w (by decide) h.c0 (h.nodes 0 _ rfl) (fun w1 h1 => ?_) (fun w1 h1 => ?_) (fun w1 v h1 hv => ?_)
  · refine (ops.kids_two b g cap N x w1 (bld_of (h.later h1))).mono ?_
    rintro e w2 ⟨v, he, ho, hb⟩
    exact ⟨v, he, kidsAt_two ho, hb⟩
  · exact ops.leaf_op b x w1
  · refine (both_op b g cap N x hx0 hx1 v w.heap.size hN w1 (h.later h1) hv).mono ?_
    rintro e w2 ⟨q, he, hc, hq, ha⟩
    exact ⟨132, _, he, ⟨rfl, q, rfl, hc, hq⟩, (Aside.of h1).trans ha⟩
theorem node_op (b g cap N : Nat) (x : Nat) (hx0 : 1 ≤ x) (hx1 : x < 20) (w : World) (h : Bd w b g cap N (ns3 x)) :
    Calls Try.prog 55 #[.pointer (some ⟨b, 0, none⟩), .int .i64 (0 : Nat)] w fun e w' => ∃ q, e = .returned (.iface 132 (.pointer (some ⟨q, 0, none⟩))) ∧ w'.cell? ⟨q, 12, none⟩ = some (.int .i64 (ops.opL.getD x 0)) ∧ Aside N w w' := by
  refine (node_made b g cap N 0 (ns3 x) (fun T p W => T = 132 ∧ ∃ q, p = .pointer (some ⟨q, 0, none⟩) ∧ W.cell? ⟨q, 12, none⟩ = some (.int .i64 (ops.opL.getD x 0)) ∧ q ≠ N) w h (show 0 < 3 by decide) fun w' hb => made_op b g cap N x hx0 hx1 w' (h.later hb)).mono ?_
  rintro e w' ⟨T, p, W, he, ⟨rfl, q, rfl, hc, hq⟩, ha, rfl⟩
  exact ⟨q, he, (Aside.place (N := N) _).cell hc hq, ha.trans (Aside.place _)⟩
end Go.Proofs.Ytincgkolpicipaa.tree

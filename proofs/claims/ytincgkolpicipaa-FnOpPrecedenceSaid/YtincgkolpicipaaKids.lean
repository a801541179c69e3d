/- builder.kids of the three nodes by contract. -/
import Derived.Test.YtincgkolpicipaaBuild
namespace Go.Proofs.Ytincgkolpicipaa.ops
open Go.RowKit
/-- The builder of the three nodes. -/
def Bld (W : World) (b g cap N : Nat) (x : Int) : Prop := W.cell? ⟨b, 0, none⟩ = some (.slice (some ⟨g, 0, none⟩) 3 cap) ∧ W.cell? ⟨b, 1, none⟩ = some (.bool false) ∧ W.cell? ⟨b, 2, none⟩ = some (.bool false) ∧ W.cell? ⟨b, 3, none⟩ = some (.slice (some ⟨N, 0, none⟩) 3 3) ∧ RowAt W g (three x)
theorem Bld.later {w w' : World} {b g cap N : Nat} {x : Int} (h : Bld w b g cap N x) (hb : Below w.heap.size w w') : Bld w' b g cap N x :=
  ⟨cell_later hb h.1, cell_later hb h.2.1, cell_later hb h.2.2.1, cell_later hb h.2.2.2.1, h.2.2.2.2.later hb⟩
set_option maxRecDepth 100000 in
theorem kids_none (b g cap N : Nat) (x : Int) (at_ : Nat) (hat : at_ = 1 ∨ at_ = 2) (w : World) (h : Bld w b g cap N x) : Calls Try.prog 81 #[.pointer (some ⟨b, 0, none⟩), .int .i64 at_] w fun e w' => e = .returned (.slice none 0 0) ∧ Below w.heap.size w w' := by
  obtain ⟨h1, h2, h3, h4, h5⟩ := h
  obtain ⟨c0, c1, c2, c3, c4, c5, c6, c7, c8, c9, c10, c11, c12, c13, c14⟩ := fifteen h5
  clear h5
  rcases hat with rfl | rfl
  all_goals
    go_enter Try.func81, Try.ntmps81
    go_wp2
    refine wp_loop_rounds 1 ?_
    rw [rounds_succ]
    go_wp2
    go_ret
    exact ⟨rfl, Below.refl _ _⟩
theorem Try.info3 : (Try.prog.info? 3).map (fun i => (i.zero, i.size, i.bytes)) = some (some (.int .i64 0), 1, 8) := by kernel_rfl
set_option maxRecDepth 100000 in
theorem kids_two (b g cap N : Nat) (x : Int) (w : World) (h : Bld w b g cap N x) : Calls Try.prog 81 #[.pointer (some ⟨b, 0, none⟩), .int .i64 0] w fun e w' => ∃ v, e = .returned v ∧ w'.ownsRow w.heap.size 3 1 v 2 [.int .i64 1, .int .i64 2] ∧ Below w.heap.size w w' := by
  obtain ⟨i0, hi, hz0, hz1, hz2⟩ := info_parts Try.info3
  have HB := Lib.hid h
  obtain ⟨h1, h2, h3, h4, h5⟩ := h
  obtain ⟨c0, c1, c2, c3, c4, c5, c6, c7, c8, c9, c10, c11, c12, c13, c14⟩ := fifteen h5
  have hown := World.ownsRow_nil w w.heap.size 3 1
  clear h5
  go_enter Try.func81, Try.ntmps81
  go_wp2
  refine wp_loop_rounds 3 ?_
  rw [rounds_succ]
  go_wp2_with (at_builtin; refine wpList_append_own _ rfl _ _ 24 rfl w.heap.size 3 i0 (.int .i64 0) 1 8 Try.underlying24 hi hz0 hz1 hz2 rfl (by decide) _ _ _ rfl (hown.alloc _) ⟨w.heap.size, 0, none⟩ 1 1 [.int .i64 1] rfl rfl ?_ ?_ ?_ ?_ ?_ ?_)
  · intro j u hj; rcases j with _ | j <;> simp at hj; subst hj; simp [Addr.add, go_sem]
  · intro u hu; simp at hu; subst hu; rfl
  · decide
  · decide
  · simp
  intro v1 W1 hown1 hg1 _
  have hb1 : Below w.heap.size w W1 := ((Below.refl w.heap.size w).alloc (Nat.le_refl _) _).grown hg1 (by simp) (fun j hj => by cases hj)
  have HB1 := Lib.hid hb1
  have HBld := Lib.hid (HB.out.later hb1)
  clear hg1 hb1 hown h1 h2 h3 h4 c0 c1 c2 c3 c4 c5 c6 c7 c8 c9 c10 c11 c12 c13 c14
  obtain ⟨h1, h2, h3, h4, h5⟩ := HBld.out
  obtain ⟨c0, c1, c2, c3, c4, c5, c6, c7, c8, c9, c10, c11, c12, c13, c14⟩ := fifteen h5
  clear h5
  go_wp2
  rw [rounds_succ]
  have HS1 : Hid (w.heap.size ≤ (W1.alloc (.cells #[.int .i64 2] 3)).heap.size) := Nat.le_trans HB1.out.size (by simp)
  go_wp2_with (at_builtin; refine wpList_append_own _ rfl _ _ 24 rfl w.heap.size 3 i0 (.int .i64 0) 1 8 Try.underlying24 hi hz0 hz1 hz2 rfl (by decide) _ _ _ rfl (hown1.alloc _) ⟨W1.heap.size, 0, none⟩ 1 1 [.int .i64 2] rfl rfl ?_ ?_ ?_ ?_ HS1.out ?_)
  · intro j u hj; rcases j with _ | j <;> simp at hj; subst hj; simp [Addr.add, go_sem]
  · intro u hu; simp at hu; subst hu; rfl
  · decide
  · decide
  intro v2 W2 hown2 hg2 _
  have hb2 : Below w.heap.size w W2 := (HB1.out.alloc HB1.out.size _).grown hg2 HS1.out (fun j hj => (hown1.lt j hj).1)
  have HB2 := Lib.hid hb2
  have HBld2 := Lib.hid (HB.out.later hb2)
  clear hg2 hb2 hown1 h1 h2 h3 h4 c0 c1 c2 c3 c4 c5 c6 c7 c8 c9 c10 c11 c12 c13 c14
  obtain ⟨h1, h2, h3, h4, h5⟩ := HBld2.out
  obtain ⟨c0, c1, c2, c3, c4, c5, c6, c7, c8, c9, c10, c11, c12, c13, c14⟩ := fifteen h5
  have HO := Lib.hid hown2
  clear h5 hown2
  go_wp2
  rw [rounds_succ]
  go_wp2
  go_ret
  exact ⟨_, rfl, HO.out, HB2.out⟩
end Go.Proofs.Ytincgkolpicipaa.ops

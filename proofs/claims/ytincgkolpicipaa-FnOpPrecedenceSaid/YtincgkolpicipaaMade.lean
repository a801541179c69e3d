/- spec.Made by contract, for a node alone and for a node with two kids. -/
import Derived.Test.YtincgkolpicipaaRows
import Derived.WalkKit
import Derived.WalkLawsBesides
import Derived.WalkSpells
import Derived.Lib.Hide
import Derived.Below
namespace Go.Proofs.Ytincgkolpicipaa.ops
open Go.RowKit

/-- The cells of a row. -/
def RowAt (w : World) (B : Nat) (xs : List Value) : Prop := ∀ j v, xs[j]? = some v → w.cell? ⟨B, j, none⟩ = some v
theorem RowAt.later {w w' : World} {B : Nat} {xs : List Value} (h : RowAt w B xs) (hb : Below w.heap.size w w') : RowAt w' B xs := fun j v hj => cell_later hb (h j v hj)
def node (k o : Int) (t : ByteArray) (m z : Int) : List Value := [.int .i64 k, .int .i64 o, .string t, .int .i64 m, .int .i64 z]

theorem made_one (k o m z : Int) (t : ByteArray) (w : World) : Calls Try.prog 14 #[.agg #[.int .i64 k, .int .i64 o, .string t, .int .i64 m, .int .i64 z], .slice none 0 0] w fun e w' => ∃ B, e = .returned (.slice (some ⟨B, 0, none⟩) 1 1) ∧ RowAt w' B (node k o t m 1) ∧ Below w.heap.size w w' := by
  go_enter Try.func14, Try.ntmps14
  go_wp2
  refine wp_loop_rounds 1 ?_
  rw [rounds_succ]
  go_wp2
  go_ret
  refine ⟨w.heap.size + 1, rfl, ?_, ((Below.refl _ _).alloc (Nat.le_refl _) _).alloc (by simp) _⟩
  intro j v hj
  rw [World.cell?_alloc_at _ _ _ _ (by simp)]
  simpa [node] using hj

theorem Try.info37 : (Try.prog.info? 37).map (fun i => (i.zero, i.size, i.bytes)) = some (some (.agg #[.int .i64 0, .int .i64 0, .string .empty, .int .i64 0, .int .i64 0]), 5, 48) := by kernel_rfl
theorem owns_first (w : World) (k o m z : Int) (t : ByteArray) : (w.alloc (.cells #[.int .i64 k, .int .i64 o, .string t, .int .i64 m, .int .i64 z] 37)).ownsRow w.heap.size 37 5 (.slice (some ⟨w.heap.size, 0, none⟩) 1 1) 1 (node k o t m z) :=
  ⟨rfl, .inr ⟨w.heap.size, 1, _, rfl, Nat.le_refl _, heap_alloc_new w _, Nat.le_refl _, by decide, rfl, rfl⟩⟩
set_option maxRecDepth 100000 in
theorem made_two (k o m z : Int) (t : ByteArray) (K A B : Nat) (k1 o1 m1 z1 k2 o2 m2 z2 : Int) (t1 t2 : ByteArray) (w : World) (h1 : w.cell? ⟨K, 0, none⟩ = some (.slice (some ⟨A, 0, none⟩) 1 1)) (h2 : w.cell? ⟨K, 1, none⟩ = some (.slice (some ⟨B, 0, none⟩) 1 1)) (hA : RowAt w A (node k1 o1 t1 m1 z1)) (hB : RowAt w B (node k2 o2 t2 m2 z2)) :
    Calls Try.prog 14 #[.agg #[.int .i64 k, .int .i64 o, .string t, .int .i64 m, .int .i64 z], .slice (some ⟨K, 0, none⟩) 2 2] w fun e w' => ∃ g cap, e = .returned (.slice (some ⟨g, 0, none⟩) 3 cap) ∧ 3 ≤ cap ∧ RowAt w' g (node k o t m 3 ++ node k1 o1 t1 m1 z1 ++ node k2 o2 t2 m2 z2) ∧ Below w.heap.size w w' := by
  obtain ⟨i0, hi, hz0, hz1, hz2⟩ := info_parts Try.info37
  have S : Hid (∀ w', Below w.heap.size w w' → w'.cell? ⟨K, 0, none⟩ = some (.slice (some ⟨A, 0, none⟩) 1 1) ∧ w'.cell? ⟨K, 1, none⟩ = some (.slice (some ⟨B, 0, none⟩) 1 1) ∧ RowAt w' A (node k1 o1 t1 m1 z1) ∧ RowAt w' B (node k2 o2 t2 m2 z2)) := fun w' hb => ⟨cell_later hb h1, cell_later hb h2, hA.later hb, hB.later hb⟩
  clear h1 h2 hA hB
  go_enter Try.func14, Try.ntmps14
  go_wp2
  refine wp_loop_rounds 3 ?_
  rw [rounds_succ]
  have hb0 : Below w.heap.size w ((w.alloc (.cells #[.int .i64 k, .int .i64 o, .string t, .int .i64 m, .int .i64 z] 37)).alloc (.cells #[.int .i64 k, .int .i64 o, .string t, .int .i64 m, .int .i64 z] 37)) := ((Below.refl _ _).alloc (Nat.le_refl _) _).alloc (by simp) _
  have hown := owns_first (w.alloc (.cells #[.int .i64 k, .int .i64 o, .string t, .int .i64 m, .int .i64 z] 37)) k o m z t
  have hWs : w.heap.size + 1 ≤ (((w.alloc (.cells #[.int .i64 k, .int .i64 o, .string t, .int .i64 m, .int .i64 z] 37)).alloc (.cells #[.int .i64 k, .int .i64 o, .string t, .int .i64 m, .int .i64 z] 37))).heap.size := by simp
  generalize ((w.alloc (.cells #[.int .i64 k, .int .i64 o, .string t, .int .i64 m, .int .i64 z] 37)).alloc (.cells #[.int .i64 k, .int .i64 o, .string t, .int .i64 m, .int .i64 z] 37)) = W at hb0 hown hWs ⊢
  simp only [World.size_alloc] at hown
  obtain ⟨s1, s2, s3, s4⟩ := S.out _ hb0
  have hz := hb0.size
  have hn1 : ∀ (k o m z : Int) (t : ByteArray), ∀ u ∈ node k o t m z, u.oneCell' = true := fun k o m z t u hu => by
    simp only [node, List.mem_cons, List.mem_nil_iff, or_false] at hu
    rcases hu with rfl | rfl | rfl | rfl | rfl <;> rfl
  have HR1 : Hid (∀ j u, (node k1 o1 t1 m1 z1)[j]? = some u → W.cell? ((⟨A, 0, none⟩ : Addr).add j) = some u) := fun j u hj => by
    have e : (⟨A, 0, none⟩ : Addr).add j = ⟨A, j, none⟩ := by simp [Addr.add]; omega
    rw [e]; exact s3 j u hj
  have HS1 : Hid (w.heap.size + 1 ≤ W.heap.size) := hWs
  have HN := Lib.hid hn1
  have HB0 := Lib.hid hb0
  clear s3 s4 hn1 hb0 hWs
  go_wp2_with (at_builtin; refine wpList_append_own _ rfl _ _ 34 rfl (w.heap.size + 1) 37 i0 (.agg #[.int .i64 0, .int .i64 0, .string .empty, .int .i64 0, .int .i64 0]) 5 48 Try.underlying34 hi hz0 hz1 hz2 rfl (by decide) _ _ _ rfl hown ⟨A, 0, none⟩ 1 1 (node k1 o1 t1 m1 z1) rfl rfl HR1.out (HN.out _ _ _ _ _) (by decide) (by decide) HS1.out ?_)
  intro v1 W1 hown1 hg1 _
  have hb1 : Below w.heap.size w W1 := HB0.out.grown hg1 (by have := HS1.out; omega) (fun j hj => by have := (hown.lt j hj).1; omega)
  obtain ⟨r1, r2, r3, r4⟩ := S.out _ hb1
  have HS2 : Hid (w.heap.size + 1 ≤ W1.heap.size) := Nat.le_trans HS1.out hg1.size
  have HR2 : Hid (∀ j u, (node k2 o2 t2 m2 z2)[j]? = some u → W1.cell? ((⟨B, 0, none⟩ : Addr).add j) = some u) := fun j u hj => by
    have e : (⟨B, 0, none⟩ : Addr).add j = ⟨B, j, none⟩ := by simp [Addr.add]; omega
    rw [e]; exact r4 j u hj
  have HB1 := Lib.hid hb1
  clear hb1 r3 r4 s1 s2 hown hg1 HR1 HB0
  go_wp2
  rw [rounds_succ]
  go_wp2_with (at_builtin; refine wpList_append_own _ rfl _ _ 34 rfl (w.heap.size + 1) 37 i0 (.agg #[.int .i64 0, .int .i64 0, .string .empty, .int .i64 0, .int .i64 0]) 5 48 Try.underlying34 hi hz0 hz1 hz2 rfl (by decide) _ _ _ rfl hown1 ⟨B, 0, none⟩ 1 1 (node k2 o2 t2 m2 z2) rfl rfl HR2.out (HN.out _ _ _ _ _) (by decide) (by decide) HS2.out ?_)
  intro v2 W2 hown2 hg2 _
  have hb2 : Below w.heap.size w W2 := HB1.out.grown hg2 (by have := HS2.out; omega) (fun j hj => by have := (hown1.lt j hj).1; omega)
  have HB2 := Lib.hid hb2
  clear hb2 r1 r2 hown1 hg2 HR2 HB1
  obtain ⟨g, cap, rfl, hge, hcap⟩ : ∃ g cap, v2 = .slice (some ⟨g, 0, none⟩) 3 cap ∧ w.heap.size + 1 ≤ g ∧ 3 ≤ cap := by
    rcases hown2.2 with ⟨_, h⟩ | ⟨g, cap, cur, h, hg, _, hn, _⟩
    · exact absurd h (by decide)
    · exact ⟨g, cap, h, hg, by omega⟩
  have HCAP := Lib.hid hcap
  clear hcap
  have hf := hown2.frozenAt 4
  have hc4 : W2.cell? ⟨g, 4, none⟩ = some (.int .i64 z) := by rw [hown2.cellAt 4 (by decide)]; rfl
  have hst := hown2.stored 4 (.int .i64 3)
  have HO := Lib.hid hown2
  have HST := Lib.hid hst
  clear hst hown2
  go_wp2
  rw [rounds_succ]
  go_wp2
  go_ret
  refine ⟨g, cap, rfl, HCAP.out, fun j v hj => ?_, HB2.out.grown HST.out.2 (by have := HB2.out.size; omega) (fun j hj => by cases hj; omega)⟩
  have hlt : j < 15 := by
    have := (List.getElem?_eq_some_iff.1 hj).1
    simpa [node] using this
  rw [HST.out.1.cellAt j hlt]
  simpa [node] using hj
end Go.Proofs.Ytincgkolpicipaa.ops

/- impl.FodderSplit and impl.FodderAppend by contract. -/
import Derived.Test.YtfdkgaipakannaaSpl
import Derived.Test.YtfdkgaipakannaaFodd
import Derived.Test.YtfdkgaipakannaaElts
import Derived.Test.YtfdkgaipakannaaPlain
namespace Go.Proofs.Ytfdkgaipakannaa.split
open Go.RowKit
set_option maxRecDepth 100000 in
set_option maxHeartbeats 1000000 in
theorem door_any (B : Nat) (v : Value) (es : List El) (w : World) (hB : B ≤ w.heap.size) (h : AEls B w v es) (hf : Fine es) (hl : es.length ≤ 200) :
    Calls Try.prog 23 #[v] w fun e w' => ∃ va vb, e = .returned (.tuple #[va, vb]) ∧ AEls B w' va (sp es).a ∧ AEls B w' vb (sp es).b ∧ Below w.heap.size w w' := by
  have H := Lib.hid (split_any B v es w hB h hf hl)
  clear h hf
  go_enter Try.func23, Try.ntmps23
  go_wp2_with (go_at_call 32; refine H.out.mono ?_; rintro e w1 ⟨va, vb, rfl, h1⟩; have H1 := Lib.hid h1; clear h1)
  go_ret2
  exact ⟨va, vb, rfl, H1.out⟩
/-- The comments stay what they were. -/
theorem sp_kinds (es : List El) (P : El → Prop) (h : ∀ e ∈ es, P e) (hb : ∀ e, P e → P (bare e)) (hl : ∀ b n, P ⟨0, b, n, []⟩) : (∀ e ∈ (sp es).a, P e) ∧ (∀ e ∈ (sp es).b, P e) := by
  revert h
  refine snoc_induction (P := fun es => (∀ e ∈ es, P e) → (∀ e ∈ (sp es).a, P e) ∧ (∀ e ∈ (sp es).b, P e)) (fun _ => ⟨(fun e h => by cases h), (fun e h => by cases h)⟩) ?_ _ es rfl
  intro l x ih h
  obtain ⟨h1, h2⟩ := ih fun e he => h e (List.mem_append_left _ he)
  have hx := h x (by simp)
  rw [sp_snoc]
  unfold spStep
  split
  · refine ⟨h1, fun e he => ?_⟩
    unfold appF at he
    split at he
    · simp at he
      rcases he with he | rfl | rfl
      · exact h2 e he
      · exact hl _ _
      · exact hx
    · simp at he
      rcases he with he | rfl
      · exact h2 e he
      · exact hx
  · split
    · refine ⟨fun e he => ?_, h2⟩
      simp at he
      rcases he with he | rfl
      · exact h1 e he
      · exact hx
    · refine ⟨fun e he => ?_, fun e he => ?_⟩
      · simp at he
        rcases he with he | rfl
        · exact h1 e he
        · exact hb x hx
      · split at he
        · simp at he
          rcases he with he | rfl
          · exact h2 e he
          · exact hl _ _
        · exact h2 e he
set_option maxRecDepth 100000 in
set_option maxHeartbeats 1000000 in
theorem fodderSplit_any (v : Value) (es : List El) (w : World) (h : Els w v es) (hk : ∀ e ∈ es, KindOk e) (hf : Fine es) (hl : es.length ≤ 200) :
    Calls Try.prog 12 #[v] w fun e w' => ∃ va vb, e = .returned (.tuple #[va, vb, .bool true]) ∧ Els w' va (sp es).a ∧ Els w' vb (sp es).b ∧ Below w.heap.size w w' := by
  have H1 := Lib.hid (fodder_made w.heap.size v es w (Nat.le_refl _) h hk (by omega))
  have HD := Lib.hid (fun v' w' (hb : Below w.heap.size w w') (h' : AEls w.heap.size w' v' es) => door_any w.heap.size v' es w' hb.size h' hf hl)
  have hsl := sp_len es
  have hsk := sp_kinds es (fun e => e.c.length ≤ 1000) (fun e he => (hk e he).c) (fun e he => by unfold bare; split <;> exact he) (fun _ _ => by simp)
  have HEA := Lib.hid (fun v' w' (hb : Below w.heap.size w w') (h' : AEls w.heap.size w' v' (sp es).a) => elements_made w.heap.size v' (sp es).a w' hb.size h' hsk.1 (by omega))
  have HEB := Lib.hid (fun v' w' (hb : Below w.heap.size w w') (h' : AEls w.heap.size w' v' (sp es).b) => elements_made w.heap.size v' (sp es).b w' hb.size h' hsk.2 (by omega))
  clear h hk hf hsl hsk
  go_enter Try.func12, Try.ntmps12
  go_wp2_with fail
  refine H1.out.mono ?_
  rintro e w1 ⟨v1, rfl, ps, hps, hown, hb1⟩
  have HB1 := Lib.hid hb1
  have HR1 : Hid (AEls w.heap.size w1 v1 es) := by have := hown.reads; rw [hps, List.take_of_length_le (Nat.le_refl _)] at this; exact this
  clear hps hown hb1
  go_wp2_with fail
  refine (HD.out _ _ HB1.out HR1.out).mono ?_
  rintro e w2 ⟨va, vb, rfl, ha, hb, hb2⟩
  have HB2 := Lib.hid (step_after HB1.out hb2)
  have HA := Lib.hid ha
  have HBb := Lib.hid hb
  clear ha hb hb2
  go_wp2_with fail
  refine (HEA.out _ _ HB2.out HA.out).mono ?_
  rintro e w3 ⟨va', rfl, ps3, hps3, hown3, hb3⟩
  have HB3 := Lib.hid (step_after HB2.out hb3)
  have HBb3 := Lib.hid (HBb.out.later hb3)
  have HR3 : Hid (Els w3 va' (sp es).a) := by have := hown3.reads; rw [hps3, List.take_of_length_le (Nat.le_refl _)] at this; exact this
  clear hps3 hown3 hb3 HBb HA
  go_wp2_with fail
  refine (HEB.out _ _ HB3.out HBb3.out).mono ?_
  rintro e w4 ⟨vb', rfl, ps4, hps4, hown4, hb4⟩
  have HB4 := Lib.hid (step_after HB3.out hb4)
  have HR34 := Lib.hid (HR3.out.later hb4)
  have HR4 : Hid (Els w4 vb' (sp es).b) := by have := hown4.reads; rw [hps4, List.take_of_length_le (Nat.le_refl _)] at this; exact this
  clear hps4 hown4 hb4
  go_wp2
  go_ret3
  exact ⟨va', vb', rfl, HR34.out, HR4.out, HB4.out⟩
end Go.Proofs.Ytfdkgaipakannaa.split

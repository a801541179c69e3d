/- splitFodder in plain words, and what its rounds leave. -/
import Derived.Test.YtfdkgaipakannaaApp3
namespace Go.Proofs.Ytfdkgaipakannaa.split
open Go.RowKit
structure Sp where
  a : List El
  b : List El
  f : Bool
def bare (e : El) : El := if 0 < e.b then { e with b := 0 } else e
def spStep (s : Sp) (e : El) : Sp :=
  if s.f then ⟨s.a, appF s.b e, true⟩
  else if e.k = 1 then ⟨s.a ++ [e], s.b, false⟩
  else ⟨s.a ++ [bare e], if 0 < e.b then s.b ++ [⟨0, e.b, e.n, []⟩] else s.b, true⟩
def sp (es : List El) : Sp := es.foldl spStep ⟨[], [], false⟩
theorem sp_snoc (es : List El) (e : El) : sp (es ++ [e]) = spStep (sp es) e := by simp [sp, List.foldl_append]
theorem sp_take {es : List El} {k : Nat} {e : El} (h : es[k]? = some e) : sp (es.take (k + 1)) = spStep (sp (es.take k)) e := by
  rw [List.take_add_one, h]; exact sp_snoc _ _
theorem appF_len (es : List El) (e : El) : (appF es e).length ≤ es.length + 2 := by unfold appF; split <;> simp
theorem snoc_induction {P : List El → Prop} (h0 : P []) (h1 : ∀ l e, P l → P (l ++ [e])) : ∀ (n : Nat) (es : List El), es.length = n → P es
  | 0, es, h => by rw [List.length_eq_zero_iff.1 h]; exact h0
  | n + 1, es, h => by
    rcases List.eq_nil_or_concat es with rfl | ⟨r, x, rfl⟩
    · cases h
    · rw [List.concat_eq_append]
      exact h1 r x (snoc_induction h0 h1 n r (by simpa using h))
theorem sp_len (es : List El) : (sp es).a.length ≤ es.length ∧ (sp es).b.length ≤ 2 * es.length ∧ ((sp es).f = false → (sp es).b = []) := by
  refine snoc_induction (P := fun es => (sp es).a.length ≤ es.length ∧ (sp es).b.length ≤ 2 * es.length ∧ ((sp es).f = false → (sp es).b = [])) ⟨Nat.le_refl _, Nat.le_refl _, fun _ => rfl⟩ ?_ _ es rfl
  intro l e ⟨h1, h2, h3⟩
  rw [sp_snoc]
  unfold spStep
  cases hf : (sp l).f
  · have hb := h3 hf
    simp only [Bool.false_eq_true, if_false]
    split
    · exact ⟨by simp; omega, by simp; omega, fun _ => hb⟩
    · split
      · exact ⟨by simp; omega, by simp [hb]; omega, fun h => by cases h⟩
      · exact ⟨by simp; omega, by simp; omega, fun h => by cases h⟩
  · simp only [if_true]
    exact ⟨by simp; omega, by have := appF_len (sp l).b e; simp; omega, fun h => by cases h⟩
/-- No line's end is merged into another one. -/
def Fine (es : List El) : Prop := ∀ k e, es[k]? = some e → (sp (es.take k)).f = true → clean (sp (es.take k)).b = true → e.k ≠ 0
theorem rowA_set_last (ps : List (Value × El)) (cv : Value) (e : El) (z : Int) : (rowA (ps ++ [(cv, e)])).set (ps.length * 4 + 2) (.int .i64 z) = rowA (ps ++ [(cv, { e with b := z })]) := by
  rw [rowA_snoc, rowA_snoc, List.set_append_right _ _ (by rw [rowA_len]; omega), rowA_len]
  have : ps.length * 4 + 2 - ps.length * 4 = 2 := by omega
  rw [this]
  rfl
/-- What holds at the head of each round of splitFodder. -/
structure SRel (B pb : Nat) (w : World) (s : Sp) (v : Value) (wr : World) : Prop where
  ex : ∃ v2 ps1 ps2, ps1.map (·.2) = s.a ∧ ps2.map (·.2) = s.b ∧ OwnA wr w.heap.size B v ps1 ∧ OwnA wr w.heap.size B v2 ps2 ∧ wr.heap[pb]? = some (.cells #[v2] 44 (0, 0)) ∧ (∀ g, v.ownBlock = some g → v2.ownBlock ≠ some g)
  bel : Below w.heap.size w wr
end Go.Proofs.Ytfdkgaipakannaa.split

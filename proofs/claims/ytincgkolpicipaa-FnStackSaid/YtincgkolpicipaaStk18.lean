/- FnStack: impl.Stack by contract. -/
import Derived.Test.YtincgkolpicipaaStk17
namespace Go.Proofs.Ytincgkolpicipaa.stack
open Go.RowKit
def fixS (i : Nat) (e : Sx) : Sx := ⟨e.k, if e.k = 3 then e.num else i, e.names, e.name, e.trim⟩
def fx (es : List Sx) : Nat → List Sx
  | 0 => []
  | k + 1 => match es[k]? with
    | some e => fx es k ++ [fixS k e]
    | none => fx es k
theorem fx_succ {es : List Sx} {k : Nat} {e : Sx} (h : es[k]? = some e) : fx es (k + 1) = fx es k ++ [fixS k e] := by rw [fx, h]
theorem fx_len (es : List Sx) : ∀ k, k ≤ es.length → (fx es k).length = k
  | 0, _ => rfl
  | k + 1, h => by
    rw [fx_succ (List.getElem?_eq_getElem (by omega)), List.length_append, fx_len es k (by omega)]; rfl
theorem fx_at (es : List Sx) (i : Nat) (e : Sx) (hi : es[i]? = some e) : ∀ k, k ≤ es.length → i < k → (fx es k)[i]? = some (fixS i e)
  | 0, _, h => by omega
  | k + 1, hk, h => by
    have hx : es[k]? = some es[k] := List.getElem?_eq_getElem (by omega)
    rw [fx_succ hx]
    by_cases e1 : i = k
    · subst e1
      rw [hi] at hx; cases hx
      rw [List.getElem?_append_right (by rw [fx_len es i (by omega)]; omega), fx_len es i (by omega), Nat.sub_self]; rfl
    · rw [List.getElem?_append_left (by rw [fx_len es k (by omega)]; omega)]
      exact fx_at es i e hi k (by omega) (by omega)
theorem rn_fx (es : List Sx) : ∀ k, k ≤ es.length → rn (fx es es.length) k = rn es k
  | 0, _ => rfl
  | k + 1, h => by
    have hx : es[k]? = some es[k] := List.getElem?_eq_getElem (by omega)
    rw [rn_succ hx, rn_succ (fx_at es k _ hx es.length (Nat.le_refl _) (by omega)), rn_fx es k (by omega)]
    have h1 : stepS (rn es k).st k (fixS k es[k]) = stepS (rn es k).st k es[k] := by
      unfold stepS fixS
      by_cases h3 : es[k].k = 3
      · simp [h3]
      · simp [h3]
    have h2 : ansS (rn es k).st (fixS k es[k]) = ansS (rn es k).st es[k] := rfl
    unfold rnStep
    rw [h1, h2]
theorem good_fx (es : List Sx) (hl : es.length ≤ 200) (hb : ∀ (i : Nat) (e : Sx), es[i]? = some e → badK e = false) : Good (fx es es.length) := by
  refine ⟨by rw [fx_len es _ (Nat.le_refl _)]; exact hl, fun i e he => ?_⟩
  have hi : i < es.length := by have := (List.getElem?_eq_some_iff.1 he).1; rwa [fx_len es _ (Nat.le_refl _)] at this
  have hx : es[i]? = some es[i] := List.getElem?_eq_getElem hi
  rw [fx_at es i _ hx _ (Nat.le_refl _) hi] at he
  cases he
  have := hb i _ hx
  unfold badK at this
  simp only [Bool.or_eq_false_iff, decide_eq_false_iff_not] at this
  obtain ⟨d1, d2, d3⟩ := this
  refine ⟨by show 1 ≤ es[i].k; omega, by show es[i].k ≤ 5; omega, fun h3 => ?_, fun h3 => ?_⟩
  · have h3' : es[i].k = 3 := h3
    rw [h3'] at d3
    show 1 ≤ (if es[i].k = 3 then es[i].num else (i : Int))
    rw [if_pos h3']
    simp at d3; omega
  · have h3' : ¬ es[i].k = 3 := h3
    show (if es[i].k = 3 then es[i].num else (i : Int)) = i
    rw [if_neg h3']
/-- The cells of steps. -/
def rowX (ps : List (Value × Sx)) : List Value := ps.flatMap fun p => [.int .i64 p.2.k, p.1, .string p.2.name, .int .i64 p.2.num, .bool p.2.trim]
theorem rowX_snoc (ps : List (Value × Sx)) (p : Value × Sx) : rowX (ps ++ [p]) = rowX ps ++ [.int .i64 p.2.k, p.1, .string p.2.name, .int .i64 p.2.num, .bool p.2.trim] := by simp [rowX]
theorem rowX_at : ∀ (ps : List (Value × Sx)) (i : Nat) (p : Value × Sx), ps[i]? = some p →
    (rowX ps)[i * 5]? = some (.int .i64 p.2.k) ∧ (rowX ps)[i * 5 + 1]? = some p.1 ∧ (rowX ps)[i * 5 + 2]? = some (.string p.2.name) ∧ (rowX ps)[i * 5 + 3]? = some (.int .i64 p.2.num) ∧ (rowX ps)[i * 5 + 4]? = some (.bool p.2.trim)
  | [], i, p, h => by simp at h
  | x :: r, 0, p, h => by
    simp at h; subst h
    exact ⟨rfl, rfl, rfl, rfl, rfl⟩
  | x :: r, i + 1, p, h => by
    have ih := rowX_at r i p (by simpa using h)
    have e : ∀ j, (rowX (x :: r))[(i + 1) * 5 + j]? = (rowX r)[i * 5 + j]? := fun j => by
      have : (i + 1) * 5 + j = i * 5 + j + 5 := by omega
      rw [this]; rfl
    exact ⟨(e 0).trans ih.1, (e 1).trans ih.2.1, (e 2).trans ih.2.2.1, (e 3).trans ih.2.2.2.1, (e 4).trans ih.2.2.2.2⟩
/-- A row of steps that the call owns. -/
structure XO (w W : World) (v : Value) (ps : List (Value × Sx)) : Prop where
  own : W.ownsRow w.heap.size 51 5 v ps.length (rowX ps)
  all : ∀ p ∈ ps, Strs w p.1 p.2.names ∧ p.2.name.size ≤ 9223372036854775807
  bel : Below w.heap.size w W
theorem XO.reads {w W : World} {v : Value} {ps : List (Value × Sx)} (h : XO w W v ps) : Sxs W v (ps.map (·.2)) := by
  obtain ⟨A, cap, rfl, _, hm, hg⟩ := owns_form h.own
  refine ⟨A, cap, by simp, by rw [List.length_map, ← maxLen_eq]; exact hm, fun i e he => ?_⟩
  rw [List.getElem?_map] at he
  obtain ⟨p, hp, rfl⟩ := Option.map_eq_some_iff.1 he
  have hi : i < ps.length := (List.getElem?_eq_some_iff.1 hp).1
  obtain ⟨g, rfl⟩ := hg (by omega)
  obtain ⟨r0, r1, r2, r3, r4⟩ := rowX_at ps i p hp
  obtain ⟨hs, hz⟩ := h.all p (List.mem_of_getElem? hp)
  refine ⟨g, 0, rfl, ?_, ?_, ?_, ?_, hz, p.1, ?_, hs.later h.bel⟩
  · rw [Nat.zero_add, h.own.cellAt _ (by omega)]; exact r0
  · rw [Nat.zero_add, h.own.cellAt _ (by omega)]; exact r2
  · rw [Nat.zero_add, h.own.cellAt _ (by omega)]; exact r3
  · rw [Nat.zero_add, h.own.cellAt _ (by omega)]; exact r4
  · rw [Nat.zero_add, h.own.cellAt _ (by omega)]; exact r1
theorem xo_app {w W W' : World} {v : Value} {ps : List (Value × Sx)} {p : Value × Sx} {q cap : Nat} {wr : World} (h : XO w wr v ps) (hs : Strs w p.1 p.2.names) (hz : p.2.name.size ≤ 9223372036854775807) (hb : Below wr.heap.size wr W)
    (ho : W'.ownsRow w.heap.size 51 5 (.slice (some ⟨q, 0, none⟩) (ps.length + 1) cap) (ps.length + 1) (rowX ps ++ [.int .i64 p.2.k, p.1, .string p.2.name, .int .i64 p.2.num, .bool p.2.trim])) (hg : W.grownBy W' v.ownBlock) :
    XO w W' (.slice (some ⟨q, 0, none⟩) (ps.length + 1) cap) (ps ++ [p]) := by
  refine ⟨by rw [rowX_snoc]; simpa using ho, fun p' hp => ?_, ?_⟩
  · rcases List.mem_append.1 hp with hp | hp
    · exact h.all p' hp
    · obtain rfl := List.mem_singleton.1 hp
      exact ⟨hs, hz⟩
  · exact (step_after h.bel hb).trans (((Chg.refl (fun k => v.ownBlock = some k) _).grown hg fun k hk _ => hk).toBelow (Nat.le_trans h.bel.size hb.size) fun k hk => (h.own.lt k hk).1)
theorem Try.info51 : (Try.prog.info? 51).map (fun i => (i.zero, i.size, i.bytes)) = some (some (.agg #[.int .i64 0, .slice none 0 0, .string { data := #[] }, .int .i64 0, .bool false]), 5, 64) := by kernel_rfl
/-- What impl.Stack tells. -/
structure StackD (w W : World) (es : List Sx) (e : Ending) : Prop where
  bel : Below w.heap.size w W
  yes : rightB es = true → ∃ v2 v3 v4, e = .returned (.tuple #[v2, v3, v4, .bool true]) ∧ Ints W v2 (rn es es.length).f ∧ Ints W v3 (rn es es.length).n ∧ Ints W v4 (rn es es.length).c
  no : rightB es = false → e = .returned (.tuple #[.slice none 0 0, .slice none 0 0, .slice none 0 0, .bool false])
end Go.Proofs.Ytincgkolpicipaa.stack

/- FnStepsTwice: put7 by contract. -/
import Derived.Test.YtincgkolpicipaaDoorSt19
import Derived.Deep.AppendSrc
import Derived.Deep.Slices
namespace Go.Proofs.YtincgkolpicipaaDoor.twice
open Go.RowKit Go.Deep
theorem Tryd.info29 : (Tryd.prog.info? 29).map (fun i => (i.zero, i.size, i.bytes)) = some (some (.agg #[.bool false, .string { data := #[] }, .slice none 0 0, .slice none 0 0]), 4, 72) := by kernel_rfl
def rowP (ps : List Pc) : List Value := ps.flatMap fun p => [.bool p.e.is, .string ⟨p.e.rem.toArray⟩, p.nv, p.hv]
theorem rowP_len (ps : List Pc) : (rowP ps).length = ps.length * 4 := by
  induction ps with
  | nil => rfl
  | cons x r ih => simp only [rowP, List.flatMap_cons, List.length_append, List.length_cons, List.length_nil] at ih ⊢; omega
theorem rowP_append (ps qs : List Pc) : rowP (ps ++ qs) = rowP ps ++ rowP qs := by simp [rowP]
theorem rowP_at : ∀ (ps : List Pc) (i : Nat) (p : Pc), ps[i]? = some p →
    (rowP ps)[i * 4]? = some (.bool p.e.is) ∧ (rowP ps)[i * 4 + 1]? = some (.string ⟨p.e.rem.toArray⟩) ∧ (rowP ps)[i * 4 + 2]? = some p.nv ∧ (rowP ps)[i * 4 + 3]? = some p.hv
  | [], i, p, h => by simp at h
  | x :: r, 0, p, h => by
    simp at h; subst h
    exact ⟨rfl, rfl, rfl, rfl⟩
  | x :: r, i + 1, p, h => by
    have ih := rowP_at r i p (by simpa using h)
    have e : ∀ j, (rowP (x :: r))[(i + 1) * 4 + j]? = (rowP r)[i * 4 + j]? := fun j => by
      have : (i + 1) * 4 + j = i * 4 + j + 4 := by omega
      rw [this]; rfl
    exact ⟨(e 0).trans ih.1, (e 1).trans ih.2.1, (e 2).trans ih.2.2.1, (e 3).trans ih.2.2.2⟩
theorem rowP_find : ∀ (ps : List Pc) (j : Nat) (u : Value), (rowP ps)[j]? = some u → ∃ p, ps[j / 4]? = some p ∧ [Value.bool p.e.is, .string ⟨p.e.rem.toArray⟩, p.nv, p.hv][j % 4]? = some u
  | [], j, u, h => by simp [rowP] at h
  | x :: r, j, u, h => by
    by_cases hj : j < 4
    · refine ⟨x, by rw [Nat.div_eq_of_lt hj]; rfl, ?_⟩
      rw [Nat.mod_eq_of_lt hj]
      have : (rowP (x :: r))[j]? = ([Value.bool x.e.is, .string ⟨x.e.rem.toArray⟩, x.nv, x.hv] ++ rowP r)[j]? := rfl
      rw [this, List.getElem?_append_left (by simpa using hj)] at h
      exact h
    · have e : (rowP (x :: r))[j]? = (rowP r)[j - 4]? := by
        have : (rowP (x :: r))[j]? = ([Value.bool x.e.is, .string ⟨x.e.rem.toArray⟩, x.nv, x.hv] ++ rowP r)[j]? := rfl
        rw [this, List.getElem?_append_right (by simp; omega)]; rfl
      rw [e] at h
      obtain ⟨p, hp, hu⟩ := rowP_find r (j - 4) u h
      refine ⟨p, ?_, ?_⟩
      · rw [show j / 4 = (j - 4) / 4 + 1 by omega, List.getElem?_cons_succ]; exact hp
      · rw [show j % 4 = (j - 4) % 4 by omega]; exact hu
/-- The elements of a slice of steps, as cells. -/
structure Cells (w : World) (A : Option Addr) (ps : List Pc) (es : List Sp) : Prop where
  es : ps.map (·.e) = es
  cell : ∀ (i : Nat) p, ps[i]? = some p → ∃ q o, A = some ⟨q, o, none⟩ ∧ w.cell? ⟨q, o + i * 4, none⟩ = some (.bool p.e.is) ∧ w.cell? ⟨q, o + i * 4 + 1, none⟩ = some (.string ⟨p.e.rem.toArray⟩) ∧ w.cell? ⟨q, o + i * 4 + 2, none⟩ = some p.nv ∧ w.cell? ⟨q, o + i * 4 + 3, none⟩ = some p.hv
  more : ∀ p ∈ ps, p.e.rem.length ≤ 9223372036854775807 ∧ Strs w p.nv p.e.names ∧ Ints w p.hv p.e.hides
theorem Sps.cells {w : World} {v : Value} {es : List Sp} (h : Sps w v es) : ∃ A cap ps, v = .slice A es.length cap ∧ es.length ≤ cap ∧ Cells w A ps es := by
  obtain ⟨A, cap, rfl, hcp, hl, hc⟩ := h
  have each : ∀ i, i < es.length → ∃ p : Pc, es[i]? = some p.e ∧ (∃ q o, A = some ⟨q, o, none⟩ ∧ w.cell? ⟨q, o + i * 4, none⟩ = some (.bool p.e.is) ∧ w.cell? ⟨q, o + i * 4 + 1, none⟩ = some (.string ⟨p.e.rem.toArray⟩) ∧ w.cell? ⟨q, o + i * 4 + 2, none⟩ = some p.nv ∧ w.cell? ⟨q, o + i * 4 + 3, none⟩ = some p.hv) ∧ p.e.rem.length ≤ 9223372036854775807 ∧ Strs w p.nv p.e.names ∧ Ints w p.hv p.e.hides := fun i hi => by
    have he : es[i]? = some es[i] := List.getElem?_eq_getElem hi
    obtain ⟨q, o, hA, c0, c1, hrl, nv, hv, c2, c3, hst, hin⟩ := hc i _ he
    exact ⟨⟨nv, hv, es[i]⟩, he, ⟨q, o, hA, c0, c1, c2, c3⟩, hrl, hst, hin⟩
  obtain ⟨F, hF⟩ : ∃ F : Nat → Pc, ∀ i, i < es.length → es[i]? = some (F i).e ∧ (∃ q o, A = some ⟨q, o, none⟩ ∧ w.cell? ⟨q, o + i * 4, none⟩ = some (.bool (F i).e.is) ∧ w.cell? ⟨q, o + i * 4 + 1, none⟩ = some (.string ⟨(F i).e.rem.toArray⟩) ∧ w.cell? ⟨q, o + i * 4 + 2, none⟩ = some (F i).nv ∧ w.cell? ⟨q, o + i * 4 + 3, none⟩ = some (F i).hv) ∧ (F i).e.rem.length ≤ 9223372036854775807 ∧ Strs w (F i).nv (F i).e.names ∧ Ints w (F i).hv (F i).e.hides := by
    haveI : Inhabited Pc := ⟨⟨.nilIface, .nilIface, ⟨false, [], [], []⟩⟩⟩
    exact choose_lt each
  have hat : ∀ (i : Nat) p, ((List.range es.length).map F)[i]? = some p → i < es.length ∧ p = F i := fun i p hp => by
    rw [List.getElem?_map] at hp
    obtain ⟨i', hi', rfl⟩ := Option.map_eq_some_iff.1 hp
    have hil : i < es.length := by have := (List.getElem?_eq_some_iff.1 hi').1; simpa using this
    rw [List.getElem?_range hil] at hi'
    exact ⟨hil, by rw [Option.some.inj hi']⟩
  refine ⟨A, cap, (List.range es.length).map F, rfl, hcp, ?_, fun i p hp => ?_, fun p hp => ?_⟩
  · apply List.ext_getElem?
    intro i
    by_cases hi : i < es.length
    · rw [List.getElem?_map, List.getElem?_map, List.getElem?_range hi, (hF i hi).1]; rfl
    · rw [List.getElem?_eq_none (by simp; omega), List.getElem?_eq_none (by omega)]
  · obtain ⟨hi, rfl⟩ := hat i p hp
    exact (hF i hi).2.1
  · obtain ⟨i, hi⟩ := List.getElem?_of_mem hp
    obtain ⟨hil, rfl⟩ := hat i p hi
    exact (hF i hil).2.2
theorem Cells.at {w : World} {A : Option Addr} {ps : List Pc} {es : List Sp} (h : Cells w A ps es) {q o : Nat} (hA : A = some ⟨q, o, none⟩) (j : Nat) (u : Value) (hu : (rowP ps)[j]? = some u) : w.cell? ⟨q, o + j, none⟩ = some u := by
  obtain ⟨p, hp, h2⟩ := rowP_find ps j u hu
  obtain ⟨q', o', hA', c0, c1, c2, c3⟩ := h.cell _ p hp
  rw [hA] at hA'
  cases hA'
  have hm : j % 4 = 0 ∨ j % 4 = 1 ∨ j % 4 = 2 ∨ j % 4 = 3 := by omega
  rcases hm with e | e | e | e
  · rw [e] at h2; cases h2; rw [show o + j = o + j / 4 * 4 by omega]; exact c0
  · rw [e] at h2; cases h2; rw [show o + j = o + j / 4 * 4 + 1 by omega]; exact c1
  · rw [e] at h2; cases h2; rw [show o + j = o + j / 4 * 4 + 2 by omega]; exact c2
  · rw [e] at h2; cases h2; rw [show o + j = o + j / 4 * 4 + 3 by omega]; exact c3
theorem Cells.one {w : World} {A : Option Addr} {ps : List Pc} {es : List Sp} (h : Cells w A ps es) : ∀ u ∈ rowP ps, u.oneCell' = true := fun u hu => by
  obtain ⟨j, hj⟩ := List.getElem?_of_mem hu
  obtain ⟨p, hp, h2⟩ := rowP_find ps j u hj
  obtain ⟨-, hs, hi⟩ := h.more p (List.mem_of_getElem? hp)
  obtain ⟨A1, c1, e1⟩ := hs.form
  obtain ⟨A2, c2, e2⟩ := hi.form
  have hm : j % 4 = 0 ∨ j % 4 = 1 ∨ j % 4 = 2 ∨ j % 4 = 3 := by omega
  rcases hm with e | e | e | e
  · rw [e] at h2; cases h2; rfl
  · rw [e] at h2; cases h2; rfl
  · rw [e] at h2; cases h2; rw [e1]; rfl
  · rw [e] at h2; cases h2; rw [e2]; rfl
/-- A row of steps of the call's own reads as steps. -/
theorem sps_of_row {w W : World} {v : Value} {ps : List Pc} (h : W.ownsRow w.heap.size 29 4 v ps.length (rowP ps)) (hb : Below w.heap.size w W) (hm : ∀ p ∈ ps, p.e.rem.length ≤ 9223372036854775807 ∧ Strs w p.nv p.e.names ∧ Ints w p.hv p.e.hides) : Sps W v (ps.map (·.e)) := by
  obtain ⟨A, cap, rfl, hcp, hmx, hg⟩ := owns_form h
  refine ⟨A, cap, by simp, by simpa using hcp, by rw [List.length_map, ← maxLen_eq]; exact hmx, fun i e he => ?_⟩
  rw [List.getElem?_map] at he
  obtain ⟨p, hp, rfl⟩ := Option.map_eq_some_iff.1 he
  have hi : i < ps.length := (List.getElem?_eq_some_iff.1 hp).1
  obtain ⟨g, rfl⟩ := hg (by omega)
  obtain ⟨r0, r1, r2, r3⟩ := rowP_at ps i p hp
  obtain ⟨hz, hs, hi2⟩ := hm p (List.mem_of_getElem? hp)
  refine ⟨g, 0, rfl, ?_, ?_, hz, p.nv, p.hv, ?_, ?_, hs.later hb, hi2.later hb⟩
  · rw [Nat.zero_add, h.cellAt _ (by omega)]; exact r0
  · rw [Nat.zero_add, h.cellAt _ (by omega)]; exact r1
  · rw [Nat.zero_add, h.cellAt _ (by omega)]; exact r2
  · rw [Nat.zero_add, h.cellAt _ (by omega)]; exact r3
end Go.Proofs.YtincgkolpicipaaDoor.twice

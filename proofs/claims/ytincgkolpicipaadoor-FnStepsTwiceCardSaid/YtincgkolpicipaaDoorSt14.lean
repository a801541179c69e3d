/- FnStepsTwice: rows of numbers and of steps that a call owns. -/
import Derived.Test.YtincgkolpicipaaDoorSt13
namespace Go.Proofs.YtincgkolpicipaaDoor.twice
open Go.RowKit
theorem types_apart {W : World} {B B' e e' size size' n n' : Nat} {u v : Value} {xs ys : List Value} (hu : W.ownsRow B e size u n xs) (hv : W.ownsRow B' e' size' v n' ys) (hne : e ≠ e') : ∀ g, u.ownBlock = some g → v.ownBlock ≠ some g := fun g h1 h2 => by
  obtain ⟨a, ha⟩ := own_type hu h1
  obtain ⟨b, hb⟩ := own_type hv h2
  rw [ha] at hb
  injection hb with hb
  injection hb with _ ht
  exact hne ht
theorem owns_base {W : World} {B B' e size n : Nat} {u : Value} {xs : List Value} (h : W.ownsRow B e size u n xs) (hB : B' ≤ B) : W.ownsRow B' e size u n xs := by
  obtain ⟨h1, h2⟩ := h
  refine ⟨h1, ?_⟩
  rcases h2 with h2 | ⟨g, cap, cur, rfl, hg, r⟩
  · exact .inl h2
  · exact .inr ⟨g, cap, cur, rfl, Nat.le_trans hB hg, r⟩
/-- A row of numbers that the call owns. -/
def IntsO (W : World) (B : Nat) (v : Value) (xs : List Int) : Prop := W.ownsRow B 3 1 v xs.length (xs.map (Value.int .i64))
theorem IntsO.none_ {W : World} {B : Nat} : IntsO W B (.slice none 0 0) [] := World.ownsRow_nil _ _ _ _
theorem IntsO.reads {W : World} {B : Nat} {v : Value} {xs : List Int} (h : IntsO W B v xs) : Ints W v xs := by
  obtain ⟨A, cap, rfl, _, hm, hg⟩ := owns_form h
  refine ⟨A, cap, rfl, by rw [← maxLen_eq]; exact hm, fun i z hz => ?_⟩
  have hi : i < xs.length := (List.getElem?_eq_some_iff.1 hz).1
  obtain ⟨g, rfl⟩ := hg (by omega)
  refine ⟨g, 0, rfl, ?_⟩
  rw [Nat.zero_add, World.ownsRow.cellAt h i (by omega), List.getElem?_map, hz]; rfl
structure Pc where
  nv : Value
  hv : Value
  e : Sp
def rowC (ps : List Pc) : List Value := ps.flatMap fun p => [.string ⟨p.e.rem.toArray⟩, p.nv, p.hv, .bool p.e.is]
theorem rowC_snoc (ps : List Pc) (p : Pc) : rowC (ps ++ [p]) = rowC ps ++ [.string ⟨p.e.rem.toArray⟩, p.nv, p.hv, .bool p.e.is] := by simp [rowC]
theorem rowC_at : ∀ (ps : List Pc) (i : Nat) (p : Pc), ps[i]? = some p →
    (rowC ps)[i * 4]? = some (.string ⟨p.e.rem.toArray⟩) ∧ (rowC ps)[i * 4 + 1]? = some p.nv ∧ (rowC ps)[i * 4 + 2]? = some p.hv ∧ (rowC ps)[i * 4 + 3]? = some (.bool p.e.is)
  | [], i, p, h => by simp at h
  | x :: r, 0, p, h => by
    simp at h; subst h
    exact ⟨rfl, rfl, rfl, rfl⟩
  | x :: r, i + 1, p, h => by
    have ih := rowC_at r i p (by simpa using h)
    have e : ∀ j, (rowC (x :: r))[(i + 1) * 4 + j]? = (rowC r)[i * 4 + j]? := fun j => by
      have : (i + 1) * 4 + j = i * 4 + j + 4 := by omega
      rw [this]; rfl
    exact ⟨(e 0).trans ih.1, (e 1).trans ih.2.1, (e 2).trans ih.2.2.1, (e 3).trans ih.2.2.2⟩
/-- A row of steps that the call owns; their names lie in the world w0, their hides in rows of the call's own. -/
structure CO (w W : World) (v : Value) (ps : List Pc) : Prop where
  own : W.ownsRow w.heap.size 52 4 v ps.length (rowC ps)
  all : ∀ p ∈ ps, Strs w p.nv p.e.names ∧ p.e.rem.length ≤ 9223372036854775807 ∧ IntsO W w.heap.size p.hv p.e.hides
  bel : Below w.heap.size w W
theorem CO.none_ (w : World) : CO w w (.slice none 0 0) [] := ⟨World.ownsRow_nil _ _ _ _, (fun p hp => by cases hp), Below.refl _ _⟩
theorem CO.later {w W W' : World} {v : Value} {ps : List Pc} (h : CO w W v ps) (hb : Below W.heap.size W W') : CO w W' v ps :=
  ⟨owns_chg h.own (Chg.below (X := fun _ => False) hb) fun _ _ h => h, fun p hp => ⟨(h.all p hp).1, (h.all p hp).2.1, owns_chg (h.all p hp).2.2 (Chg.below (X := fun _ => False) hb) fun _ _ h => h⟩, step_after h.bel hb⟩
theorem CO.reads {w W : World} {v : Value} {ps : List Pc} (h : CO w W v ps) : Css W v (ps.map (·.e)) := by
  obtain ⟨A, cap, rfl, _, hm, hg⟩ := owns_form h.own
  refine ⟨A, cap, by simp, by rw [List.length_map, ← maxLen_eq]; exact hm, fun i e he => ?_⟩
  rw [List.getElem?_map] at he
  obtain ⟨p, hp, rfl⟩ := Option.map_eq_some_iff.1 he
  have hi : i < ps.length := (List.getElem?_eq_some_iff.1 hp).1
  obtain ⟨g, rfl⟩ := hg (by omega)
  obtain ⟨r0, r1, r2, r3⟩ := rowC_at ps i p hp
  obtain ⟨hs, hz, hi2⟩ := h.all p (List.mem_of_getElem? hp)
  refine ⟨g, 0, rfl, ?_, ?_, hz, p.nv, p.hv, ?_, ?_, hs.later h.bel, hi2.reads⟩
  · rw [Nat.zero_add, h.own.cellAt _ (by omega)]; exact r0
  · rw [Nat.zero_add, h.own.cellAt _ (by omega)]; exact r3
  · rw [Nat.zero_add, h.own.cellAt _ (by omega)]; exact r1
  · rw [Nat.zero_add, h.own.cellAt _ (by omega)]; exact r2
theorem CO.app {w wr W W' : World} {v : Value} {ps : List Pc} {p : Pc} {q cap : Nat} (h : CO w wr v ps) (hb : Below wr.heap.size wr W) (hs : Strs w p.nv p.e.names) (hz : p.e.rem.length ≤ 9223372036854775807) (hi : IntsO W w.heap.size p.hv p.e.hides)
    (ho : W'.ownsRow w.heap.size 52 4 (.slice (some ⟨q, 0, none⟩) (ps.length + 1) cap) (ps.length + 1) (rowC ps ++ [.string ⟨p.e.rem.toArray⟩, p.nv, p.hv, .bool p.e.is])) (hg : W.grownBy W' v.ownBlock) : CO w W' (.slice (some ⟨q, 0, none⟩) (ps.length + 1) cap) (ps ++ [p]) := by
  have h1 := h.later hb
  have hx : Chg (fun k => v.ownBlock = some k) W W' := (Chg.refl _ _).grown hg fun k hk _ => hk
  refine ⟨by rw [rowC_snoc]; simpa using ho, fun p' hp => ?_, h1.bel.trans (hx.toBelow h1.bel.size fun k hk => (h1.own.lt k hk).1)⟩
  rcases List.mem_append.1 hp with hp | hp
  · obtain ⟨a, b, c⟩ := h1.all p' hp
    exact ⟨a, b, owns_chg c hx fun k hk hX => types_apart c h1.own (by decide) k hk hX⟩
  · obtain rfl := List.mem_singleton.1 hp
    exact ⟨hs, hz, owns_chg hi hx fun k hk hX => types_apart hi h1.own (by decide) k hk hX⟩
/-- The hides in jsonnet's numbers. -/
def cv (e : Sp) : Sp := ⟨e.is, e.rem, e.names, e.hides.map hideJ⟩
/-- What a round's inner loop keeps: the step in its own block, its hides in a row of their own. -/
structure InR (wr : World) (b : Nat) (s : Sp) (nv hv : Value) (xs : List Int) (W : World) : Prop where
  blk : W.heap[b]? = some (.cells #[.string ⟨s.rem.toArray⟩, nv, hv, .bool s.is] 52 (0, 0))
  row : IntsO W wr.heap.size hv xs
  bel : Below wr.heap.size wr W
  low : wr.heap.size ≤ b
theorem InR.cell {wr W : World} {b : Nat} {s : Sp} {nv hv : Value} {xs : List Int} (h : InR wr b s nv hv xs W) (j : Nat) : W.cell? ⟨b, j, none⟩ = #[.string ⟨s.rem.toArray⟩, nv, hv, .bool s.is][j]? := cell_of_row W b j _ _ _ h.blk
/-- One number more. -/
theorem InR.app {wr W W' : World} {b : Nat} {s : Sp} {nv hv : Value} {xs : List Int} {z : Int} {q cap : Nat} {ob : Obj} (h : InR wr b s nv hv xs W) (ho : W'.ownsRow wr.heap.size 3 1 (.slice (some ⟨q, 0, none⟩) (xs.length + 1) cap) (xs.length + 1) (xs.map (Value.int .i64) ++ [.int .i64 z])) (hg : (W.alloc ob).grownBy W' hv.ownBlock) :
    (W'.cell? ⟨b, 2, none⟩ = some hv ∧ W'.frozen? ⟨b, 2, none⟩ = false) ∧ InR wr b s nv (.slice (some ⟨q, 0, none⟩) (xs.length + 1) cap) (xs ++ [z]) (W'.setCell ⟨b, 2, none⟩ (.slice (some ⟨q, 0, none⟩) (xs.length + 1) cap)) := by
  have hrow := owns_chg h.row (Chg.below (X := fun _ => False) (ba1 W ob)) fun _ _ h => h
  have hx : Chg (fun k => hv.ownBlock = some k) (W.alloc ob) W' := (Chg.refl _ _).grown hg fun k hk _ => hk
  have hblk0 : (W.alloc ob).heap[b]? = _ := kp1 _ _ _ _ h.blk
  have hoff : ¬ hv.ownBlock = some b := fun e => by
    obtain ⟨cs, e1⟩ := own_type hrow e
    rw [hblk0] at e1; cases e1
  have hblk := hx.keep hblk0 hoff
  have hb1 := (h.bel.alloc h.bel.size ob).trans (hx.toBelow (h.bel.alloc h.bel.size ob).size fun k hk => (hrow.lt k hk).1)
  have c : Chg (fun k => k = b) W' (W'.setCell ⟨b, 2, none⟩ (.slice (some ⟨q, 0, none⟩) (xs.length + 1) cap)) := Chg.setCell (X := fun k => k = b) (p := ⟨b, 2, none⟩) (Chg.refl _ _) (fun _ => rfl) _
  refine ⟨⟨cell_of_row W' b 2 _ _ _ hblk, frozen_of_row W' b 2 _ _ hblk⟩, heap_setCell_same W' b 2 _ _ _ hblk, ?_, hb1.trans (c.toBelow hb1.size fun k hk => by have := h.low; omega), h.low⟩
  have := owns_chg ho c (fun k hk hX => by
    subst hX
    obtain ⟨cs, e1⟩ := own_type ho hk
    rw [hblk] at e1; cases e1)
  unfold IntsO
  simpa using this
end Go.Proofs.YtincgkolpicipaaDoor.twice

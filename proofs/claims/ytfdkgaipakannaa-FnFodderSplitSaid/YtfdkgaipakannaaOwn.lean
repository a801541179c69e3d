/- Fodder in memory of the call's own: rows of elements, their comments; what a step leaves as it was. -/
import Derived.Test.YtfdkgaipakannaaEls
import Derived.Maps.AppendAt
import Derived.Deep.AppendLies
import Derived.Laws.OwnMore
namespace Go.Proofs.Ytfdkgaipakannaa.split
open Go.RowKit
/-- But for the blocks X the world w' is as w was, with more blocks. -/
structure Chg (X : Nat → Prop) (w w' : World) : Prop where
  os : w'.os = w.os
  tape : w'.tape = w.tape
  output : w'.output = w.output
  size : w.heap.size ≤ w'.heap.size
  block : ∀ k, k < w.heap.size → ¬ X k → w'.heap[k]? = w.heap[k]?
section
variable {X Y : Nat → Prop} {a w w' : World}
theorem Chg.refl (X : Nat → Prop) (w : World) : Chg X w w := ⟨rfl, rfl, rfl, Nat.le_refl _, fun _ _ _ => rfl⟩
theorem Chg.step (h : Chg X a w) (k : Chg Y w w') (hY : ∀ i, i < a.heap.size → Y i → X i) : Chg X a w' :=
  ⟨k.os.trans h.os, k.tape.trans h.tape, k.output.trans h.output, Nat.le_trans h.size k.size, fun i hi hn => (k.block i (Nat.lt_of_lt_of_le hi h.size) (fun hy => hn (hY i hi hy))).trans (h.block i hi hn)⟩
theorem Chg.trans (h : Chg X a w) (k : Chg X w w') : Chg X a w' := h.step k fun _ _ h => h
theorem Chg.weak (h : Chg X a w) (hX : ∀ i, i < a.heap.size → X i → Y i) : Chg Y a w :=
  ⟨h.os, h.tape, h.output, h.size, fun i hi hn => h.block i hi (fun hx => hn (hX i hi hx))⟩
theorem Chg.drew (h : Chg X a w) : Chg X a w.drew := ⟨h.os, h.tape, h.output, h.size, h.block⟩
theorem Chg.alloc (h : Chg X a w) (o : Obj) : Chg X a (w.alloc o) :=
  ⟨h.os, h.tape, h.output, Nat.le_trans h.size (by simp), fun i hi hn => (Below.heap_alloc w o i (Nat.lt_of_lt_of_le hi h.size)).trans (h.block i hi hn)⟩
theorem Chg.below (h : Below w.heap.size w w') : Chg X w w' := ⟨h.os, h.tape, h.output, h.size, fun i hi _ => h.block i hi⟩
theorem Chg.grown (h : Chg X a w) {row : Option Nat} (hg : w.grownBy w' row) (hr : ∀ k, row = some k → k < a.heap.size → X k) : Chg X a w' :=
  ⟨hg.os.trans h.os, hg.tape.trans h.tape, hg.output.trans h.output, Nat.le_trans h.size hg.size, fun i hi hn => (hg.block i (Nat.lt_of_lt_of_le hi h.size) (fun e => hn (hr i e.symm hi))).trans (h.block i hi hn)⟩
theorem Chg.setCell (h : Chg X a w) {p : Addr} (hp : p.block < a.heap.size → X p.block) (u : Value) : Chg X a (w.setCell p u) :=
  ⟨h.os, h.tape, h.output, by simpa using h.size, fun i hi hn => (Below.heap_setCell w p u i (by rintro rfl; exact hn (hp hi))).trans (h.block i hi hn)⟩
theorem Chg.toBelow (h : Chg X a w) {B : Nat} (hB : B ≤ a.heap.size) (hX : ∀ i, X i → B ≤ i) : Below B a w :=
  ⟨h.os, h.tape, h.output, h.size, fun i hi => h.block i (by omega) (fun hx => by have := hX i hx; omega)⟩
theorem Chg.cell (h : Chg X a w) {p : Addr} {v : Value} (hc : a.cell? p = some v) (hn : ¬ X p.block) : w.cell? p = some v := by
  rw [World.cell?_of_block (w := a) (h.block p.block (block_lt_of_cell hc) hn)]; exact hc
theorem Chg.keep (h : Chg X a w) {k : Nat} {o : Obj} (hc : a.heap[k]? = some o) (hn : ¬ X k) : w.heap[k]? = some o :=
  (h.block k (Array.getElem?_eq_some_iff.1 hc).1 hn).trans hc
end
/-- A comment: strings that lie below block B, or in a block of strings. -/
def Cmt (B : Nat) (W : World) (v : Value) (ss : List ByteArray) : Prop :=
  Strs W v ss ∧ ∀ q o n c, v = .slice (some ⟨q, o, none⟩) n c → 0 < n → q < B ∨ ∃ cs fr, W.heap[q]? = some (.cells cs 9 fr)
/-- Blocks whose change harms no comment. -/
def Safe (B : Nat) (W : World) (X : Nat → Prop) : Prop := ∀ k, X k → B ≤ k ∧ ∀ cs fr, W.heap[k]? ≠ some (.cells cs 9 fr)
theorem Safe.none {B : Nat} {W : World} : Safe B W (fun _ => False) := fun _ h => h.elim
theorem Cmt.chg {B : Nat} {W W' : World} {v : Value} {ss : List ByteArray} {X : Nat → Prop} (h : Cmt B W v ss) (hs : Safe B W X) (hx : Chg X W W') : Cmt B W' v ss := by
  obtain ⟨⟨A, cap, hv, hl, hc⟩, ht⟩ := h
  refine ⟨⟨A, cap, hv, hl, fun j s hj => ?_⟩, fun q o n c e hn => ?_⟩
  · obtain ⟨hz, q, o, rfl, hcell⟩ := hc j s hj
    refine ⟨hz, q, o, rfl, hx.cell hcell fun hX => ?_⟩
    have hpos : 0 < ss.length := by have := (List.getElem?_eq_some_iff.1 hj).1; omega
    rcases ht q o ss.length cap hv hpos with h1 | ⟨cs, fr, h1⟩
    · have := (hs q hX).1; omega
    · exact (hs q hX).2 cs fr h1
  · rcases ht q o n c e hn with h1 | ⟨cs, fr, h1⟩
    · exact .inl h1
    · exact .inr ⟨cs, fr, hx.keep h1 fun hX => (hs q hX).2 cs fr h1⟩
theorem Cmt.later {B : Nat} {W W' : World} {v : Value} {ss : List ByteArray} (h : Cmt B W v ss) (hb : Below W.heap.size W W') : Cmt B W' v ss := h.chg Safe.none (Chg.below hb)
/-- The cells of ast's elements, comments first; of impl's elements, comments last. -/
def rowA (ps : List (Value × El)) : List Value := ps.flatMap fun p => [p.1, .int .i64 p.2.k, .int .i64 p.2.b, .int .i64 p.2.n]
def rowE (ps : List (Value × El)) : List Value := ps.flatMap fun p => [.int .i64 p.2.k, .int .i64 p.2.b, .int .i64 p.2.n, p.1]
theorem rowA_snoc (ps : List (Value × El)) (p : Value × El) : rowA (ps ++ [p]) = rowA ps ++ [p.1, .int .i64 p.2.k, .int .i64 p.2.b, .int .i64 p.2.n] := by simp [rowA]
theorem rowE_snoc (ps : List (Value × El)) (p : Value × El) : rowE (ps ++ [p]) = rowE ps ++ [.int .i64 p.2.k, .int .i64 p.2.b, .int .i64 p.2.n, p.1] := by simp [rowE]
theorem rowA_at : ∀ (ps : List (Value × El)) (i : Nat) (p : Value × El), ps[i]? = some p →
    (rowA ps)[i * 4]? = some p.1 ∧ (rowA ps)[i * 4 + 1]? = some (.int .i64 p.2.k) ∧ (rowA ps)[i * 4 + 2]? = some (.int .i64 p.2.b) ∧ (rowA ps)[i * 4 + 3]? = some (.int .i64 p.2.n)
  | [], i, p, h => by simp at h
  | x :: r, 0, p, h => by
    simp at h; subst h
    exact ⟨rfl, rfl, rfl, rfl⟩
  | x :: r, i + 1, p, h => by
    have ih := rowA_at r i p (by simpa using h)
    have e : ∀ j, (rowA (x :: r))[(i + 1) * 4 + j]? = (rowA r)[i * 4 + j]? := fun j => by
      have : (i + 1) * 4 + j = i * 4 + j + 4 := by omega
      rw [this]; rfl
    exact ⟨(e 0).trans ih.1, (e 1).trans ih.2.1, (e 2).trans ih.2.2.1, (e 3).trans ih.2.2.2⟩
theorem rowE_at : ∀ (ps : List (Value × El)) (i : Nat) (p : Value × El), ps[i]? = some p →
    (rowE ps)[i * 4]? = some (.int .i64 p.2.k) ∧ (rowE ps)[i * 4 + 1]? = some (.int .i64 p.2.b) ∧ (rowE ps)[i * 4 + 2]? = some (.int .i64 p.2.n) ∧ (rowE ps)[i * 4 + 3]? = some p.1
  | [], i, p, h => by simp at h
  | x :: r, 0, p, h => by
    simp at h; subst h
    exact ⟨rfl, rfl, rfl, rfl⟩
  | x :: r, i + 1, p, h => by
    have ih := rowE_at r i p (by simpa using h)
    have e : ∀ j, (rowE (x :: r))[(i + 1) * 4 + j]? = (rowE r)[i * 4 + j]? := fun j => by
      have : (i + 1) * 4 + j = i * 4 + j + 4 := by omega
      rw [this]; rfl
    exact ⟨(e 0).trans ih.1, (e 1).trans ih.2.1, (e 2).trans ih.2.2.1, (e 3).trans ih.2.2.2⟩
/-- A row of ast's elements that the call owns. -/
def OwnA (W : World) (base B : Nat) (v : Value) (ps : List (Value × El)) : Prop := W.ownsRow base 55 4 v ps.length (rowA ps) ∧ ∀ p ∈ ps, Cmt B W p.1 p.2.c
def OwnE (W : World) (base B : Nat) (v : Value) (ps : List (Value × El)) : Prop := W.ownsRow base 34 4 v ps.length (rowE ps) ∧ ∀ p ∈ ps, Cmt B W p.1 p.2.c
theorem owns_chg {X : Nat → Prop} {W W' : World} {base e size n : Nat} {v : Value} {xs : List Value} (h : W.ownsRow base e size v n xs) (hx : Chg X W W') (hv : ∀ k, v.ownBlock = some k → ¬ X k) : W'.ownsRow base e size v n xs := by
  obtain ⟨h1, h2⟩ := h
  refine ⟨h1, ?_⟩
  rcases h2 with h2 | ⟨g, cap, cur, rfl, hg, hh, r⟩
  · exact .inl h2
  · exact .inr ⟨g, cap, cur, rfl, hg, hx.keep hh (hv g rfl), r⟩
theorem OwnA.chg {X : Nat → Prop} {W W' : World} {base B : Nat} {v : Value} {ps : List (Value × El)} (h : OwnA W base B v ps) (hs : Safe B W X) (hx : Chg X W W') (hv : ∀ k, v.ownBlock = some k → ¬ X k) : OwnA W' base B v ps :=
  ⟨owns_chg h.1 hx hv, fun p hp => (h.2 p hp).chg hs hx⟩
theorem OwnE.chg {X : Nat → Prop} {W W' : World} {base B : Nat} {v : Value} {ps : List (Value × El)} (h : OwnE W base B v ps) (hs : Safe B W X) (hx : Chg X W W') (hv : ∀ k, v.ownBlock = some k → ¬ X k) : OwnE W' base B v ps :=
  ⟨owns_chg h.1 hx hv, fun p hp => (h.2 p hp).chg hs hx⟩
theorem OwnA.later {W W' : World} {base B : Nat} {v : Value} {ps : List (Value × El)} (h : OwnA W base B v ps) (hb : Below W.heap.size W W') : OwnA W' base B v ps := h.chg Safe.none (Chg.below hb) fun _ _ h => h
theorem OwnA.none_ {W : World} {base B : Nat} : OwnA W base B (.slice none 0 0) [] := ⟨World.ownsRow_nil _ _ _ _, fun p hp => by cases hp⟩
theorem OwnE.none_ {W : World} {base B : Nat} : OwnE W base B (.slice none 0 0) [] := ⟨World.ownsRow_nil _ _ _ _, fun p hp => by cases hp⟩
/-- The block of a row of elements may be written: no comment lies in it. -/
theorem safe_of_row {W : World} {base B e size n : Nat} {v : Value} {xs : List Value} (h : W.ownsRow base e size v n xs) (he : e ≠ 9) (hB : B ≤ base) : Safe B W (fun k => v.ownBlock = some k) := by
  intro k hk
  refine ⟨Nat.le_trans hB (h.lt k hk).1, fun cs fr hc => ?_⟩
  rcases h.2 with ⟨rfl, _⟩ | ⟨g, cap, cur, rfl, _, hh, _⟩
  · simp [Value.ownBlock] at hk
  · have : g = k := by simpa [Value.ownBlock] using hk
    subst this
    rw [hh] at hc
    injection hc with hc
    injection hc with _ ht
    exact he ht
/-- A slice of ast's elements, to be read. -/
def AEls (B : Nat) (W : World) (v : Value) (es : List El) : Prop :=
  ∃ (A : Option Addr) (cap : Nat), v = .slice A es.length cap ∧ es.length ≤ 9223372036854775807 ∧ ∀ i e, es[i]? = some e → ∃ q o cv, A = some ⟨q, o, none⟩ ∧
    W.cell? ⟨q, o + i * 4, none⟩ = some cv ∧ W.cell? ⟨q, o + i * 4 + 1, none⟩ = some (.int .i64 e.k) ∧ W.cell? ⟨q, o + i * 4 + 2, none⟩ = some (.int .i64 e.b) ∧ W.cell? ⟨q, o + i * 4 + 3, none⟩ = some (.int .i64 e.n) ∧ Cmt B W cv e.c
theorem AEls.later {B : Nat} {W W' : World} {v : Value} {es : List El} (h : AEls B W v es) (hb : Below W.heap.size W W') : AEls B W' v es := by
  obtain ⟨A, cap, hv, hl, h⟩ := h
  exact ⟨A, cap, hv, hl, fun j s hj => by
    obtain ⟨q, o, cv, ha, h0, h1, h2, h3, h4⟩ := h j s hj
    exact ⟨q, o, cv, ha, cell_later hb h0, cell_later hb h1, cell_later hb h2, cell_later hb h3, h4.later hb⟩⟩
theorem owns_form {W : World} {base e size n : Nat} {v : Value} {xs : List Value} (h : W.ownsRow base e size v n xs) : ∃ A cap, v = .slice A n cap ∧ n ≤ cap ∧ n ≤ maxLen ∧ (0 < n → ∃ g, A = some ⟨g, 0, none⟩) := by
  rcases h.2 with ⟨rfl, rfl⟩ | ⟨g, cap, cur, rfl, _, _, h1, h2, _⟩
  · exact ⟨none, 0, rfl, Nat.le_refl _, by simp [maxLen], fun h => by omega⟩
  · exact ⟨_, cap, rfl, h1, Nat.le_trans h1 h2, fun _ => ⟨g, rfl⟩⟩
theorem rowA_len (ps : List (Value × El)) : (rowA ps).length = ps.length * 4 := by
  induction ps with
  | nil => rfl
  | cons x r ih => simp only [rowA, List.flatMap_cons, List.length_append, List.length_cons, List.length_nil] at ih ⊢; omega
theorem rowE_len (ps : List (Value × El)) : (rowE ps).length = ps.length * 4 := by
  induction ps with
  | nil => rfl
  | cons x r ih => simp only [rowE, List.flatMap_cons, List.length_append, List.length_cons, List.length_nil] at ih ⊢; omega
theorem maxLen_eq : maxLen = 9223372036854775807 := by decide
theorem OwnA.reads {W : World} {base B : Nat} {v : Value} {ps : List (Value × El)} (h : OwnA W base B v ps) : AEls B W v (ps.map (·.2)) := by
  obtain ⟨A, cap, rfl, _, hm, hg⟩ := owns_form h.1
  refine ⟨A, cap, by simp, by rw [List.length_map, ← maxLen_eq]; exact hm, fun i e he => ?_⟩
  rw [List.getElem?_map] at he
  obtain ⟨p, hp, rfl⟩ := Option.map_eq_some_iff.1 he
  have hi : i < ps.length := (List.getElem?_eq_some_iff.1 hp).1
  obtain ⟨g, rfl⟩ := hg (by omega)
  obtain ⟨r0, r1, r2, r3⟩ := rowA_at ps i p hp
  refine ⟨g, 0, p.1, rfl, ?_, ?_, ?_, ?_, h.2 p (List.mem_of_getElem? hp)⟩
  · rw [Nat.zero_add, h.1.cellAt _ (by omega)]; exact r0
  · rw [Nat.zero_add, h.1.cellAt _ (by omega)]; exact r1
  · rw [Nat.zero_add, h.1.cellAt _ (by omega)]; exact r2
  · rw [Nat.zero_add, h.1.cellAt _ (by omega)]; exact r3
theorem OwnE.reads {W : World} {base B : Nat} {v : Value} {ps : List (Value × El)} (h : OwnE W base B v ps) : Els W v (ps.map (·.2)) := by
  obtain ⟨A, cap, rfl, _, hm, hg⟩ := owns_form h.1
  refine ⟨A, cap, by simp, by rw [List.length_map, ← maxLen_eq]; exact hm, fun i e he => ?_⟩
  rw [List.getElem?_map] at he
  obtain ⟨p, hp, rfl⟩ := Option.map_eq_some_iff.1 he
  have hi : i < ps.length := (List.getElem?_eq_some_iff.1 hp).1
  obtain ⟨g, rfl⟩ := hg (by omega)
  obtain ⟨r0, r1, r2, r3⟩ := rowE_at ps i p hp
  refine ⟨g, 0, rfl, ?_, ?_, ?_, p.1, ?_, (h.2 p (List.mem_of_getElem? hp)).1⟩
  · rw [Nat.zero_add, h.1.cellAt _ (by omega)]; exact r0
  · rw [Nat.zero_add, h.1.cellAt _ (by omega)]; exact r1
  · rw [Nat.zero_add, h.1.cellAt _ (by omega)]; exact r2
  · rw [Nat.zero_add, h.1.cellAt _ (by omega)]; exact r3
end Go.Proofs.Ytfdkgaipakannaa.split

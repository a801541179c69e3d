/- The builder's state, and how it goes from world to world. -/
import Derived.Test.YtincgkolpicipaaNoder
namespace Go.Proofs.Ytincgkolpicipaa.tree
open Go.RowKit
structure Nd where
  k : Int
  o : Int
  t : ByteArray
  m : Int
  z : Int
/-- But for the row in block N the world w' is as w was, with more blocks; that row is one still, of as many cells. -/
structure Aside (N : Nat) (w w' : World) : Prop where
  os : w'.os = w.os
  tape : w'.tape = w.tape
  output : w'.output = w.output
  size : w.heap.size ≤ w'.heap.size
  block : ∀ k, k < w.heap.size → k ≠ N → w'.heap[k]? = w.heap[k]?
  row : ∀ cs, w.heap[N]? = some (.cells cs 65 (0, 0)) → ∃ cs' : Array Value, w'.heap[N]? = some (.cells cs' 65 (0, 0)) ∧ cs'.size = cs.size
theorem Aside.of {N : Nat} {w w' : World} (h : Below w.heap.size w w') : Aside N w w' :=
  ⟨h.os, h.tape, h.output, h.size, fun k hk _ => h.block k hk, fun cs hc => ⟨cs, hkeep h hc, rfl⟩⟩
theorem Aside.refl (N : Nat) (w : World) : Aside N w w := Aside.of (Below.refl _ _)
theorem Aside.trans {N : Nat} {a b c : World} (h : Aside N a b) (k : Aside N b c) : Aside N a c :=
  ⟨k.os.trans h.os, k.tape.trans h.tape, k.output.trans h.output, Nat.le_trans h.size k.size, fun i hi hn => (k.block i (Nat.lt_of_lt_of_le hi h.size) hn).trans (h.block i hi hn), fun cs hc => by
    obtain ⟨c1, h1, e1⟩ := h.row cs hc
    obtain ⟨c2, h2, e2⟩ := k.row c1 h1
    exact ⟨c2, h2, e2.trans e1⟩⟩
theorem Aside.below {N B : Nat} {w w' : World} (h : Aside N w w') (hN : B ≤ N) (hB : B ≤ w.heap.size) : Below B w w' :=
  ⟨h.os, h.tape, h.output, h.size, fun k hk => h.block k (by omega) (by omega)⟩
theorem Aside.place {N i : Nat} {w : World} (u : Value) : Aside N w (w.setCell ⟨N, i, none⟩ u) := by
  refine ⟨rfl, rfl, rfl, by simp, fun k _ hn => Below.heap_setCell _ _ _ _ hn, fun cs hc => ?_⟩
  refine ⟨cs.setIfInBounds i u, ?_, by simp⟩
  rw [setCell_eq_setRow w N i cs 65 (0, 0) u hc]
  exact setRow_heap w N cs _ 65 _ hc
theorem Aside.cell {N : Nat} {w w' : World} (h : Aside N w w') {a : Addr} {v : Value} (hc : w.cell? a = some v) (hn : a.block ≠ N) : w'.cell? a = some v := by
  rw [World.cell?_of_block (w := w) (h.block a.block (block_lt_of_cell hc) hn)]; exact hc
theorem Aside.keep {N : Nat} {w w' : World} (h : Aside N w w') {k : Nat} {o : Obj} (hc : w.heap[k]? = some o) (hn : k ≠ N) : w'.heap[k]? = some o :=
  (h.block k (Array.getElem?_eq_some_iff.1 hc).1 hn).trans hc
theorem KidsAt.aside {B N : Nat} {W W' : World} {v : Value} {ks : List Nat} (h : KidsAt B W v ks) (ha : Aside N W W') (hN : N < B) : KidsAt B W' v ks := by
  rcases h with h | ⟨q, cap, h, hB, hq, hk, hc⟩
  · exact .inl h
  · exact .inr ⟨q, cap, h, hB, Nat.lt_of_lt_of_le hq ha.size, hk, fun j hj => ha.cell (hc j hj) (by show q ≠ N; omega)⟩
/-- The builder of the nodes ns: in block b; the nodes in block g, the places in block N. -/
structure Bd (W : World) (b g cap N : Nat) (ns : List Nd) : Prop where
  c0 : W.cell? ⟨b, 0, none⟩ = some (.slice (some ⟨g, 0, none⟩) ns.length cap)
  c1 : W.cell? ⟨b, 1, none⟩ = some (.bool false)
  c2 : W.cell? ⟨b, 2, none⟩ = some (.bool false)
  c3 : W.cell? ⟨b, 3, none⟩ = some (.slice (some ⟨N, 0, none⟩) ns.length ns.length)
  nodes : ∀ i n, ns[i]? = some n → NodeAt W g i n.k n.o n.t n.m n.z
  places : ∃ cs : Array Value, W.heap[N]? = some (.cells cs 65 (0, 0)) ∧ cs.size = ns.length
  nb : b ≠ N
  ng : g ≠ N
theorem Bd.aside {W W' : World} {b g cap N : Nat} {ns : List Nd} (h : Bd W b g cap N ns) (ha : Aside N W W') : Bd W' b g cap N ns := by
  refine ⟨ha.cell h.c0 h.nb, ha.cell h.c1 h.nb, ha.cell h.c2 h.nb, ha.cell h.c3 h.nb, fun i n hn => ?_, ?_, h.nb, h.ng⟩
  · obtain ⟨a0, a1, a2, a3, a4⟩ := h.nodes i n hn
    exact ⟨ha.cell a0 h.ng, ha.cell a1 h.ng, ha.cell a2 h.ng, ha.cell a3 h.ng, ha.cell a4 h.ng⟩
  · obtain ⟨cs, hc, hs⟩ := h.places
    obtain ⟨cs', hc', hs'⟩ := ha.row cs hc
    exact ⟨cs', hc', hs'.trans hs⟩
theorem Bd.later {W W' : World} {b g cap N : Nat} {ns : List Nd} (h : Bd W b g cap N ns) (hb : Below W.heap.size W W') : Bd W' b g cap N ns := h.aside (Aside.of hb)
theorem Bd.place {W : World} {b g cap N : Nat} {ns : List Nd} (h : Bd W b g cap N ns) {i : Nat} (hi : i < ns.length) : (∃ u, W.cell? ⟨N, i, none⟩ = some u) ∧ W.frozen? ⟨N, i, none⟩ = false := by
  obtain ⟨cs, hc, hs⟩ := h.places
  obtain ⟨r1, r2⟩ := row_parts hc
  exact ⟨⟨cs[i]'(by omega), by rw [r1]; exact Array.getElem?_eq_getElem (by omega)⟩, r2 i⟩
theorem drewN_below (w : World) (n : Nat) : Below w.heap.size w (w.drewN n) := ⟨rfl, rfl, rfl, Nat.le_refl _, fun _ _ => rfl⟩

/-- builder.node, if builder.made is known. -/
theorem node_made (b g cap N i : Nat) (ns : List Nd) (P : Nat → Value → World → Prop) (w : World) (h : Bd w b g cap N ns) (hi : i < ns.length)
    (hm : ∀ w', Below w.heap.size w w' → Calls Try.prog 68 #[.pointer (some ⟨b, 0, none⟩), .int .i64 i] w' fun e w'' => ∃ T p, e = .returned (.iface T p) ∧ P T p w'' ∧ Aside N w' w'') :
    Calls Try.prog 55 #[.pointer (some ⟨b, 0, none⟩), .int .i64 i] w fun e w' => ∃ T p W, e = .returned (.iface T p) ∧ P T p W ∧ Aside N w W ∧ w' = W.setCell ⟨N, i, none⟩ (.iface T p) := by
  refine (node_any b N ns.length i (fun T p W => P T p W ∧ Aside N w W) w hi (fun e => h.nb e.symm) h.c3 fun n => ?_).mono ?_
  · refine (hm _ (drewN_below w n)).mono ?_
    rintro e w' ⟨T, p, he, hp, ha⟩
    have hb := (h.later (drewN_below w n)).aside ha
    exact ⟨T, p, he, ⟨hp, (Aside.of (drewN_below w n)).trans ha⟩, hb.c3, (hb.place hi).1, (hb.place hi).2⟩
  · rintro e w' ⟨T, p, W, he, ⟨hp, ha⟩, hw⟩
    exact ⟨T, p, W, he, hp, ha, hw⟩
end Go.Proofs.Ytincgkolpicipaa.tree

/- FnStepsTwice: impl.Visible: what its loops keep. -/
import Derived.Test.YtincgkolpicipaaDoorSt17
namespace Go.Proofs.YtincgkolpicipaaDoor.twice
open Go.RowKit
theorem Tryd.info9 : (Tryd.prog.info? 9).map (fun i => (i.zero, i.size, i.bytes)) = some (some (.string { data := #[] }), 1, 16) := by kernel_rfl
set_option maxRecDepth 100000 in
/-- 'm[k]'. -/
theorem MapV.get {W : World} {b n : Nat} {f : Vw} (h : MapV hR W b f n) (k : List UInt8) (hk : k.length ≤ maxLen) {c : Int} (hc : f k = some c) : (Instr.lookup 40 (.map (some b)) (.string ⟨k.toArray⟩) false).run Tryd.prog W = .ok (.int .i64 c) W := by
  obtain ⟨D, h1, h2⟩ := h
  obtain ⟨v, q, r1, r2⟩ := World.ownsMap.lookup h1 keyed9 Tryd.underlying40 (z := .int .i64 0) (by kernel_rfl) (zd := .lit (.int .i64 0)) (zp := []) rfl (key := .string ⟨k.toArray⟩) (WideMaps.keyOf_string_mk Tryd.underlying9 hk)
  rw [((h2 k).2 c hc).2] at r2
  obtain ⟨c', rfl, e⟩ := hR_inv r2
  injection e with e _
  injection e with e
  injection e with _ e
  rw [r1, e]
theorem cells_no_map {W : World} {B e size n : Nat} {u : Value} {xs : List Value} {b m : Nat} {D : DataW Unit} (h : W.ownsRow B e size u n xs) (hm : W.ownsMap Tryd.prog 9 hR b m D) : some b ≠ u.ownBlock := fun e1 => by
  obtain ⟨cs, e2⟩ := own_type h e1.symm
  obtain ⟨es, ck, e3, _⟩ := hm
  rw [e3] at e2; cases e2
structure KRel (w : World) (b r n N : Nat) (D : DataW Unit) (v : Value) (wr : World) : Prop where
  ex : ∃ (left : Lit → Bool) (cnt : Nat) (ss : List (List UInt8)), wr.ranges Tryd.prog 9 hR b r n D left cnt ∧ Collected D left ss ∧ StrsO wr w.heap.size v ss ∧ (ss = [] → v = .slice none 0 0) ∧ ss.length + cnt ≤ N ∧ ∀ s ∈ ss, s.length ≤ 9223372036854775807
  bel : Below w.heap.size w wr
theorem krel_start {w wX w0 : World} {b n : Nat} {D : DataW Unit} (hw : Below w.heap.size w wX) (hown : wX.ownsMap Tryd.prog 9 hR b n D) (hrg0 : w0.ranges Tryd.prog 9 hR b wX.heap.size n D (Maps.has D) (Maps.size D)) (hg0 : wX.grownBy w0 none) : KRel w b wX.heap.size n n D (.slice none 0 0) w0 :=
  ⟨⟨_, _, [], hrg0, Collected.start D, World.ownsRow_nil _ _ _ _, fun _ => rfl, by simpa using hown.size_le, fun s h => by cases h⟩,
    hw.trans (((Chg.refl (fun _ => False) _).grown hg0 fun k hk _ => by cases hk).toBelow hw.size fun _ h => h.elim)⟩
theorem krel_step {w wr w1 w2 : World} {b r n N cnt cnt1 q cap : Nat} {D : DataW Unit} {v : Value} {left : Lit → Bool} {ss : List (List UInt8)} {x : List UInt8} {ob : Obj} {y : DataW Unit} (hbel : Below w.heap.size w wr) (hr : w.heap.size ≤ r) (hC : Collected D left ss) (hrow : StrsO wr w.heap.size v ss) (hle : ss.length + cnt ≤ N) (hall : ∀ s ∈ ss, s.length ≤ 9223372036854775807) (hlt : cnt1 < cnt)
    (hrg : wr.ranges Tryd.prog 9 hR b r n D left cnt) (hrg1 : w1.ranges Tryd.prog 9 hR b r n D (fun z => left z && !z.sameKey (.string x)) cnt1) (hg1 : wr.grownBy w1 (some r)) (hlk : left (.string x) = true) (hat : ∀ zd, D.atKey (.string x) zd = y) (hx : x.length ≤ 9223372036854775807)
    (ho : w2.ownsRow w.heap.size 9 1 (.slice (some ⟨q, 0, none⟩) (ss.length + 1) cap) (ss.length + 1) (ss.map encStr ++ [.string ⟨x.toArray⟩])) (hg2 : (w1.alloc ob).grownBy w2 v.ownBlock) :
    KRel w b r n N D (.slice (some ⟨q, 0, none⟩) (ss.length + 1) cap) w2 ∧ w2.ranges Tryd.prog 9 hR b r n D (fun z => left z && !z.sameKey (.string x)) cnt1 := by
  have e0 := row_ne_iter hrow hrg
  have e1 := cells_no_map hrow hrg.owns
  have c1 : Chg (fun k => k = r) wr w1 := (Chg.refl _ _).grown hg1 fun k hk _ => by injection hk with e; exact e.symm
  have b1 := hbel.trans (c1.toBelow hbel.size fun k hk => by omega)
  have b2 := b1.alloc b1.size ob
  have c2 : Chg (fun k => v.ownBlock = some k) (w1.alloc ob) w2 := (Chg.refl _ _).grown hg2 fun k hk _ => hk
  have hrg2 := (hrg1.alloc ob).kept hg2 e1 e0
  refine ⟨⟨⟨_, cnt1, ss ++ [x], hrg2, hC.step hlk hat, by unfold StrsO; simpa using ho, fun h => by simp at h, by simp; omega, fun s hs => ?_⟩, b2.trans (c2.toBelow b2.size fun k hk => (hrow.lt k hk).1)⟩, hrg2⟩
  rcases List.mem_append.1 hs with hs | hs
  · exact hall s hs
  · rw [List.mem_singleton.1 hs]; exact hx
/-- What the second loop keeps: the names, sorted; the map; the hides so far. -/
structure HRel (w : World) (b : Nat) (f : Vw) (v2 : Value) (ts : List (List UInt8)) (k : Nat) (v3 : Value) (wr : World) : Prop where
  names : StrsO wr w.heap.size v2 ts
  map : MapV hR wr b f 200
  hides : IntsO wr w.heap.size v3 ((ts.take k).map fun x => seenI ((f x).getD 0))
  bel : Below w.heap.size w wr
theorem hrel_start {w wS w' : World} {b n : Nat} {D : DataW Unit} {f : Vw} {v2 : Value} {ss ts : List (List UInt8)} (hn : n ≤ 200) (hrow : StrsO wS w.heap.size v2 ss) (hm : wS.ownsMap Tryd.prog 9 hR b n D) (hD : Sees D f) (hb : Below w.heap.size w wS) (h : StrsO w' w.heap.size v2 ts) (hg : wS.grownBy w' v2.ownBlock) : HRel w b f v2 ts 0 (.slice none 0 0) w' := by
  have c : Chg (fun k => v2.ownBlock = some k) wS w' := (Chg.refl _ _).grown hg fun k hk _ => hk
  refine ⟨h, (MapV.chg ⟨D, hm, hD⟩ c fun e => cells_no_map hrow hm e.symm).mono hn, IntsO.none_, hb.trans (c.toBelow hb.size fun k hk => (hrow.lt k hk).1)⟩
theorem hrel_step {w wr w2 : World} {b k q cap : Nat} {f : Vw} {v2 v3 : Value} {ts : List (List UInt8)} {x : List UInt8} {c : Int} {ob : Obj} (h : HRel w b f v2 ts k v3 wr) (hx : ts[k]? = some x) (hc : f x = some c)
    (ho : w2.ownsRow w.heap.size 3 1 (.slice (some ⟨q, 0, none⟩) (((ts.take k).map fun x => seenI ((f x).getD 0)).length + 1) cap) (((ts.take k).map fun x => seenI ((f x).getD 0)).length + 1) (((ts.take k).map fun x => seenI ((f x).getD 0)).map (Value.int .i64) ++ [.int .i64 (seenI c)])) (hg : (wr.alloc ob).grownBy w2 v3.ownBlock) :
    HRel w b f v2 ts (k + 1) (.slice (some ⟨q, 0, none⟩) (((ts.take k).map fun x => seenI ((f x).getD 0)).length + 1) cap) w2 := by
  have c0 : Chg (fun _ => False) wr (wr.alloc ob) := Chg.below (ba1 _ _)
  have cx : Chg (fun k => v3.ownBlock = some k) (wr.alloc ob) w2 := (Chg.refl _ _).grown hg fun k hk _ => hk
  have n1 : StrsO (wr.alloc ob) w.heap.size v2 ts := owns_chg h.names c0 fun _ _ h => h
  have h1 : IntsO (wr.alloc ob) w.heap.size v3 _ := owns_chg h.hides c0 fun _ _ h => h
  have m1 := h.map.later (ba1 wr ob)
  refine ⟨owns_chg n1 cx fun k hk hX => types_apart n1 h1 (by decide) k hk hX, m1.chg cx fun e => ?_, ?_, (h.bel.alloc h.bel.size ob).trans (cx.toBelow (h.bel.alloc h.bel.size ob).size fun k hk => (World.ownsRow.lt h1 k hk).1)⟩
  · obtain ⟨D, hm, _⟩ := m1
    exact cells_no_map h1 hm e.symm
  · rw [List.take_add_one, hx]
    unfold IntsO
    simp only [Option.toList_some, List.map_append, List.map_cons, List.map_nil, hc, Option.getD_some, List.length_append, List.length_cons, List.length_nil, Nat.zero_add]
    exact ho
end Go.Proofs.YtincgkolpicipaaDoor.twice

/- FnStepsTwice: maps of fields, seen as views; objects in memory. -/
import Derived.Test.YtincgkolpicipaaDoorSt2
import Derived.Maps.RangeWalk
import Derived.Maps.OwnSet
import Derived.Maps.Views
import Derived.StringKeys
namespace Go.Proofs.YtincgkolpicipaaDoor.twice
open Go.RowKit
theorem keyed9 : Maps.Keyed Tryd.prog 9 := Maps.string_keyed Tryd.underlying9
/-- How an element reads: the number that says how the field is seen. -/
def hR (v : Value) : Option (DataW Unit × List MemPlace) := match v with
  | .int .i64 h => some (.lit (.int .i64 h), [])
  | _ => none
def fL (l : List Value) : Option (DataW Unit × List MemPlace) := match l with
  | [.nilIface, .int .i64 h] => some (.lit (.int .i64 h), [])
  | _ => none
def fR (v : Value) : Option (DataW Unit × List MemPlace) := match v with
  | .agg cs => fL cs.toList
  | _ => none
theorem hR_inv {v : Value} {y : DataW Unit × List MemPlace} (h : hR v = some y) : ∃ c : Int, v = .int .i64 c ∧ y = (.lit (.int .i64 c), []) := by
  unfold hR at h
  split at h
  · exact ⟨_, rfl, by injection h with h; exact h.symm⟩
  · cases h
theorem fR_inv {v : Value} {y : DataW Unit × List MemPlace} (h : fR v = some y) : ∃ c : Int, v = .agg #[.nilIface, .int .i64 c] ∧ y = (.lit (.int .i64 c), []) := by
  unfold fR at h
  split at h
  · rename_i cs
    unfold fL at h
    split at h
    · rename_i c hc
      have : cs = #[.nilIface, .int .i64 c] := by rw [← Array.toArray_toList (xs := cs), hc]
      exact ⟨c, by rw [this], by injection h with h; exact h.symm⟩
    · cases h
  · cases h
/-- The datum is seen as f. -/
def Sees (D : DataW Unit) (f : Vw) : Prop := ∀ s, (f s = none → Maps.has D (.string s) = false) ∧ ∀ v, f s = some v → Maps.has D (.string s) = true ∧ ∀ z, D.atKey (.string s) z = .lit (.int .i64 v)
def MapV (R : Value → Option (DataW Unit × List MemPlace)) (W : World) (b : Nat) (f : Vw) (n : Nat) : Prop := ∃ D, W.ownsMap Tryd.prog 9 R b n D ∧ Sees D f
theorem Sees.has {D : DataW Unit} {f : Vw} (h : Sees D f) (s : List UInt8) : Maps.has D (.string s) = (f s).isSome := by
  cases hf : f s with
  | none => rw [(h s).1 hf]; rfl
  | some v => rw [((h s).2 v hf).1]; rfl
theorem Sees.val {D : DataW Unit} {f : Vw} (h : Sees D f) {s : List UInt8} {c : Int} (hc : ∀ z, D.atKey (.string s) z = .lit (.int .i64 c)) : f s = some c := by
  cases hf : f s with
  | none =>
    have h1 := (h s).1 hf
    rw [Maps.has_true_of_atKey hc] at h1; cases h1
  | some v =>
    have h1 := ((h s).2 v hf).2 .nil
    rw [hc] at h1
    injection h1 with h1
    injection h1 with _ h1
    rw [h1]
theorem key_ne {s t : List UInt8} (h : s ≠ t) : (Lit.string s) ≠ .string t := fun e => h (by injection e)
theorem isMap_of {R : Value → Option (DataW Unit × List MemPlace)} {W : World} {b n : Nat} {D : DataW Unit} (h : W.ownsMap Tryd.prog 9 R b n D) : Maps.IsMap D := by
  obtain ⟨es, _, _, _, _, h⟩ := h
  exact ⟨_, h⟩
def putV (f : Vw) (k : List UInt8) (v : Int) : Vw := fun s => if s = k then some v else f s
theorem Sees.put {D : DataW Unit} {f : Vw} (h : Sees D f) (hm : Maps.IsMap D) (k : List UInt8) (v : Int) : Sees (D.put (.string k) (.lit (.int .i64 v))) (putV f k v) := by
  intro s
  unfold putV
  by_cases e : s = k
  · subst e
    refine ⟨fun h => by simp at h, fun u hu => ?_⟩
    rw [if_pos rfl] at hu; cases hu
    exact ⟨Maps.has_put_same hm (show WideAt.IsKeyLit (.string s) from trivial) _, fun z => Maps.atKey_put_same hm (show WideAt.IsKeyLit (.string s) from trivial) _ _⟩
  · rw [if_neg e, Maps.has_put_other (key_ne e)]
    exact ⟨(h s).1, fun u hu => ⟨((h s).2 u hu).1, fun z => by rw [Maps.atKey_put_other (key_ne e)]; exact ((h s).2 u hu).2 z⟩⟩
theorem Sees.del {D : DataW Unit} {f : Vw} (h : Sees D f) (k : List UInt8) : Sees (D.del (.string k)) (delV f k) := by
  intro s
  unfold delV
  by_cases e : s = k
  · subst e
    exact ⟨fun _ => Maps.has_del_same, fun u hu => by rw [if_pos rfl] at hu; cases hu⟩
  · rw [if_neg e, Maps.has_del_other (key_ne e)]
    exact ⟨(h s).1, fun u hu => ⟨((h s).2 u hu).1, fun z => by rw [Maps.atKey_del_other (key_ne e)]; exact ((h s).2 u hu).2 z⟩⟩
theorem sees_empty : Sees (.map []) (fun _ => none) := fun _ => ⟨fun _ => rfl, fun _ h => by cases h⟩
theorem MapV.chg {R : Value → Option (DataW Unit × List MemPlace)} {X : Nat → Prop} {W W' : World} {b n : Nat} {f : Vw} (h : MapV R W b f n) (hx : Chg X W W') (hb : ¬ X b) : MapV R W' b f n := by
  obtain ⟨D, ⟨es, clock, h1, h2⟩, h3⟩ := h
  exact ⟨D, ⟨es, clock, hx.keep h1 hb, h2⟩, h3⟩
theorem MapV.later {R : Value → Option (DataW Unit × List MemPlace)} {W W' : World} {b n : Nat} {f : Vw} (h : MapV R W b f n) (hb : Below W.heap.size W W') : MapV R W' b f n := h.chg (X := fun _ => False) (Chg.below hb) id
theorem MapV.lt {R : Value → Option (DataW Unit × List MemPlace)} {W : World} {b n : Nat} {f : Vw} (h : MapV R W b f n) : b < W.heap.size := by
  obtain ⟨D, h, _⟩ := h
  exact h.lt
theorem mapV_made (R : Value → Option (DataW Unit × List MemPlace)) (W : World) : MapV R (W.alloc (.map #[] 0)) W.heap.size (fun _ => none) 0 := ⟨.map [], World.ownsMap_made _ _ _ _, sees_empty⟩
/-- 'm[k] = v'. -/
theorem MapV.update {R : Value → Option (DataW Unit × List MemPlace)} {W : World} {b n t e : Nat} {f : Vw} (h : MapV R W b f n) (ht : Tryd.prog.underlying t = some (.map 9 e)) (hn : n < 9223372036854775807) (k : List UInt8) (hk : k.length ≤ 9223372036854775807) (val : Value) (v : Int) (hv : R val = some (.lit (.int .i64 v), [])) :
    ∃ W', (Instr.mapUpdate t (.map (some b)) (.string ⟨k.toArray⟩) val).run Tryd.prog W = .ok () W' ∧ MapV R W' b (putV f k v) (n + 1) ∧ W.grownBy W' (some b) := by
  obtain ⟨D, h1, h2⟩ := h
  obtain ⟨W', r1, r2, r3⟩ := World.ownsMap.update h1 keyed9 ht (by rw [maxLen_eq]; exact hn) (key := .string ⟨k.toArray⟩) (val := val) (WideMaps.keyOf_string_mk Tryd.underlying9 (by rw [maxLen_eq]; exact hk)) hv
  exact ⟨W', r1, ⟨_, r2, h2.put (isMap_of h1) k v⟩, r3⟩
/-- Objects: simple; less a field; one and, to its right, another. -/
inductive Ob where
  | sim (p b : Nat) (f : Vw) (n : Nat)
  | res (p b : Nat) (f : Vw) (n : Nat) (o : Ob)
  | ext (p : Nat) (z : Int) (l r : Ob)
def Ob.val : Ob → Value
  | .sim p _ _ _ => .iface 82 (.pointer (some ⟨p, 0, none⟩))
  | .res p _ _ _ _ => .iface 75 (.pointer (some ⟨p, 0, none⟩))
  | .ext p _ _ _ => .iface 79 (.pointer (some ⟨p, 0, none⟩))
def Ob.view : Ob → Vw
  | .sim _ _ f _ => f
  | .res _ _ f _ _ => f
  | .ext _ _ l r => extV l.view r.view
def Ob.cnt : Ob → Nat
  | .sim _ _ _ n => n
  | .res _ _ _ n _ => n
  | .ext _ _ l r => l.cnt + r.cnt
def Ob.At (W : World) : Ob → Prop
  | .sim p b f n => W.heap[p]? = some (.cells #[.map none, .map (some b), .slice none 0 0, .slice none 0 0] 90 (0, 0)) ∧ MapV fR W b f n
  | .res p b f n o => W.heap[p]? = some (.cells #[o.val, .map (some b)] 74 (0, 0)) ∧ MapV hR W b f n ∧ o.At W
  | .ext p z l r => W.heap[p]? = some (.cells #[l.val, r.val, .int .i64 z] 81 (0, 0)) ∧ l.At W ∧ r.At W
theorem Ob.At.later {W W' : World} (hb : Below W.heap.size W W') : ∀ {o : Ob}, o.At W → o.At W'
  | .sim _ _ _ _, h => ⟨(Chg.below (X := fun _ => False) hb).keep h.1 id, h.2.later hb⟩
  | .res _ _ _ _ _, h => ⟨(Chg.below (X := fun _ => False) hb).keep h.1 id, h.2.1.later hb, Ob.At.later hb h.2.2⟩
  | .ext _ _ _ _, h => ⟨(Chg.below (X := fun _ => False) hb).keep h.1 id, Ob.At.later hb h.2.1, Ob.At.later hb h.2.2⟩
/-- A value that holds an object. -/
def VoAt (W : World) (g : Nat) (o : Ob) : Prop := (∃ m, W.heap[g]? = some (.cells #[.nilIface, .map (some m), o.val] 70 (0, 0))) ∧ o.At W
theorem VoAt.later {W W' : World} {g : Nat} {o : Ob} (h : VoAt W g o) (hb : Below W.heap.size W W') : VoAt W' g o := by
  obtain ⟨⟨m, h1⟩, h2⟩ := h
  exact ⟨⟨m, (Chg.below (X := fun _ => False) hb).keep h1 id⟩, h2.later hb⟩
theorem VoAt.cell {W : World} {g : Nat} {o : Ob} (h : VoAt W g o) : W.cell? ⟨g, 2, none⟩ = some o.val := by
  obtain ⟨⟨m, h1⟩, h2⟩ := h
  simp [World.cell?, h1]
theorem nw1 (W : World) (o1 o2 : Obj) : ((W.alloc o1).alloc o2).heap[W.heap.size + 1]? = some o2 := by have h := heap_alloc_new (W.alloc o1) o2; rw [show (W.alloc o1).heap.size = W.heap.size + 1 by simp] at h; exact h
theorem nw2 (W : World) (o1 o2 o3 : Obj) : (((W.alloc o1).alloc o2).alloc o3).heap[W.heap.size + 2]? = some o3 := by have h := nw1 (W.alloc o1) o2 o3; rw [show (W.alloc o1).heap.size + 1 = W.heap.size + 2 by simp] at h; exact h
theorem kp1 (W : World) (o' : Obj) (k : Nat) (o : Obj) (h : W.heap[k]? = some o) : (W.alloc o').heap[k]? = some o := (Chg.below (X := fun _ => False) ((Below.refl _ _).alloc (Nat.le_refl _) o')).keep h id
theorem hmk66 : ∀ W : World, Sem.run Tryd.prog (Instr.makeMap 66 none) W = .ok (.map (some W.heap.size)) (W.alloc (.map #[] 0)) := fun W => run_makeMap 66 W
theorem mkSimple_any (b : Nat) (f : Vw) (n : Nat) (w : World) (h : MapV fR w b f n) : Calls Tryd.prog 29 #[.map none, .map (some b), .slice none 0 0, .slice none 0 0] w fun e w' => Below w.heap.size w w' ∧ ∃ g o, e = .returned (.pointer (some ⟨g, 0, none⟩)) ∧ VoAt w' g o ∧ o.view = f ∧ o.cnt = n := by
  have H := Lib.hid h
  clear h
  have hm := hmk66
  go_enter Tryd.func29, Tryd.ntmps29
  go_wp2_with fail
  go_returns
  clear hm
  have b1 : Below w.heap.size w (w.alloc (.map #[] 0)) := (Below.refl _ _).alloc (Nat.le_refl _) _
  have b2 := b1.alloc b1.size (.cells #[.map none, .map (some b), .slice none 0 0, .slice none 0 0] 90)
  have b3 := b2.alloc b2.size (.cells #[.nilIface, .map (some w.heap.size), .iface 82 (.pointer (some ⟨w.heap.size + 1, 0, none⟩))] 70)
  refine ⟨b3, w.heap.size + 1 + 1, .sim (w.heap.size + 1) b f n, rfl, ⟨⟨w.heap.size, ?_⟩, ?_, H.out.later b3⟩, rfl, rfl⟩
  · exact nw2 _ _ _ _
  · exact kp1 _ _ _ _ (nw1 _ _ _)
end Go.Proofs.YtincgkolpicipaaDoor.twice

/- FnStepsTwice: how the fields of an object are seen (uncachedObjectFieldsVisibility by contract). -/
import Derived.Test.YtincgkolpicipaaDoorSt4
import Derived.Sort.KeysCollected
namespace Go.Proofs.YtincgkolpicipaaDoor.twice
open Go.RowKit
theorem same_str (s x : List UInt8) : (Lit.string s).sameKey (.string x) = decide (s = x) := by
  by_cases e : s = x
  · subst e; rw [WideAt.sameKey_self (show WideAt.IsKeyLit (.string s) from trivial)]; simp
  · rw [Maps.sameKey_ne (key_ne e)]; simp [e]
/-- Of the keys that are still to come, f; of the others, h. -/
def curV (f h : Vw) (left : Lit → Bool) : Vw := fun s => if left (.string s) = true then f s else h s
theorem cur_start {D : DataW Unit} {f g h : Vw} (hD : Sees D g) (hh : ∀ s, g s = none → h s = f s) : curV f h (Maps.has D) = f := by
  funext s
  unfold curV
  rw [hD.has]
  cases hg : g s with
  | none => simp [hh s hg]
  | some v => simp
theorem cur_put {f h : Vw} {left : Lit → Bool} {x : List UInt8} {v : Int} (hx : h x = some v) : putV (curV f h left) x v = curV f h (fun z => left z && !z.sameKey (.string x)) := by
  funext s
  unfold putV curV
  simp only [same_str]
  by_cases e : s = x
  · subst e; simp [hx]
  · simp [e]
theorem cur_keep {f h : Vw} {left : Lit → Bool} {x : List UInt8} (hl : left (.string x) = true) (hx : h x = f x) : curV f h left = curV f h (fun z => left z && !z.sameKey (.string x)) := by
  funext s
  unfold curV
  simp only [same_str]
  by_cases e : s = x
  · subst e; simp [hl, hx]
  · simp [e]
theorem cur_end {f h : Vw} {left : Lit → Bool} (hl : ∀ kl, left kl = false) : curV f h left = h := by
  funext s
  unfold curV
  rw [hl]; simp
/-- What a loop over a map keeps. -/
structure LRel (R : Value → Option (DataW Unit × List MemPlace)) (w : World) (b1 b2 r n2 N : Nat) (D : DataW Unit) (f h : Vw) (wr : World) : Prop where
  ex : ∃ (left : Lit → Bool) (cnt m : Nat), wr.ranges Tryd.prog 9 R b2 r n2 D left cnt ∧ MapV hR wr b1 (curV f h left) m ∧ m + cnt ≤ N
  bel : Below w.heap.size w wr
theorem MapV.grown {R : Value → Option (DataW Unit × List MemPlace)} {W W' : World} {b n : Nat} {f : Vw} {row : Option Nat} (h : MapV R W b f n) (hg : W.grownBy W' row) (hb : row ≠ some b) : MapV R W' b f n :=
  h.chg (X := fun k => row = some k) ((Chg.refl _ _).grown hg fun _ hk _ => hk) hb
theorem MapV.mono {R : Value → Option (DataW Unit × List MemPlace)} {W : World} {b n n' : Nat} {f : Vw} (h : MapV R W b f n) (hn : n ≤ n') : MapV R W b f n' := by
  obtain ⟨D, h1, h2⟩ := h
  exact ⟨D, h1.mono hn, h2⟩
theorem lrel_start {R : Value → Option (DataW Unit × List MemPlace)} {w wX w0 : World} {b1 b2 n1 n2 : Nat} {D : DataW Unit} {f g h : Vw} (hw : Below w.heap.size w wX) (hm : MapV hR wX b1 f n1) (hown : wX.ownsMap Tryd.prog 9 R b2 n2 D) (hD : Sees D g) (hh : ∀ s, g s = none → h s = f s)
    (hrg0 : w0.ranges Tryd.prog 9 R b2 wX.heap.size n2 D (Maps.has D) (Maps.size D)) (hg0 : wX.grownBy w0 none) : LRel R w b1 b2 wX.heap.size n2 (n1 + n2) D f h w0 := by
  refine ⟨⟨_, _, n1, hrg0, ?_, Nat.add_le_add_left hown.size_le _⟩, ?_⟩
  · rw [cur_start hD hh]; exact hm.grown hg0 (by simp)
  · exact hw.trans (((Chg.refl (fun _ => False) _).grown hg0 fun k hk _ => by cases hk).toBelow hw.size fun _ h => h.elim)
/-- A round that writes: what the loop keeps, after it. -/
theorem lrel_put {R : Value → Option (DataW Unit × List MemPlace)} {w wr w1 wA w2 : World} {b1 b2 r n2 N m cnt cnt1 : Nat} {D : DataW Unit} {f h : Vw} {left : Lit → Bool} {x : List UInt8} {v : Int} (hbel : Below w.heap.size w wr) (hr : w.heap.size ≤ r) (hb1 : w.heap.size ≤ b1) (hne : b1 ≠ r) (hne2 : b1 ≠ b2) (hle : m + cnt ≤ N) (hlt : cnt1 < cnt)
    (hrg1 : w1.ranges Tryd.prog 9 R b2 r n2 D (fun z => left z && !z.sameKey (.string x)) cnt1) (hg1 : wr.grownBy w1 (some r)) (hgA : w1.grownBy wA none) (hm2 : MapV hR w2 b1 (putV (curV f h left) x v) (m + 1)) (hg2 : wA.grownBy w2 (some b1)) (hx : h x = some v) :
    LRel R w b1 b2 r n2 N D f h w2 ∧ w2.ranges Tryd.prog 9 R b2 r n2 D (fun z => left z && !z.sameKey (.string x)) cnt1 := by
  have e1 := (hrg1.kept hgA (by simp) (by simp)).kept hg2 (by simp; omega) (by simp; omega)
  rw [cur_put hx] at hm2
  have c1 : Chg (fun k => k = r) wr w1 := (Chg.refl _ _).grown hg1 fun k hk _ => by injection hk with e; exact e.symm
  have cA : Chg (fun k => k = r) w1 wA := (Chg.refl _ _).grown hgA fun k hk _ => by cases hk
  have c2 : Chg (fun k => k = b1) wA w2 := (Chg.refl _ _).grown hg2 fun k hk _ => by injection hk with e; exact e.symm
  have b1' := hbel.trans (c1.toBelow hbel.size fun k hk => by omega)
  have b2' := b1'.trans (cA.toBelow b1'.size fun k hk => by omega)
  exact ⟨⟨⟨_, cnt1, m + 1, e1, hm2, by omega⟩, b2'.trans (c2.toBelow b2'.size fun k hk => by omega)⟩, e1⟩
/-- A round that writes nothing. -/
theorem lrel_keep {R : Value → Option (DataW Unit × List MemPlace)} {w wr w1 : World} {b1 b2 r n2 N m cnt cnt1 : Nat} {D : DataW Unit} {f h : Vw} {left : Lit → Bool} {x : List UInt8} (hbel : Below w.heap.size w wr) (hr : w.heap.size ≤ r) (hne : b1 ≠ r) (hle : m + cnt ≤ N) (hlt : cnt1 < cnt)
    (hrg1 : w1.ranges Tryd.prog 9 R b2 r n2 D (fun z => left z && !z.sameKey (.string x)) cnt1) (hg1 : wr.grownBy w1 (some r)) (hm : MapV hR wr b1 (curV f h left) m) (hl : left (.string x) = true) (hx : h x = f x) :
    LRel R w b1 b2 r n2 N D f h w1 := by
  have c1 : Chg (fun k => k = r) wr w1 := (Chg.refl _ _).grown hg1 fun k hk _ => by injection hk with e; exact e.symm
  have hm1 := hm.grown hg1 (by simp; omega)
  rw [cur_keep hl hx] at hm1
  exact ⟨⟨_, cnt1, m, hrg1, hm1, by omega⟩, hbel.trans (c1.toBelow hbel.size fun k hk => by omega)⟩
theorem lrel_end {wr : World} {b1 N m cnt : Nat} {f h : Vw} {left : Lit → Bool} (hm : MapV hR wr b1 (curV f h left) m) (hle : m + cnt ≤ N) (hl : ∀ kl, left kl = false) : MapV hR wr b1 h N := by
  rw [cur_end hl] at hm
  exact hm.mono (by omega)
end Go.Proofs.YtincgkolpicipaaDoor.twice

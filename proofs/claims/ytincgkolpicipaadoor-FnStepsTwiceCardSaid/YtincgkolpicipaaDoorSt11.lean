/- FnStepsTwice: jsonnet.chain by contract: the object that steps make. -/
import Derived.Test.YtincgkolpicipaaDoorSt10
import Derived.Deep.RegionLaw
namespace Go.Proofs.YtincgkolpicipaaDoor.twice
open Go.RowKit
/-- A step as the package's own part is given it: remove, names, hides (in jsonnet's numbers), is. -/
structure CsAt (W : World) (q p : Nat) (e : Sp) : Prop where
  rem : W.cell? ⟨q, p, none⟩ = some (.string ⟨e.rem.toArray⟩)
  is : W.cell? ⟨q, p + 3, none⟩ = some (.bool e.is)
  remL : e.rem.length ≤ 9223372036854775807
  more : ∃ nv hv, W.cell? ⟨q, p + 1, none⟩ = some nv ∧ W.cell? ⟨q, p + 2, none⟩ = some hv ∧ Strs W nv e.names ∧ Ints W hv e.hides
theorem CsAt.later {W W' : World} {q p : Nat} {e : Sp} (h : CsAt W q p e) (hb : Below W.heap.size W W') : CsAt W' q p e := by
  obtain ⟨h0, h1, h2, nv, hv, h3, h4, h5, h6⟩ := h
  exact ⟨cell_later hb h0, cell_later hb h1, h2, nv, hv, cell_later hb h3, cell_later hb h4, h5.later hb, h6.later hb⟩
def Css (W : World) (v : Value) (es : List Sp) : Prop :=
  ∃ (A : Option Addr) (cap : Nat), v = .slice A es.length cap ∧ es.length ≤ 9223372036854775807 ∧ ∀ (i : Nat) e, es[i]? = some e → ∃ q o, A = some ⟨q, o, none⟩ ∧ CsAt W q (o + i * 4) e
/-- Few steps, with as many hides as names. -/
structure Few (es : List Sp) : Prop where
  len : es.length ≤ 13
  all : ∀ (i : Nat) (e : Sp), es[i]? = some e → e.names.length = e.hides.length ∧ e.names.length ≤ 12
/-- What stands behind k steps. -/
structure CRel (w : World) (es : List Sp) (k : Nat) (v : Value) (wr : World) : Prop where
  ex : ∃ g o, v = .pointer (some ⟨g, 0, none⟩) ∧ VoAt wr g o ∧ o.view = chainV es k ∧ o.cnt ≤ 12 * k
  bel : Below w.heap.size w wr
theorem simV_nil (hides : List Int) : simV [] hides 0 = fun _ => none := rfl
theorem crel_step {w W W' : World} {es : List Sp} {k : Nat} {s : Sp} {g : Nat} {o : Ob} (hs : es[k]? = some s) (hw : Below w.heap.size w W) (hb : Below W.heap.size W W') (h : VoAt W' g o) (hv : o.view = stepV (chainV es k) k s) (hc : o.cnt ≤ 12 * (k + 1)) : CRel w es (k + 1) (.pointer (some ⟨g, 0, none⟩)) W' :=
  ⟨⟨g, o, rfl, h, by rw [chain_succ hs, hv], hc⟩, step_after hw hb⟩
/-- A field struck out of an object less a field. -/
theorem struck {W W0 W' : World} {g' p b n : Nat} {f : Vw} {o : Ob} {k : List UInt8} (hb : Below W.heap.size W W0) (hle : W.heap.size ≤ b) (h : VoAt W0 g' (.res p b f n o)) (ho : o.At W) (hm : MapV hR W' b (delV f k) n) (hg : W0.grownBy W' (some b)) : Below W.heap.size W W' ∧ VoAt W' g' (.res p b (delV f k) n o) := by
  have c : Chg (fun k => k = b) W0 W' := (Chg.refl _ _).grown hg fun k hk _ => by injection hk with e; exact e.symm
  have hB : Below W.heap.size W W' := hb.trans (c.toBelow hb.size fun k hk => by omega)
  obtain ⟨⟨m, h1⟩, h2, h3, h4⟩ := h
  have hmap : ∀ (cs : Array Value) (t : TypeId) (fr : Nat × Nat) (q : Nat), W0.heap[q]? = some (.cells cs t fr) → q ≠ b := fun cs t fr q hq e => by
    subst e
    obtain ⟨D, ⟨es, ck, e1, _⟩, _⟩ := h3
    rw [e1] at hq; cases hq
  exact ⟨hB, ⟨m, c.keep h1 (hmap _ _ _ _ h1)⟩, c.keep h2 (hmap _ _ _ _ h2), hm, ho.later hB⟩
theorem MapV.delete {W : World} {b n : Nat} {f : Vw} (h : MapV hR W b f n) (k : List UInt8) (hk : k.length ≤ 9223372036854775807) (ty : TypeId) : ∃ W', (Builtin.delete_ #[56, 9] ty #[.map (some b), .string ⟨k.toArray⟩]).run Tryd.prog W = .ok (.tuple #[]) W' ∧ MapV hR W' b (delV f k) n ∧ W.grownBy W' (some b) := by
  obtain ⟨D, h1, h2⟩ := h
  obtain ⟨W', r1, r2, r3⟩ := World.ownsMap.drop h1 keyed9 Tryd.underlying56 (key := .string ⟨k.toArray⟩) (WideMaps.keyOf_string_mk Tryd.underlying9 (by rw [maxLen_eq]; exact hk)) ty
  exact ⟨W', r1, ⟨_, r2, h2.del k⟩, r3.grown⟩
end Go.Proofs.YtincgkolpicipaaDoor.twice

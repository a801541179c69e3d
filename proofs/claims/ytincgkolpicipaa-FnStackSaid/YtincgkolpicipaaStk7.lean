/- FnStack: a frame's map of names by contract (bound). -/
import Derived.Test.YtincgkolpicipaaStk6
import Derived.Maps.Views
namespace Go.Proofs.Ytincgkolpicipaa.stack
open Go.RowKit
/-- How a pointer reads: its block's number. -/
def ptrR (v : Value) : Option (DataW Unit × List MemPlace) := match v with
  | .pointer none => some (.lit (.bool false), [])
  | .pointer (some ⟨g, 0, none⟩) => some (.lit (.int .i64 g), [])
  | _ => none
def ThunkAt (W : World) (g : Nat) (i : Int) : Prop :=
  ∃ q, W.heap[g]? = some (.cells #[.pointer none, .nilIface, .iface 110 (.pointer (some ⟨q, 0, none⟩)), .nilIface] 117 (0, 0)) ∧ W.heap[q]? = some (.cells #[.float .f64 (floatOfInt .f64 i)] 109 (0, 0))
def keyS (s : ByteArray) : Lit := .string s.data.toList
structure MapOk (W : World) (m : Nat) (names : List ByteArray) (i : Int) : Prop where
  own : ∃ D : DataW Unit, W.ownsMap Try.prog 104 ptrR m names.length D ∧ (∀ s, Maps.has D (keyS s) = placeTo names s) ∧
    ∀ s, placeTo names s = true → ∃ g : Nat, (∀ z, D.atKey (keyS s) z = .lit (.int .i64 g)) ∧ ThunkAt W g i
/-- X's blocks are none of a frame's parts. -/
def Soft (X : Nat → Prop) (W : World) : Prop := ∀ k, X k → ∃ cs t fr, W.heap[k]? = some (.cells cs t fr) ∧ t ≠ 117 ∧ t ≠ 109 ∧ t ≠ 156
theorem ThunkAt.chg {X : Nat → Prop} {W W' : World} {g : Nat} {i : Int} (h : ThunkAt W g i) (hx : Chg X W W') (hs : Soft X W) : ThunkAt W' g i := by
  obtain ⟨q, h1, h2⟩ := h
  refine ⟨q, hx.keep h1 fun hX => ?_, hx.keep h2 fun hX => ?_⟩
  · obtain ⟨cs, t, fr, e, n1, n2, n3⟩ := hs g hX
    rw [h1] at e; cases e; exact n1 rfl
  · obtain ⟨cs, t, fr, e, n1, n2, n3⟩ := hs q hX
    rw [h2] at e; cases e; exact n2 rfl
theorem ownsMap_chg {X : Nat → Prop} {W W' : World} {m n : Nat} {D : DataW Unit} (h : W.ownsMap Try.prog 104 ptrR m n D) (hx : Chg X W W') (hs : Soft X W) : W'.ownsMap Try.prog 104 ptrR m n D := by
  obtain ⟨es, clock, hb, F, hn, hD⟩ := h
  refine ⟨es, clock, hx.keep hb fun hX => ?_, F, hn, hD⟩
  obtain ⟨cs, t, fr, e, -⟩ := hs m hX
  rw [hb] at e; cases e
theorem MapOk.chg {X : Nat → Prop} {W W' : World} {m : Nat} {names : List ByteArray} {i : Int} (h : MapOk W m names i) (hx : Chg X W W') (hs : Soft X W) : MapOk W' m names i := by
  obtain ⟨D, h1, h2, h3⟩ := h.own
  exact ⟨D, ownsMap_chg h1 hx hs, h2, fun s hs' => by
    obtain ⟨g, e, ht⟩ := h3 s hs'
    exact ⟨g, e, ht.chg hx hs⟩⟩
theorem placeTo_snoc (l : List ByteArray) (t s : ByteArray) : placeTo (l ++ [t]) s = (placeTo l s || t.data == s.data) := by simp [placeTo]
theorem keyS_ne {s t : ByteArray} (h : (t.data == s.data) = false) : keyS s ≠ keyS t := fun e => by
  unfold keyS at e
  injection e with e1
  have : t.data = s.data := by
    cases ht : t.data; cases hs : s.data
    rw [ht, hs] at e1
    simp at e1
    rw [e1]
  simp [this] at h
theorem keyS_eq {s t : ByteArray} (h : (t.data == s.data) = true) : keyS s = keyS t := by
  unfold keyS
  rw [show t.data = s.data by simpa using h]
/-- One name more: the map's entry set to a new thunk. -/
theorem MapOk.put {W W' : World} {m g : Nat} {names : List ByteArray} {i : Int} {D : DataW Unit} {t : ByteArray} (hl : ∃ n, W.ownsMap Try.prog 104 ptrR m n D)
    (h2 : ∀ s, Maps.has D (keyS s) = placeTo names s) (h3 : ∀ s, placeTo names s = true → ∃ g : Nat, (∀ z, D.atKey (keyS s) z = .lit (.int .i64 g)) ∧ ThunkAt W g i)
    (ho : W'.ownsMap Try.prog 104 ptrR m (names.length + 1) (D.put (keyS t) (.lit (.int .i64 g)))) (hg : W.grownBy W' (some m)) (ht : ThunkAt W g i) : MapOk W' m (names ++ [t]) i := by
  obtain ⟨n, es, clock, hb, -, -, hD⟩ := hl
  have hmap : Maps.IsMap D := ⟨_, hD⟩
  have hk : ∀ s, WideAt.IsKeyLit (keyS s) := fun s => trivial
  have ht' : ∀ g, ThunkAt W g i → ThunkAt W' g i := fun g h => by
    obtain ⟨q, h1, h2⟩ := h
    have c : Chg (fun k => k = m) W W' := (Chg.refl _ _).grown hg fun k hk _ => by injection hk with e; exact e.symm
    refine ⟨q, c.keep h1 fun e => ?_, c.keep h2 fun e => ?_⟩
    · subst e; rw [hb] at h1; cases h1
    · subst e; rw [hb] at h2; cases h2
  refine ⟨_, by simpa using ho, fun s => ?_, fun s hs => ?_⟩
  · rw [placeTo_snoc]
    cases hts : (t.data == s.data)
    · rw [Maps.has_put_other (keyS_ne hts), h2]; simp
    · rw [keyS_eq hts, Maps.has_put_same hmap (hk t)]; simp
  · rw [placeTo_snoc] at hs
    cases hts : (t.data == s.data)
    · rw [hts] at hs
      obtain ⟨g', e, h'⟩ := h3 s (by simpa using hs)
      exact ⟨g', fun z => by rw [Maps.atKey_put_other (keyS_ne hts)]; exact e z, ht' _ h'⟩
    · exact ⟨g, fun z => by rw [keyS_eq hts, Maps.atKey_put_same hmap (hk t)], ht' _ ht⟩
end Go.Proofs.Ytincgkolpicipaa.stack

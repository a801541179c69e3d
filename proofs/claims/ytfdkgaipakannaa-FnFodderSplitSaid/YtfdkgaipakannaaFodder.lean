/- FnFodderSplit: fodder is split behind the first element that ends a line: that is the last one of the first part, without its blank lines; the second part has the rest, put behind a line's end without a comment that has these blank lines, if there are any, and its indent. For all lists of elements, without a condition. -/
import Derived.Test.YtfdkgaipakannaaLaw
import Derived.Test.YtfdkgaipakannaaLawKit
import Derived.Lib.SmallJoins
import Derived.SliceStrings
import Derived.Deep.Slices
import Derived.Deep.Fields
import Derived.ChangeSame
namespace Go.Proofs.Ytfdkgaipakannaa.split
open Go.ChangeShapes Go.WideShapes Go.ChangeAt Go.RowKit Go.Joins Go.Deep
theorem own : ownKnob Try.prog.godebug = none := by kernel_rfl
theorem laidOut : laidOutB Try.prog = true := by kernel_rfl
theorem cells9 : Try.prog.cellsOf 9 = 1 := by kernel_rfl
theorem cells34 : Try.prog.cellsOf 34 = 4 := by kernel_rfl
section
variable {H : Type} {enc : TypeId × Value → H} {W : World} {base : Nat} {spare : Nat → Bool} {held : Bool}
theorem strs_of {fuel : Nat} {v : Value} {y : DataW H × List MemPlace} (h : DataW.trod enc Try.prog W base spare held fuel 32 [v] = some y) : ∃ ss, Strs W v ss := by
  rcases open_strings Try.underlying32 Try.underlying9 cells9 h with ⟨hcs, -⟩ | ⟨a, len, cap, ss, hcs, _, hl, hm, hz, -, hcell, hws⟩
  · simp at hcs; subst hcs
    exact ⟨[], none, 0, rfl, by simp, fun j s h => by simp at h⟩
  · simp at hcs; subst hcs
    have hm' := hm
    unfold maxLen at hm'
    have hlen : len ≤ ss.length := by rw [hz]; split <;> omega
    have ht : (ss.take len).length = len := by rw [List.length_take]; omega
    refine ⟨ss.take len, some a, cap, by rw [ht], by omega, fun j s hj => ?_⟩
    have hjl : j < len := by have := (List.getElem?_eq_some_iff.1 hj).1; omega
    rw [List.getElem?_take_of_lt hjl] at hj
    have hj2 : j < ss.length := by omega
    have hc := hcell j hj2
    have hv : ss.getD j ByteArray.empty = s := by rw [List.getD, hj]; rfl
    rw [hv] at hc
    have hs := hws s (List.mem_of_getElem? hj)
    unfold maxLen at hs
    obtain ⟨b, off, spot⟩ := a
    have h0 := hcell 0 (by omega)
    have hspot : spot = none := by simpa [Addr.add] using World.cell?_spot h0
    subst hspot
    exact ⟨by omega, b, off, rfl, by rw [← add_off]; exact hc⟩
theorem els_of {fuel : Nat} {cs : List Value} {x : DataW H × List MemPlace} (h : DataW.trod enc Try.prog W base spare held fuel 28 cs = some x) :
    ∃ (A : Option Addr) (cap : Nat) (es : List El), cs = [.slice A es.length cap] ∧ es.length ≤ cap ∧ Els W (.slice A es.length cap) es := by
  rcases open_slice Try.underlying28 h with ⟨hcs, -⟩ | ⟨a, len, cap, m, n, D, Pl, hcs, hb, hl, hm, hmm, hx, hi⟩
  · exact ⟨none, 0, [], hcs, Nat.le_refl _, none, 0, rfl, by simp, fun j s h => by simp at h⟩
  · have hlm : len ≤ m := by rw [hmm]; split <;> omega
    have each : ∀ i, i < len → ∃ e : El, W.cell? (a.add (i * 4)) = some (.int .i64 e.k) ∧ W.cell? (a.add (i * 4 + 1)) = some (.int .i64 e.b) ∧ W.cell? (a.add (i * 4 + 2)) = some (.int .i64 e.n) ∧ ∃ cv, W.cell? (a.add (i * 4 + 3)) = some cv ∧ Strs W cv e.c := fun i hil => by
      obtain ⟨cs', hc, ht'⟩ := hi i (by omega)
      rw [cells34] at hc
      obtain ⟨ys, n', hn', hy, hlen, hyl, hf⟩ := DataW.trod_struct Try.underlying34 ht'
      obtain ⟨_, hcl, hat⟩ := World.cells?_some hc
      match cs', hcl with
      | [v0, v1, v2, v3], _ =>
        have f0 : DataW.trod enc Try.prog W base spare held n' 3 ((List.drop 0 [v0, v1, v2, v3]).take (Try.prog.cellsOf 3)) = ys[0]? := hf 0 _ rfl
        have f1 : DataW.trod enc Try.prog W base spare held n' 3 ((List.drop 1 [v0, v1, v2, v3]).take (Try.prog.cellsOf 3)) = ys[1]? := hf 1 _ rfl
        have f2 : DataW.trod enc Try.prog W base spare held n' 3 ((List.drop 2 [v0, v1, v2, v3]).take (Try.prog.cellsOf 3)) = ys[2]? := hf 2 _ rfl
        have f3 : DataW.trod enc Try.prog W base spare held n' 32 ((List.drop 3 [v0, v1, v2, v3]).take (Try.prog.cellsOf 32)) = ys[3]? := hf 3 _ rfl
        have c3 : Try.prog.cellsOf 3 = 1 := by kernel_rfl
        have c32 : Try.prog.cellsOf 32 = 1 := by kernel_rfl
        rw [c3] at f0 f1 f2
        rw [c32] at f3
        have f0' : DataW.trod enc Try.prog W base spare held n' 3 [v0] = ys[0]? := f0
        have f1' : DataW.trod enc Try.prog W base spare held n' 3 [v1] = ys[1]? := f1
        have f2' : DataW.trod enc Try.prog W base spare held n' 3 [v2] = ys[2]? := f2
        have f3' : DataW.trod enc Try.prog W base spare held n' 32 [v3] = ys[3]? := f3
        have e0 : ys[0]? = some (ys[0]'(by rw [hyl]; decide)) := List.getElem?_eq_getElem _
        have e1 : ys[1]? = some (ys[1]'(by rw [hyl]; decide)) := List.getElem?_eq_getElem _
        have e2 : ys[2]? = some (ys[2]'(by rw [hyl]; decide)) := List.getElem?_eq_getElem _
        have e3 : ys[3]? = some (ys[3]'(by rw [hyl]; decide)) := List.getElem?_eq_getElem _
        obtain ⟨z0, g0, -, -⟩ := DataW.trod_int Try.underlying3 (f0'.trans e0)
        obtain ⟨z1, g1, -, -⟩ := DataW.trod_int Try.underlying3 (f1'.trans e1)
        obtain ⟨z2, g2, -, -⟩ := DataW.trod_int Try.underlying3 (f2'.trans e2)
        obtain ⟨ss, hss⟩ := strs_of (f3'.trans e3)
        simp at g0 g1 g2
        subst g0 g1 g2
        have k0 := hat 0 (by decide)
        have k1 := hat 1 (by decide)
        have k2 := hat 2 (by decide)
        have k3 := hat 3 (by decide)
        rw [add_add, Nat.add_zero] at k0
        rw [add_add] at k1 k2 k3
        exact ⟨⟨z0, z1, z2, ss⟩, k0, k1, k2, v3, k3, hss⟩
    obtain ⟨F, hF⟩ : ∃ F : Nat → El, ∀ i, i < len → W.cell? (a.add (i * 4)) = some (.int .i64 (F i).k) ∧ W.cell? (a.add (i * 4 + 1)) = some (.int .i64 (F i).b) ∧ W.cell? (a.add (i * 4 + 2)) = some (.int .i64 (F i).n) ∧ ∃ cv, W.cell? (a.add (i * 4 + 3)) = some cv ∧ Strs W cv (F i).c := by
      haveI : Inhabited El := ⟨⟨0, 0, 0, []⟩⟩
      exact choose_lt each
    refine ⟨some a, cap, (List.range len).map F, by rw [hcs]; simp, by simpa using hl, some a, cap, rfl, ?_, fun i e he => ?_⟩
    · unfold maxLen at hm; simp; omega
    · rw [List.getElem?_map] at he
      obtain ⟨i', hi', rfl⟩ := Option.map_eq_some_iff.1 he
      have hil : i < len := by have := (List.getElem?_eq_some_iff.1 hi').1; simpa using this
      have : i' = i := by rw [List.getElem?_range hil] at hi'; exact (Option.some.inj hi').symm
      subst this
      obtain ⟨b, off, spot⟩ := a
      obtain ⟨g0, g1, g2, cv, g3, gs⟩ := hF i' hil
      have hspot : spot = none := by
        obtain ⟨z0, -⟩ := hF 0 (by omega)
        simpa [Addr.add] using World.cell?_spot z0
      subst hspot
      rw [add_off] at g0 g1 g2 g3
      exact ⟨b, off, rfl, g0, by rw [Nat.add_assoc]; exact g1, by rw [Nat.add_assoc]; exact g2, cv, by rw [Nat.add_assoc]; exact g3, gs⟩
end
set_option maxRecDepth 100000 in
theorem lifted (os : Os) (started : os.Started) (H : Type) (enc : TypeId × Value → H) :
    ReturnsInHanded {} Try.checked os 5 .any (Rows.fnFodderSplitSpec.pre6 enc Try.prog Try.f5 [] false) (Rows.fnFodderSplitSpec.post enc Try.prog Try.f5 false true false false) := by
  refine LawKit.law_lifted (C := Try.checked) own started (by kernel_rfl) Try.func5
    (ChangeSpec.witness6 (enc := enc) (C := Try.checked) false ⟨#[], #[.slice none 0 0], []⟩ 8 (by kernel_rfl) (by kernel_rfl) (by kernel_rfl) (by kernel_rfl))
    laidOut (by kernel_rfl) rfl (by kernel_rfl) Try.underlying4 ?_ ?_
  · intro ds hl
    have hl' : ds.length = 1 := hl
    obtain ⟨a, rfl⟩ : ∃ a, ds = [a] := by
      match ds, hl' with
      | [a], _ => exact ⟨a, rfl⟩
    exact ⟨rfl, rfl, rfl⟩
  · intro W base args ds before hval0 hA0 _ _
    have hval : ∀ (j : Nat) t v, Try.f5.params[j]? = some t → args[j]? = some v → Value.okWide Try.prog W .any base t v := hval0
    have hA : DataW.TrodAll enc Try.prog W 0 (fun _ => true) true Try.f5.params.toList args.toList ds before := hA0
    rw [Try.params5] at hA hval
    obtain ⟨v0, d0, rfl, rfl, h0⟩ := trodAll_one hA
    obtain ⟨a0, len, cap, rfl⟩ := okWide_slice Try.underlying28 (hval 0 28 v0 rfl rfl)
    obtain ⟨fuel, hf⟩ := h0
    obtain ⟨A, cap', es, hcs, hcap, hels⟩ := els_of hf
    simp [Value.cells] at hcs
    obtain ⟨rfl, rfl, rfl⟩ := hcs
    exact law a0 cap es W hcap hels
theorem holds : Rows.FnFodderSplitSaid :=
  OpenClaim.holds_of_wide 5 Try.f5 rfl rfl rfl rfl rfl rfl rfl ⟨rfl, rfl, rfl, rfl, rfl⟩ rfl rfl rfl rfl rfl (by kernel_rfl) Try.func5 (by kernel_rfl)
    (of_decide_eq_true (by kernel_rfl)) (by unfold Func.isWrapper; first | (rw [if_pos (by decide +kernel)]; kernel_rfl) | (rw [if_neg (by decide +kernel)]; exact ⟨rfl, rfl⟩))
    (fun os started H enc _ => lifted os started H enc)
end Go.Proofs.Ytfdkgaipakannaa.split

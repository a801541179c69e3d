/- FnStack: what a question finds behind each step (at most 200), how many frames, and how many calls, there are then; or that the steps are none: impl.Stack tells what spec.Stacked tells. For all lists of steps, without a condition. -/
import Derived.Test.YtincgkolpicipaaStk20
import Derived.Test.YtincgkolpicipaaLawKit
import Derived.Lib.SmallJoins
import Derived.SliceStrings
import Derived.Deep.Slices
import Derived.Deep.Fields
import Derived.ChangeSame
namespace Go.Proofs.Ytincgkolpicipaa.stack
open Go.ChangeShapes Go.WideShapes Go.ChangeAt Go.RowKit Go.Joins Go.Deep
theorem own : ownKnob Try.prog.godebug = none := by kernel_rfl
theorem laidOut : laidOutB Try.prog = true := by kernel_rfl
theorem cells9 : Try.prog.cellsOf 9 = 1 := by kernel_rfl
theorem cells47 : Try.prog.cellsOf 47 = 5 := by kernel_rfl
section
variable {H : Type} {enc : TypeId × Value → H} {W : World} {base : Nat} {spare : Nat → Bool} {held : Bool}
theorem strs_of {fuel : Nat} {v : Value} {y : DataW H × List MemPlace} (h : DataW.trod enc Try.prog W base spare held fuel 45 [v] = some y) : ∃ ss, Strs W v ss := by
  rcases open_strings Try.underlying45 Try.underlying9 cells9 h with ⟨hcs, -⟩ | ⟨a, len, cap, ss, hcs, _, hl, hm, hz, -, hcell, hws⟩
  · simp at hcs; subst hcs
    exact ⟨[], none, 0, rfl, by simp, fun j s h => by simp at h⟩
  · simp at hcs; subst hcs
    have hm' := hm
    unfold maxLen at hm'
    have hlen : len ≤ ss.length := by rw [hz]; split <;> omega
    have ht : (ss.take len).length = len := by rw [List.length_take]; omega
    refine ⟨ss.take len, some a, cap, by rw [ht], by omega, fun j s hj => ?_⟩
    have hjl : j < len := by have := (List.getElem?_eq_some_iff.1 hj).1; omega
    rw [List.getElem?_take_of_lt hjl] at hj
    have hj2 : j < ss.length := by omega
    have hc := hcell j hj2
    have hv : ss.getD j ByteArray.empty = s := by rw [List.getD, hj]; rfl
    rw [hv] at hc
    have hs := hws s (List.mem_of_getElem? hj)
    unfold maxLen at hs
    obtain ⟨b, off, spot⟩ := a
    have h0 := hcell 0 (by omega)
    have hspot : spot = none := by simpa [Addr.add] using World.cell?_spot h0
    subst hspot
    exact ⟨by omega, b, off, rfl, by rw [← add_off]; exact hc⟩
set_option maxRecDepth 100000 in
theorem sxs_of {fuel : Nat} {cs : List Value} {x : DataW H × List MemPlace} (h : DataW.trod enc Try.prog W base spare held fuel 22 cs = some x) :
    ∃ (A : Option Addr) (cap : Nat) (es : List Sx), cs = [.slice A es.length cap] ∧ Sxs W (.slice A es.length cap) es := by
  rcases open_slice Try.underlying22 h with ⟨hcs, -⟩ | ⟨a, len, cap, m, n, D, Pl, hcs, hb, hl, hm, hmm, hx, hi⟩
  · exact ⟨none, 0, [], hcs, none, 0, rfl, by simp, fun j s h => by simp at h⟩
  · have hlm : len ≤ m := by rw [hmm]; split <;> omega
    have each : ∀ i, i < len → ∃ e : Sx, W.cell? (a.add (i * 5)) = some (.int .i64 e.k) ∧ W.cell? (a.add (i * 5 + 2)) = some (.string e.name) ∧ W.cell? (a.add (i * 5 + 3)) = some (.int .i64 e.num) ∧ W.cell? (a.add (i * 5 + 4)) = some (.bool e.trim) ∧ e.name.size ≤ 9223372036854775807 ∧ ∃ cv, W.cell? (a.add (i * 5 + 1)) = some cv ∧ Strs W cv e.names := fun i hil => by
      obtain ⟨cs', hc, ht'⟩ := hi i (by omega)
      rw [cells47] at hc
      obtain ⟨ys, n', hn', hy, hlen, hyl, hf⟩ := DataW.trod_struct Try.underlying47 ht'
      obtain ⟨_, hcl, hat⟩ := World.cells?_some hc
      match cs', hcl with
      | [v0, v1, v2, v3, v4], _ =>
        have f0 : DataW.trod enc Try.prog W base spare held n' 3 ((List.drop 0 [v0, v1, v2, v3, v4]).take (Try.prog.cellsOf 3)) = ys[0]? := hf 0 _ rfl
        have f1 : DataW.trod enc Try.prog W base spare held n' 45 ((List.drop 1 [v0, v1, v2, v3, v4]).take (Try.prog.cellsOf 45)) = ys[1]? := hf 1 _ rfl
        have f2 : DataW.trod enc Try.prog W base spare held n' 9 ((List.drop 2 [v0, v1, v2, v3, v4]).take (Try.prog.cellsOf 9)) = ys[2]? := hf 2 _ rfl
        have f3 : DataW.trod enc Try.prog W base spare held n' 3 ((List.drop 3 [v0, v1, v2, v3, v4]).take (Try.prog.cellsOf 3)) = ys[3]? := hf 3 _ rfl
        have f4 : DataW.trod enc Try.prog W base spare held n' 4 ((List.drop 4 [v0, v1, v2, v3, v4]).take (Try.prog.cellsOf 4)) = ys[4]? := hf 4 _ rfl
        have c3 : Try.prog.cellsOf 3 = 1 := by kernel_rfl
        have c45 : Try.prog.cellsOf 45 = 1 := by kernel_rfl
        have c4 : Try.prog.cellsOf 4 = 1 := by kernel_rfl
        rw [c3] at f0 f3
        rw [c45] at f1
        rw [cells9] at f2
        rw [c4] at f4
        have f0' : DataW.trod enc Try.prog W base spare held n' 3 [v0] = ys[0]? := f0
        have f1' : DataW.trod enc Try.prog W base spare held n' 45 [v1] = ys[1]? := f1
        have f2' : DataW.trod enc Try.prog W base spare held n' 9 [v2] = ys[2]? := f2
        have f3' : DataW.trod enc Try.prog W base spare held n' 3 [v3] = ys[3]? := f3
        have f4' : DataW.trod enc Try.prog W base spare held n' 4 [v4] = ys[4]? := f4
        have e0 : ys[0]? = some (ys[0]'(by rw [hyl]; decide)) := List.getElem?_eq_getElem _
        have e1 : ys[1]? = some (ys[1]'(by rw [hyl]; decide)) := List.getElem?_eq_getElem _
        have e2 : ys[2]? = some (ys[2]'(by rw [hyl]; decide)) := List.getElem?_eq_getElem _
        have e3 : ys[3]? = some (ys[3]'(by rw [hyl]; decide)) := List.getElem?_eq_getElem _
        have e4 : ys[4]? = some (ys[4]'(by rw [hyl]; decide)) := List.getElem?_eq_getElem _
        obtain ⟨z0, g0, -, -⟩ := DataW.trod_int Try.underlying3 (f0'.trans e0)
        obtain ⟨ss, hss⟩ := strs_of (f1'.trans e1)
        obtain ⟨nm, g2, -, hz⟩ := DataW.trod_string Try.underlying9 (f2'.trans e2)
        obtain ⟨z3, g3, -, -⟩ := DataW.trod_int Try.underlying3 (f3'.trans e3)
        obtain ⟨b4, g4, -⟩ := DataW.trod_bool Try.underlying4 (f4'.trans e4)
        simp at g0 g2 g3 g4
        subst g0 g2 g3 g4
        have k0 := hat 0 (by decide)
        have k1 := hat 1 (by decide)
        have k2 := hat 2 (by decide)
        have k3 := hat 3 (by decide)
        have k4 := hat 4 (by decide)
        rw [add_add, Nat.add_zero] at k0
        rw [add_add] at k1 k2 k3 k4
        exact ⟨⟨z0, z3, ss, nm, b4⟩, k0, k2, k3, k4, by rw [← maxLen_eq]; exact hz, v1, k1, hss⟩
    obtain ⟨F, hF⟩ : ∃ F : Nat → Sx, ∀ i, i < len → W.cell? (a.add (i * 5)) = some (.int .i64 (F i).k) ∧ W.cell? (a.add (i * 5 + 2)) = some (.string (F i).name) ∧ W.cell? (a.add (i * 5 + 3)) = some (.int .i64 (F i).num) ∧ W.cell? (a.add (i * 5 + 4)) = some (.bool (F i).trim) ∧ (F i).name.size ≤ 9223372036854775807 ∧ ∃ cv, W.cell? (a.add (i * 5 + 1)) = some cv ∧ Strs W cv (F i).names := by
      haveI : Inhabited Sx := ⟨⟨0, 0, [], ByteArray.empty, false⟩⟩
      exact choose_lt each
    refine ⟨some a, cap, (List.range len).map F, by rw [hcs]; simp, some a, cap, rfl, ?_, fun i e he => ?_⟩
    · unfold maxLen at hm; simp; omega
    · rw [List.getElem?_map] at he
      obtain ⟨i', hi', rfl⟩ := Option.map_eq_some_iff.1 he
      have hil : i < len := by have := (List.getElem?_eq_some_iff.1 hi').1; simpa using this
      have : i' = i := by rw [List.getElem?_range hil] at hi'; exact (Option.some.inj hi').symm
      subst this
      obtain ⟨b, off, spot⟩ := a
      obtain ⟨g0, g2, g3, g4, gz, cv, g1, gs⟩ := hF i' hil
      have hspot : spot = none := by
        obtain ⟨z0, -⟩ := hF 0 (by omega)
        simpa [Addr.add] using World.cell?_spot z0
      subst hspot
      rw [add_off] at g0 g1 g2 g3 g4
      exact ⟨b, off, rfl, g0, by rw [Nat.add_assoc]; exact g2, by rw [Nat.add_assoc]; exact g3, by rw [Nat.add_assoc]; exact g4, gz, cv, by rw [Nat.add_assoc]; exact g1, gs⟩
end
set_option maxRecDepth 100000 in
theorem lifted (os : Os) (started : os.Started) (H : Type) (enc : TypeId × Value → H) :
    ReturnsInHanded {} Try.checked os 3 .any (Rows.fnStackSpec.pre6 enc Try.prog Try.f3 [] false) (Rows.fnStackSpec.post enc Try.prog Try.f3 false true false false) := by
  refine LawKit.law_lifted (C := Try.checked) own started (by kernel_rfl) Try.func3
    (ChangeSpec.witness6 (enc := enc) (C := Try.checked) false ⟨#[], #[.slice none 0 0], []⟩ 8 (by kernel_rfl) (by kernel_rfl) (by kernel_rfl) (by kernel_rfl))
    laidOut (by kernel_rfl) rfl (by kernel_rfl) Try.underlying4 ?_ ?_
  · intro ds hl
    have hl' : ds.length = 1 := hl
    obtain ⟨a, rfl⟩ : ∃ a, ds = [a] := by
      match ds, hl' with
      | [a], _ => exact ⟨a, rfl⟩
    exact ⟨rfl, rfl, rfl⟩
  · intro W base args ds before hval0 hA0 _ _
    have hval : ∀ (j : Nat) t v, Try.f3.params[j]? = some t → args[j]? = some v → Value.okWide Try.prog W .any base t v := hval0
    have hA : DataW.TrodAll enc Try.prog W 0 (fun _ => true) true Try.f3.params.toList args.toList ds before := hA0
    rw [Try.params3] at hA hval
    obtain ⟨v0, d0, rfl, rfl, h0⟩ := trodAll_one hA
    obtain ⟨a0, len, cap, rfl⟩ := okWide_slice Try.underlying22 (hval 0 22 v0 rfl rfl)
    obtain ⟨fuel, hf⟩ := h0
    obtain ⟨A, cap', es, hcs, hels⟩ := sxs_of hf
    simp [Value.cells] at hcs
    obtain ⟨rfl, rfl, rfl⟩ := hcs
    exact law a0 cap es W hels
theorem holds : Rows.FnStackSaid :=
  OpenClaim.holds_of_wide 3 Try.f3 rfl rfl rfl rfl rfl rfl rfl ⟨rfl, rfl, rfl, rfl, rfl⟩ rfl rfl rfl rfl rfl (by kernel_rfl) Try.func3 (by kernel_rfl)
    (of_decide_eq_true (by kernel_rfl)) (by unfold Func.isWrapper; first | (rw [if_pos (by decide +kernel)]; kernel_rfl) | (rw [if_neg (by decide +kernel)]; exact ⟨rfl, rfl⟩))
    (fun os started H enc _ => lifted os started H enc)
end Go.Proofs.Ytincgkolpicipaa.stack

/- FnChildren: the children of a node are all expressions next beneath it, each once. For all lists of nodes and all places, without a condition. -/
import Derived.Test.YtincgkolpicipaaC19
import Derived.Test.YtincgkolpicipaaLawKit
import Derived.Lib.SmallJoins
import Derived.SliceStrings
import Derived.Deep.Slices
import Derived.Deep.Fields
import Derived.ChangeSame
set_option linter.unusedVariables false
set_option linter.unusedSimpArgs false
namespace Go.Proofs.Ytincgkolpicipaa.kin
open Go.ChangeShapes Go.WideShapes Go.ChangeAt Go.RowKit Go.Joins Go.Deep
open Go.Proofs.Ytincgkolpicipaa.stack (add_off maxLen_eq)
theorem own : ownKnob Try.prog.godebug = none := by kernel_rfl
theorem laidOut : laidOutB Try.prog = true := by kernel_rfl
theorem cells9 : Try.prog.cellsOf 9 = 1 := by kernel_rfl
theorem cells37 : Try.prog.cellsOf 37 = 5 := by kernel_rfl
theorem u16_wf {a : Int} (h : (Lit.int .u16 a).wf = true) : 0 ≤ a ∧ a ≤ 65535 := by
  have h1 : (decide (IntKind.u16.min ≤ a) && decide (a ≤ IntKind.u16.max)) = true := h
  have e1 : IntKind.u16.min = 0 := by decide
  have e2 : IntKind.u16.max = 65535 := by decide
  rw [e1, e2] at h1
  simp at h1
  omega
section
variable {H : Type} {enc : TypeId × Value → H} {W : World} {base : Nat} {spare : Nat → Bool} {held : Bool}
set_option maxRecDepth 100000 in
theorem nrow_of {fuel : Nat} {cs : List Value} {x : DataW H × List MemPlace} (h : DataW.trod enc Try.prog W base spare held fuel 34 cs = some x) :
    ∃ (A : Option Addr) (cap : Nat) (ns : List Nd), cs = [.slice A ns.length cap] ∧ NRow W (.slice A ns.length cap) ns := by
  rcases open_slice Try.underlying34 h with ⟨hcs, -⟩ | ⟨a, len, cap, m, n, D, Pl, hcs, hb, hl, hm, hmm, hx, hi⟩
  · exact ⟨none, 0, [], hcs, none, 0, rfl, by simp, .inl rfl⟩
  · have hlm : len ≤ m := by rw [hmm]; split <;> omega
    have each : ∀ i, i < len → ∃ e : Nd, W.cell? (a.add (i * 5)) = some (.int .i64 e.k) ∧ W.cell? (a.add (i * 5 + 1)) = some (.int .i64 e.o) ∧ W.cell? (a.add (i * 5 + 2)) = some (.string e.t) ∧ W.cell? (a.add (i * 5 + 3)) = some (.int .i64 e.m) ∧ W.cell? (a.add (i * 5 + 4)) = some (.int .i64 e.z) ∧ e.t.size ≤ 9223372036854775807 := fun i hil => by
      obtain ⟨cs', hc, ht'⟩ := hi i (by omega)
      rw [cells37] at hc
      obtain ⟨ys, n', hn', hy, hlen, hyl, hf⟩ := DataW.trod_struct Try.underlying37 ht'
      obtain ⟨_, hcl, hat⟩ := World.cells?_some hc
      match cs', hcl with
      | [v0, v1, v2, v3, v4], _ =>
        have f0 : DataW.trod enc Try.prog W base spare held n' 3 ((List.drop 0 [v0, v1, v2, v3, v4]).take (Try.prog.cellsOf 3)) = ys[0]? := hf 0 _ rfl
        have f1 : DataW.trod enc Try.prog W base spare held n' 3 ((List.drop 1 [v0, v1, v2, v3, v4]).take (Try.prog.cellsOf 3)) = ys[1]? := hf 1 _ rfl
        have f2 : DataW.trod enc Try.prog W base spare held n' 9 ((List.drop 2 [v0, v1, v2, v3, v4]).take (Try.prog.cellsOf 9)) = ys[2]? := hf 2 _ rfl
        have f3 : DataW.trod enc Try.prog W base spare held n' 3 ((List.drop 3 [v0, v1, v2, v3, v4]).take (Try.prog.cellsOf 3)) = ys[3]? := hf 3 _ rfl
        have f4 : DataW.trod enc Try.prog W base spare held n' 3 ((List.drop 4 [v0, v1, v2, v3, v4]).take (Try.prog.cellsOf 3)) = ys[4]? := hf 4 _ rfl
        have c3 : Try.prog.cellsOf 3 = 1 := by kernel_rfl
        rw [c3] at f0 f1 f3 f4
        rw [cells9] at f2
        have f0' : DataW.trod enc Try.prog W base spare held n' 3 [v0] = ys[0]? := f0
        have f1' : DataW.trod enc Try.prog W base spare held n' 3 [v1] = ys[1]? := f1
        have f2' : DataW.trod enc Try.prog W base spare held n' 9 [v2] = ys[2]? := f2
        have f3' : DataW.trod enc Try.prog W base spare held n' 3 [v3] = ys[3]? := f3
        have f4' : DataW.trod enc Try.prog W base spare held n' 3 [v4] = ys[4]? := f4
        have e0 : ys[0]? = some (ys[0]'(by rw [hyl]; decide)) := List.getElem?_eq_getElem _
        have e1 : ys[1]? = some (ys[1]'(by rw [hyl]; decide)) := List.getElem?_eq_getElem _
        have e2 : ys[2]? = some (ys[2]'(by rw [hyl]; decide)) := List.getElem?_eq_getElem _
        have e3 : ys[3]? = some (ys[3]'(by rw [hyl]; decide)) := List.getElem?_eq_getElem _
        have e4 : ys[4]? = some (ys[4]'(by rw [hyl]; decide)) := List.getElem?_eq_getElem _
        obtain ⟨z0, g0, -, -⟩ := DataW.trod_int Try.underlying3 (f0'.trans e0)
        obtain ⟨z1, g1, -, -⟩ := DataW.trod_int Try.underlying3 (f1'.trans e1)
        obtain ⟨nm, g2, -, hz⟩ := DataW.trod_string Try.underlying9 (f2'.trans e2)
        obtain ⟨z3, g3, -, -⟩ := DataW.trod_int Try.underlying3 (f3'.trans e3)
        obtain ⟨z4, g4, -, -⟩ := DataW.trod_int Try.underlying3 (f4'.trans e4)
        simp at g0 g1 g2 g3 g4
        subst g0 g1 g2 g3 g4
        have k0 := hat 0 (by decide)
        have k1 := hat 1 (by decide)
        have k2 := hat 2 (by decide)
        have k3 := hat 3 (by decide)
        have k4 := hat 4 (by decide)
        rw [add_add, Nat.add_zero] at k0
        rw [add_add] at k1 k2 k3 k4
        exact ⟨⟨z0, z1, nm, z3, z4⟩, k0, k1, k2, k3, k4, by rw [← maxLen_eq]; exact hz⟩
    obtain ⟨F, hF⟩ : ∃ F : Nat → Nd, ∀ i, i < len → W.cell? (a.add (i * 5)) = some (.int .i64 (F i).k) ∧ W.cell? (a.add (i * 5 + 1)) = some (.int .i64 (F i).o) ∧ W.cell? (a.add (i * 5 + 2)) = some (.string (F i).t) ∧ W.cell? (a.add (i * 5 + 3)) = some (.int .i64 (F i).m) ∧ W.cell? (a.add (i * 5 + 4)) = some (.int .i64 (F i).z) ∧ (F i).t.size ≤ 9223372036854775807 := by
      haveI : Inhabited Nd := ⟨⟨0, 0, ByteArray.empty, 0, 0⟩⟩
      exact choose_lt each
    refine ⟨some a, cap, (List.range len).map F, by rw [hcs]; simp, some a, cap, rfl, ?_, ?_⟩
    · unfold maxLen at hm; simp; omega
    · cases len with
      | zero => exact .inl rfl
      | succ len =>
        obtain ⟨b, off, spot⟩ := a
        have hspot : spot = none := by
          obtain ⟨z0, -⟩ := hF 0 (by omega)
          simpa [Addr.add] using World.cell?_spot z0
        subst hspot
        refine .inr ⟨b, off, rfl, fun i e he => ?_⟩
        rw [List.getElem?_map] at he
        obtain ⟨i', hi', rfl⟩ := Option.map_eq_some_iff.1 he
        have hil : i < len + 1 := by have := (List.getElem?_eq_some_iff.1 hi').1; simpa using this
        have : i' = i := by rw [List.getElem?_range hil] at hi'; exact (Option.some.inj hi').symm
        subst this
        obtain ⟨g0, g1, g2, g3, g4, gz⟩ := hF i' hil
        rw [add_off] at g0 g1 g2 g3 g4
        exact ⟨g0, by rw [Nat.add_assoc]; exact g1, by rw [Nat.add_assoc]; exact g2, by rw [Nat.add_assoc]; exact g3, by rw [Nat.add_assoc]; exact g4, gz⟩
end
set_option maxRecDepth 100000 in
theorem lifted (os : Os) (started : os.Started) (H : Type) (enc : TypeId × Value → H) :
    ReturnsInHanded {} Try.checked os 5 .any (Rows.fnChildrenSpec.pre6 enc Try.prog Try.f5 [] false) (Rows.fnChildrenSpec.post enc Try.prog Try.f5 false true false false) := by
  refine LawKit.law_lifted (C := Try.checked) own started (by kernel_rfl) Try.func5
    (ChangeSpec.witness6 (enc := enc) (C := Try.checked) false ⟨#[], #[.slice none 0 0, .int .u16 0], []⟩ 8 (by kernel_rfl) (by kernel_rfl) (by kernel_rfl) (by kernel_rfl))
    laidOut (by kernel_rfl) rfl (by kernel_rfl) Try.underlying4 ?_ ?_
  · intro ds hl
    have hl' : ds.length = 2 := hl
    obtain ⟨a, b, rfl⟩ : ∃ a b, ds = [a, b] := by
      match ds, hl' with
      | [a, b], _ => exact ⟨a, b, rfl⟩
    exact ⟨rfl, rfl, rfl⟩
  · intro W base args ds before hval0 hA0 _ _
    have hval : ∀ (j : Nat) t v, Try.f5.params[j]? = some t → args[j]? = some v → Value.okWide Try.prog W .any base t v := hval0
    have hA : DataW.TrodAll enc Try.prog W 0 (fun _ => true) true Try.f5.params.toList args.toList ds before := hA0
    rw [Try.params5] at hA hval
    obtain ⟨v0, v1, d0, d1, p0, p1, rfl, rfl, rfl, h0, h1⟩ := trodAll_two hA
    obtain ⟨a0, len, cap, rfl⟩ := okWide_slice Try.underlying34 (hval 0 34 v0 rfl rfl)
    obtain ⟨fuel, hf⟩ := h0
    obtain ⟨A, cap', ns, hcs, hrow⟩ := nrow_of hf
    simp [Value.cells] at hcs
    obtain ⟨rfl, rfl, rfl⟩ := hcs
    obtain ⟨c, rfl, rfl, rfl, k1⟩ := open_int Try.underlying40 (hval 1 40 v1 rfl rfl) h1
    obtain ⟨u1, u2⟩ := u16_wf k1
    obtain ⟨x, rfl⟩ : ∃ x : Nat, c = x := ⟨c.toNat, by omega⟩
    exact law5 x (by omega) _ ns W hrow
theorem holds : Rows.FnChildrenSaid :=
  OpenClaim.holds_of_wide 5 Try.f5 rfl rfl rfl rfl rfl rfl rfl ⟨rfl, rfl, rfl, rfl, rfl⟩ rfl rfl rfl rfl rfl (by kernel_rfl) Try.func5 (by kernel_rfl)
    (of_decide_eq_true (by kernel_rfl)) (by unfold Func.isWrapper; first | (rw [if_pos (by decide +kernel)]; kernel_rfl) | (rw [if_neg (by decide +kernel)]; exact ⟨rfl, rfl⟩))
    (fun os started H enc _ => lifted os started H enc)
end Go.Proofs.Ytincgkolpicipaa.kin

/- FnStepsTwice: an object that is added twice, one right behind the other, is as if it were added once (at most 12 steps, as the law's own tests say): for all lists of steps and all places, with the tables of package unicode/utf8 tied to the program's text. -/
import Derived.Test.YtincgkolpicipaaDoorRows
import Derived.Test.YtincgkolpicipaaDoorSt25
import Derived.Test.YtincgkolpicipaaDoorLawKit
import Derived.Test.YtincgkolpicipaaDoorCards
import Derived.Test.YtincgkolpicipaaDoorTie
import Derived.ProofKit
import Derived.OpenShut
import Derived.Deep.DeepHandedRow
import Derived.Deep.DeepWitnessRowRef
import Derived.Lib.LaidTab
import Derived.SizedLaws
import Derived.Lib.SmallJoins
import Derived.SliceStrings
import Derived.Deep.Slices
import Derived.Deep.Fields
import Derived.ChangeSame
namespace Go.Proofs.YtincgkolpicipaaDoor.twice
open Go.ChangeShapes Go.WideShapes Go.ChangeAt Go.RowKit Go.Joins Go.Deep
theorem own : ownKnob Tryd.prog.godebug = none := by kernel_rfl
theorem laidOut : laidOutB Tryd.prog = true := by kernel_rfl
theorem cells9 : Tryd.prog.cellsOf 9 = 1 := by kernel_rfl
theorem cells3 : Tryd.prog.cellsOf 3 = 1 := by kernel_rfl
theorem of_wf {a : Int} (h : (Lit.int .u8 a).wf = true) : 0 ≤ a ∧ a < 256 := by
  have h1 : (decide (IntKind.u8.min ≤ a) && decide (a ≤ IntKind.u8.max)) = true := h
  have e1 : IntKind.u8.min = 0 := by decide
  have e2 : IntKind.u8.max = 255 := by decide
  rw [e1, e2] at h1
  simp at h1
  omega
theorem cells29 : Tryd.prog.cellsOf 29 = 4 := by kernel_rfl
section
variable {H : Type} {enc : TypeId × Value → H} {W : World} {base : Nat} {spare : Nat → Bool} {held : Bool}
theorem strs_of {fuel : Nat} {v : Value} {y : DataW H × List MemPlace} (h : DataW.trod enc Tryd.prog W base spare held fuel 26 [v] = some y) : ∃ ss, Strs W v ss := by
  rcases open_strings Tryd.underlying26 Tryd.underlying9 cells9 h with ⟨hcs, -⟩ | ⟨a, len, cap, ss, hcs, _, hl, hm, hz, -, hcell, hws⟩
  · simp at hcs; subst hcs
    exact ⟨[], none, 0, rfl, by simp, fun j s h => by simp at h⟩
  · simp at hcs; subst hcs
    have hm' := hm
    unfold maxLen at hm'
    have hlen : len ≤ ss.length := by rw [hz]; split <;> omega
    have ht : ((ss.take len).map fun b => b.data.toList).length = len := by rw [List.length_map, List.length_take]; omega
    refine ⟨(ss.take len).map fun b => b.data.toList, some a, cap, by rw [ht], by omega, fun j s hj => ?_⟩
    rw [List.getElem?_map] at hj
    obtain ⟨b0, hj0, rfl⟩ := Option.map_eq_some_iff.1 hj
    have hjl : j < len := by have := (List.getElem?_eq_some_iff.1 hj0).1; simp at this; omega
    rw [List.getElem?_take_of_lt hjl] at hj0
    have hj2 : j < ss.length := by omega
    have hc := hcell j hj2
    have hv : ss.getD j ByteArray.empty = b0 := by rw [List.getD, hj0]; rfl
    rw [hv] at hc
    have hs := hws b0 (List.mem_of_getElem? hj0)
    unfold maxLen at hs
    obtain ⟨b, off, spot⟩ := a
    have h0 := hcell 0 (by omega)
    have hspot : spot = none := by simpa [Addr.add] using World.cell?_spot h0
    subst hspot
    have hsz : b0.data.toList.length = b0.size := by rw [Array.length_toList]; rfl
    exact ⟨by rw [hsz]; omega, b, off, rfl, by rw [← add_off, Array.toArray_toList]; exact hc⟩
theorem ints_of {fuel : Nat} {cs : List Value} {x : DataW H × List MemPlace} (h : DataW.trod enc Tryd.prog W base spare held fuel 27 cs = some x) : ∃ v xs, cs = [v] ∧ Ints W v xs := by
  rcases open_slice Tryd.underlying27 h with ⟨hcs, -⟩ | ⟨a, len, cap, m, n, D, Pl, hcs, hb, hl, hm, hmm, hx, hi⟩
  · exact ⟨_, [], hcs, none, 0, rfl, by simp, fun j s h => by simp at h⟩
  · have hlm : len ≤ m := by rw [hmm]; split <;> omega
    have each : ∀ i, i < len → ∃ z : Int, W.cell? (a.add i) = some (.int .i64 z) := fun i hil => by
      obtain ⟨cs', hc, ht'⟩ := hi i (by omega)
      rw [cells3] at hc
      obtain ⟨_, hcl, hat⟩ := World.cells?_some hc
      match cs', hcl with
      | [v0], _ =>
        obtain ⟨z, g0, -, -⟩ := DataW.trod_int Tryd.underlying3 ht'
        simp at g0
        subst g0
        have k0 := hat 0 (by decide)
        rw [add_add, Nat.add_zero, Nat.mul_one] at k0
        exact ⟨z, k0⟩
    obtain ⟨F, hF⟩ : ∃ F : Nat → Int, ∀ i, i < len → W.cell? (a.add i) = some (.int .i64 (F i)) := choose_lt each
    refine ⟨_, (List.range len).map F, hcs, some a, cap, by simp, ?_, fun i e he => ?_⟩
    · unfold maxLen at hm; simp; omega
    · rw [List.getElem?_map] at he
      obtain ⟨i', hi', rfl⟩ := Option.map_eq_some_iff.1 he
      have hil : i < len := by have := (List.getElem?_eq_some_iff.1 hi').1; simpa using this
      have : i' = i := by rw [List.getElem?_range hil] at hi'; exact (Option.some.inj hi').symm
      subst this
      obtain ⟨b, off, spot⟩ := a
      have g0 := hF i' hil
      have hspot : spot = none := by
        have z0 := hF 0 (by omega)
        simpa [Addr.add] using World.cell?_spot z0
      subst hspot
      rw [add_off] at g0
      exact ⟨b, off, rfl, g0⟩
set_option maxRecDepth 100000 in
theorem sps_of {fuel : Nat} {cs : List Value} {x : DataW H × List MemPlace} (h : DataW.trod enc Tryd.prog W base spare held fuel 22 cs = some x) :
    ∃ (A : Option Addr) (cap : Nat) (es : List Sp), cs = [.slice A es.length cap] ∧ Sps W (.slice A es.length cap) es := by
  rcases open_slice Tryd.underlying22 h with ⟨hcs, -⟩ | ⟨a, len, cap, m, n, D, Pl, hcs, hb, hl, hm, hmm, hx, hi⟩
  · exact ⟨none, 0, [], hcs, none, 0, rfl, Nat.le_refl _, by simp, fun j s h => by simp at h⟩
  · have hlm : len ≤ m := by rw [hmm]; split <;> omega
    have each : ∀ i, i < len → ∃ e : Sp, W.cell? (a.add (i * 4)) = some (.bool e.is) ∧ W.cell? (a.add (i * 4 + 1)) = some (.string ⟨e.rem.toArray⟩) ∧ e.rem.length ≤ 9223372036854775807 ∧ ∃ nv hv, W.cell? (a.add (i * 4 + 2)) = some nv ∧ W.cell? (a.add (i * 4 + 3)) = some hv ∧ Strs W nv e.names ∧ Ints W hv e.hides := fun i hil => by
      obtain ⟨cs', hc, ht'⟩ := hi i (by omega)
      rw [cells29] at hc
      obtain ⟨ys, n', hn', hy, hlen, hyl, hf⟩ := DataW.trod_struct Tryd.underlying29 ht'
      obtain ⟨_, hcl, hat⟩ := World.cells?_some hc
      match cs', hcl with
      | [v0, v1, v2, v3], _ =>
        have f0 : DataW.trod enc Tryd.prog W base spare held n' 4 ((List.drop 0 [v0, v1, v2, v3]).take (Tryd.prog.cellsOf 4)) = ys[0]? := hf 0 _ rfl
        have f1 : DataW.trod enc Tryd.prog W base spare held n' 9 ((List.drop 1 [v0, v1, v2, v3]).take (Tryd.prog.cellsOf 9)) = ys[1]? := hf 1 _ rfl
        have f2 : DataW.trod enc Tryd.prog W base spare held n' 26 ((List.drop 2 [v0, v1, v2, v3]).take (Tryd.prog.cellsOf 26)) = ys[2]? := hf 2 _ rfl
        have f3 : DataW.trod enc Tryd.prog W base spare held n' 27 ((List.drop 3 [v0, v1, v2, v3]).take (Tryd.prog.cellsOf 27)) = ys[3]? := hf 3 _ rfl
        have c4 : Tryd.prog.cellsOf 4 = 1 := by kernel_rfl
        have c26 : Tryd.prog.cellsOf 26 = 1 := by kernel_rfl
        have c27 : Tryd.prog.cellsOf 27 = 1 := by kernel_rfl
        rw [c4] at f0
        rw [cells9] at f1
        rw [c26] at f2
        rw [c27] at f3
        have f0' : DataW.trod enc Tryd.prog W base spare held n' 4 [v0] = ys[0]? := f0
        have f1' : DataW.trod enc Tryd.prog W base spare held n' 9 [v1] = ys[1]? := f1
        have f2' : DataW.trod enc Tryd.prog W base spare held n' 26 [v2] = ys[2]? := f2
        have f3' : DataW.trod enc Tryd.prog W base spare held n' 27 [v3] = ys[3]? := f3
        have e0 : ys[0]? = some (ys[0]'(by rw [hyl]; decide)) := List.getElem?_eq_getElem _
        have e1 : ys[1]? = some (ys[1]'(by rw [hyl]; decide)) := List.getElem?_eq_getElem _
        have e2 : ys[2]? = some (ys[2]'(by rw [hyl]; decide)) := List.getElem?_eq_getElem _
        have e3 : ys[3]? = some (ys[3]'(by rw [hyl]; decide)) := List.getElem?_eq_getElem _
        obtain ⟨b0, g0, -⟩ := DataW.trod_bool Tryd.underlying4 (f0'.trans e0)
        obtain ⟨nm, g1, -, hz⟩ := DataW.trod_string Tryd.underlying9 (f1'.trans e1)
        obtain ⟨ss, hss⟩ := strs_of (f2'.trans e2)
        obtain ⟨hv, xs, g3, hxs⟩ := ints_of (f3'.trans e3)
        simp at g0 g1 g3
        subst g0 g1 g3
        have k0 := hat 0 (by decide)
        have k1 := hat 1 (by decide)
        have k2 := hat 2 (by decide)
        have k3 := hat 3 (by decide)
        rw [add_add, Nat.add_zero] at k0
        rw [add_add] at k1 k2 k3
        have hsz : nm.data.toList.length = nm.size := by rw [Array.length_toList]; rfl
        exact ⟨⟨b0, nm.data.toList, ss, xs⟩, k0, by rw [Array.toArray_toList]; exact k1, by rw [← maxLen_eq]; show nm.data.toList.length ≤ _; rw [hsz]; exact hz, v2, _, k2, k3, hss, hxs⟩
    obtain ⟨F, hF⟩ : ∃ F : Nat → Sp, ∀ i, i < len → W.cell? (a.add (i * 4)) = some (.bool (F i).is) ∧ W.cell? (a.add (i * 4 + 1)) = some (.string ⟨(F i).rem.toArray⟩) ∧ (F i).rem.length ≤ 9223372036854775807 ∧ ∃ nv hv, W.cell? (a.add (i * 4 + 2)) = some nv ∧ W.cell? (a.add (i * 4 + 3)) = some hv ∧ Strs W nv (F i).names ∧ Ints W hv (F i).hides := by
      haveI : Inhabited Sp := ⟨⟨false, [], [], []⟩⟩
      exact choose_lt each
    refine ⟨some a, cap, (List.range len).map F, by rw [hcs]; simp, some a, cap, rfl, by simpa using hl, ?_, fun i e he => ?_⟩
    · unfold maxLen at hm; simp; omega
    · rw [List.getElem?_map] at he
      obtain ⟨i', hi', rfl⟩ := Option.map_eq_some_iff.1 he
      have hil : i < len := by have := (List.getElem?_eq_some_iff.1 hi').1; simpa using this
      have : i' = i := by rw [List.getElem?_range hil] at hi'; exact (Option.some.inj hi').symm
      subst this
      obtain ⟨b, off, spot⟩ := a
      obtain ⟨g0, g1, gz, nv, hv, g2, g3, gs, gi⟩ := hF i' hil
      have hspot : spot = none := by
        obtain ⟨z0, -⟩ := hF 0 (by omega)
        simpa [Addr.add] using World.cell?_spot z0
      subst hspot
      rw [add_off] at g0 g1 g2 g3
      exact ⟨b, off, rfl, g0, by rw [Nat.add_assoc]; exact g1, gz, nv, hv, by rw [Nat.add_assoc]; exact g2, by rw [Nat.add_assoc]; exact g3, gs, gi⟩
end
/-- The witness: the settled world, the two variables holding what their initialisers lay. -/
noncomputable def laidWorld (os : Os) : World :=
  let w0 := World.holding Tryd.prog os ⟨#[], #[], []⟩
  let put (h : Array Obj) (g : Nat) (cs : Array Value) : Array Obj := h.modify g fun
    | .cells _ t frozen => .cells cs t frozen
    | o => o
  let h1 := put w0.heap 0 (Lib.firstTab.map fun z => Value.int .u8 z).toArray
  let h2 := put h1 1 ((List.range 16).flatMap fun i => [Value.int .u8 (Lib.accLo i), Value.int .u8 (Lib.accHi i)]).toArray
  { w0 with heap := h2 }
theorem laid_met (os : Os) (args : Array Value) : laidMet Tryd.prog Rows.fnStepsTwiceRow.laid ((laidWorld os).forCall (fun _ _ => 0) ⟨#[], args, []⟩).memory :=
  laidMet_of_run' 8 (by kernel_rfl) (by kernel_rfl)
theorem witness_row (os : Os) {H : Type} (enc : TypeId × Value → H) :
    (OpenSpec.ofChange Rows.fnStepsTwiceSpec).preRow enc Tryd.prog Tryd.f3 Rows.fnStepsTwiceRow.domain false Rows.fnStepsTwiceRow.laid ((laidWorld os).forCall (fun _ _ => 0) ⟨#[], #[.slice none 0 0, .int .u8 0], []⟩).memory #[.slice none 0 0, .int .u8 0] := by
  have hw : (DataW.whole enc Tryd.prog ((laidWorld os).forCall (fun _ _ => 0) ⟨#[], #[.slice none 0 0, .int .u8 0], []⟩).memory Tryd.f3.params.toList Rows.fnStepsTwiceSpec.vars false #[Value.slice none 0 0, Value.int .u8 0].toList 8).map (fun x => (x.1, x.2.1)) =
      some ([.nil, .lit (.int .u8 0)], []) := by kernel_rfl
  obtain ⟨⟨x1, x2, x3⟩, hx, hx1⟩ := Option.map_eq_some_iff.1 hw
  simp only [Prod.mk.injEq] at hx1
  obtain ⟨rfl, rfl⟩ := hx1
  exact OpenSpec.preRow_of_cond 8 hx (by kernel_rfl) (fun k hk => by cases hk) (by kernel_rfl) (laid_met os _)

set_option maxRecDepth 100000 in
theorem lifted (os : Os) (started : os.Started) (H : Type) (enc : TypeId × Value → H) (F : Stop.Interp) :
    ReturnsInHanded {} Tryd.checked os 3 .any ((OpenSpec.ofChange Rows.fnStepsTwiceSpec).preRow enc Tryd.prog Tryd.f3 Rows.fnStepsTwiceRow.domain false Rows.fnStepsTwiceRow.laid) (((OpenSpec.ofChange Rows.fnStepsTwiceSpec).at F).post enc Tryd.prog Tryd.f3 false true false false) := by
  refine returnsInHanded_of_row (C := Tryd.checked) (s := OpenSpec.ofChange Rows.fnStepsTwiceSpec) own started (by kernel_rfl) Tryd.func3
    (witness_row_at (enc := enc) (C := Tryd.checked) false (laidWorld os) #[.slice none 0 0, .int .u8 0] rfl (by kernel_rfl) (by kernel_rfl) (by kernel_rfl) (witness_row os enc)) ?_
  intro W base args ds gs before hval0 hW _ _ _ hL _ _
  have hval : ∀ (j : Nat) t v, Tryd.f3.params[j]? = some t → args[j]? = some v → Value.okWide Tryd.prog W .any base t v := hval0
  have hW' := hW
  obtain ⟨p, q, hA0, hV0, rfl, _, _⟩ := hW
  have hA : DataW.TrodAll enc Tryd.prog W 0 (fun _ => true) true Tryd.f3.params.toList args.toList ds p := hA0
  rw [Tryd.params3] at hA hval
  obtain ⟨v0, v1, d0, d1, p0, p1, rfl, rfl, rfl, h0, h1⟩ := trodAll_two hA
  obtain ⟨a0, len, cap, rfl⟩ := okWide_slice Tryd.underlying22 (hval 0 22 v0 rfl rfl)
  obtain ⟨c, rfl, rfl, rfl, k1⟩ := open_int Tryd.underlying5 (hval 1 5 v1 rfl rfl) h1
  obtain ⟨fuel, hf⟩ := h0
  obtain ⟨A, cap', es, hcs, hels⟩ := sps_of hf
  simp [Value.cells] at hcs
  obtain ⟨rfl, rfl, rfl⟩ := hcs
  have hu := of_wf k1
  obtain ⟨an, rfl⟩ : ∃ an : Nat, c = an := ⟨c.toNat, (Int.toNat_of_nonneg hu.1).symm⟩
  have htab : Tabs W := tabs_of (first_is ▸ Lib.laidMet.reads hL (.tail _ (.head _))) (accept_is ▸ Lib.laidMet.reads hL (.head _))
  refine (law _ an es W hels (by omega) htab).mono ?_
  rintro e W' ⟨he, hb⟩
  subst he
  refine ⟨_, rfl, LawKit.law_post laidOut (by kernel_rfl) rfl (by kernel_rfl) Tryd.underlying4 ?_ hW' hb⟩
  intro ds hl
  have hl' : ds.length = 2 := hl
  obtain ⟨a, b, rfl⟩ : ∃ a b, ds = [a, b] := by
    match ds, hl' with
    | [a, b], _ => exact ⟨a, b, rfl⟩
  exact ⟨rfl, rfl, rfl⟩

theorem said : Rows.FnStepsTwiceSaid :=
  OpenClaim.holds_of_cond 3 Tryd.f3 rfl rfl rfl rfl rfl rfl rfl ⟨rfl, rfl, rfl, rfl, rfl⟩ rfl rfl rfl rfl rfl (by kernel_rfl) Tryd.func3 (by kernel_rfl)
    (of_decide_eq_true (by kernel_rfl)) (by unfold Func.isWrapper; first | (rw [if_pos (by decide +kernel)]; kernel_rfl) | (rw [if_neg (by decide +kernel)]; exact ⟨rfl, rfl⟩))
    (fun os started H enc _ F => by rw [OpenClaim.pre_eq_preRow]; exact lifted os started H enc F)

/-- No parameter wants a stand-in; the program's own looks are off: what the card asks. -/
theorem plain (f : FuncId) (fn : Func) (hf : Tryd.pinned.checked.prog.funcNamed "given.example/pub-rondel/laws.FnStepsTwice" = some f) (hfn : Tryd.pinned.checked.prog.funcs[f]? = some fn) :
    true = Tryd.pinned.checked.prog.looks [] ∧ ∀ (j : Nat) t, fn.params[j]? = some t → Tryd.pinned.checked.prog.wantsStandIn t = false := by
  obtain rfl : f = 3 := Option.some.inj ((show Tryd.prog.funcNamed "given.example/pub-rondel/laws.FnStepsTwice" = some 3 by kernel_rfl).symm.trans hf) |>.symm
  obtain rfl : fn = Tryd.f3 := (Option.some.inj (Tryd.func3.symm.trans hfn)).symm
  refine ⟨by kernel_rfl, fun j t ht => ?_⟩
  rw [Tryd.params3] at ht
  have hm := Array.mem_of_getElem? ht
  have hm2 : t = 22 ∨ t = 5 := by simpa using hm
  rcases hm2 with rfl | rfl
  · exact (show Tryd.prog.wantsStandIn 22 = false by kernel_rfl)
  · exact (show Tryd.prog.wantsStandIn 5 = false by kernel_rfl)

theorem card : Rows.FnStepsTwiceCardSaid :=
  Claim7.holds_tied_plain_at .later [] _ _ _ _ said (fun _ h => by cases h) (by kernel_rfl) (fun _ h => by cases h) fnStepsTwice_row_tie rfl ⟨rfl, rfl⟩ (by kernel_rfl) rfl plain (by kernel_rfl)
end Go.Proofs.YtincgkolpicipaaDoor.twice

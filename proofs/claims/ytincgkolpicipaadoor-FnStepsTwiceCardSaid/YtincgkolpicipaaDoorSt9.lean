/- FnStepsTwice: objects less a field, objects one to the right of the other: made. -/
import Derived.Test.YtincgkolpicipaaDoorSt8
import Derived.Deep.RegionHeld3
namespace Go.Proofs.YtincgkolpicipaaDoor.twice
open Go.RowKit
theorem objVis_any (g : Nat) (o : Ob) (w : World) (h : VoAt w g o) (hc : o.cnt ≤ 1000000) : Calls Tryd.prog 20 #[.pointer (some ⟨g, 0, none⟩)] w fun e w' => Below w.heap.size w w' ∧ ∃ b, e = .returned (.map (some b)) ∧ w.heap.size ≤ b ∧ MapV hR w' b o.view o.cnt := by
  have c2 := h.cell
  have HV := Lib.hid (vis_any o w h.2 hc)
  clear h
  generalize o.val = v at *
  go_enter Tryd.func20, Tryd.ntmps20
  go_wp2_with (go_at_call 23; refine HV.out.mono ?_; rintro e w1 ⟨hb, b, rfl, hle, hm⟩; have HX := Lib.hid (And.intro hb (And.intro hle hm)); clear hb hle hm)
  go_returns
  obtain ⟨hb, hle, hm⟩ := HX.out
  exact ⟨hb, b, rfl, hle, hm⟩
theorem meth82 (p : Value) (w : World) : (method 334 82 p "given.example/pub-rondel/pub/jsonnet.inheritanceSize").run Tryd.prog w = .ok (66, p) w := by kernel_rfl
theorem meth75 (p : Value) (w : World) : (method 334 75 p "given.example/pub-rondel/pub/jsonnet.inheritanceSize").run Tryd.prog w = .ok (64, p) w := by kernel_rfl
theorem meth79 (p : Value) (w : World) : (method 334 79 p "given.example/pub-rondel/pub/jsonnet.inheritanceSize").run Tryd.prog w = .ok (65, p) w := by kernel_rfl
theorem enter64 (args : Array Value) (W : World) : (callFunc 64 args).run Tryd.prog W = .ok (.enter 64 args) W := by kernel_rfl
theorem enter65 (args : Array Value) (W : World) : (callFunc 65 args).run Tryd.prog W = .ok (.enter 65 args) W := by kernel_rfl
theorem enter66 (args : Array Value) (W : World) : (callFunc 66 args).run Tryd.prog W = .ok (.enter 66 args) W := by kernel_rfl
/-- How big an object is: told by a method of its own: some number. -/
def SizeC (o : Ob) : Prop := ∃ T q f, o.val = .iface T q ∧ (∀ W, (method 334 T q "given.example/pub-rondel/pub/jsonnet.inheritanceSize").run Tryd.prog W = .ok (f, q) W) ∧ (∀ args W, (callFunc f args).run Tryd.prog W = .ok (.enter f args) W) ∧ ∀ w, o.At w → Calls Tryd.prog f #[q] w fun e w' => (∃ z : Int, e = .returned (.int .i64 z)) ∧ w' = w
theorem size_sim (p b : Nat) (f : Vw) (n : Nat) : SizeC (.sim p b f n) := by
  refine ⟨82, _, 66, rfl, fun W => meth82 _ W, enter66, fun w h => ?_⟩
  clear h
  go_enter Tryd.func66, Tryd.ntmps66
  go_wp2_with fail
  go_returns
  exact ⟨⟨_, rfl⟩, rfl⟩
theorem size_ext (p : Nat) (z : Int) (l r : Ob) : SizeC (.ext p z l r) := by
  refine ⟨79, _, 65, rfl, fun W => meth79 _ W, enter65, fun w h => ?_⟩
  have c2 : w.cell? ⟨p, 2, none⟩ = some (.int .i64 z) := cell_of_row w _ 2 _ _ _ h.1
  clear h
  go_enter Tryd.func65, Tryd.ntmps65
  go_wp2_with fail
  go_returns
  exact ⟨⟨_, rfl⟩, rfl⟩
set_option maxRecDepth 100000 in
theorem size_res (p b : Nat) (f : Vw) (n : Nat) (o : Ob) (ho : SizeC o) : SizeC (.res p b f n o) := by
  refine ⟨75, _, 64, rfl, fun W => meth75 _ W, enter64, fun w h => ?_⟩
  obtain ⟨T, q, fn, hv, hm, he, hc⟩ := ho
  have c0 : w.cell? ⟨p, 0, none⟩ = some (.iface T q) := by rw [← hv]; exact cell_of_row w _ 0 _ _ _ h.1
  have HC := Lib.hid (hc w h.2.2)
  clear h hc hv
  go_enter Tryd.func64, Tryd.ntmps64
  go_wp2_with fail
  refine HC.out.mono ?_
  rintro e w1 ⟨⟨z, rfl⟩, rfl⟩
  go_wp2_with fail
  go_returns
  exact ⟨⟨_, rfl⟩, rfl⟩
theorem size_any : ∀ o : Ob, SizeC o
  | .sim p b f n => size_sim p b f n
  | .res p b f n o => size_res p b f n o (size_any o)
  | .ext p z l r => size_ext p z l r
end Go.Proofs.YtincgkolpicipaaDoor.twice

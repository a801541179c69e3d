/- FnStack: numbers, thunks; the call stack's own block. -/
import Derived.Test.YtincgkolpicipaaStk5
import Derived.Maps.OwnSet
import Derived.Laws.Cover2
import Derived.Laws.Rows
import Derived.Handy
namespace Go.Proofs.Ytincgkolpicipaa.stack
open Go.RowKit
theorem makeValueNumber_any (b : Nat) (w : World) : Calls Try.prog 80 #[.float .f64 b] w fun e w' => e = .returned (.pointer (some ⟨w.heap.size, 0, none⟩)) ∧ w' = w.alloc (.cells #[.float .f64 b] 109) := by
  go_enter Try.func80, Try.ntmps80
  go_wp2
  go_ret
  exact ⟨rfl, rfl⟩
theorem intToValue_any (i : Int) (w : World) : Calls Try.prog 66 #[.int .i64 i] w fun e w' => e = .returned (.pointer (some ⟨w.heap.size, 0, none⟩)) ∧ w' = w.alloc (.cells #[.float .f64 (floatOfInt .f64 i)] 109) := by
  go_enter Try.func66, Try.ntmps66
  go_wp2_with (go_at_call 80; refine (makeValueNumber_any _ _).mono ?_; rintro e w' ⟨rfl, rfl⟩)
  go_ret
  exact ⟨rfl, rfl⟩
theorem readyThunk_any (T : TypeId) (v : Value) (w : World) : Calls Try.prog 65 #[.iface T v] w fun e w' => e = .returned (.pointer (some ⟨w.heap.size, 0, none⟩)) ∧ w' = w.alloc (.cells #[.pointer none, .nilIface, .iface T v, .nilIface] 117) := by
  go_enter Try.func65, Try.ntmps65
  go_wp2
  go_ret
  exact ⟨rfl, rfl⟩
/-- The call stack's block. -/
def Cs (W : World) (g : Nat) (t0 t1 sl : Value) (n m : Int) : Prop := W.heap[g]? = some (.cells #[t0, t1, sl, .int .i64 n, .int .i64 m] 80 (0, 0))
theorem Cs.at {W : World} {g : Nat} {t0 t1 sl : Value} {n m : Int} (h : Cs W g t0 t1 sl n m) (j : Nat) : W.cell? ⟨g, j, none⟩ = #[t0, t1, sl, .int .i64 n, .int .i64 m][j]? := cell_of_row W g j _ _ _ h
theorem Cs.free {W : World} {g : Nat} {t0 t1 sl : Value} {n m : Int} (h : Cs W g t0 t1 sl n m) (j : Nat) : W.frozen? ⟨g, j, none⟩ = false := frozen_of_row W g j _ _ h
theorem Cs.trace {W : World} {g : Nat} {t0 t1 sl : Value} {n m : Int} (h : Cs W g t0 t1 sl n m) (a b : Value) : Cs ((W.setCell ⟨g, 0, none⟩ a).setCell ⟨g, 1, none⟩ b) g a b sl n m :=
  heap_setCell_same _ g 1 _ _ b (heap_setCell_same W g 0 _ _ a h)
theorem Cs.slice {W : World} {g : Nat} {t0 t1 sl : Value} {n m : Int} (h : Cs W g t0 t1 sl n m) (a : Value) : Cs (W.setCell ⟨g, 2, none⟩ a) g t0 t1 a n m := heap_setCell_same W g 2 _ _ a h
theorem Cs.count {W : World} {g : Nat} {t0 t1 sl : Value} {n m : Int} (h : Cs W g t0 t1 sl n m) (a : Int) : Cs (W.setCell ⟨g, 3, none⟩ (.int .i64 a)) g t0 t1 sl a m := heap_setCell_same W g 3 _ _ _ h
theorem Cs.chg {X : Nat → Prop} {W W' : World} {g : Nat} {t0 t1 sl : Value} {n m : Int} (h : Cs W g t0 t1 sl n m) (hx : Chg X W W') (hX : ¬ X g) : Cs W' g t0 t1 sl n m := hx.keep h hX
theorem Cs.alloc {W : World} {g : Nat} {t0 t1 sl : Value} {n m : Int} (h : Cs W g t0 t1 sl n m) (o : Obj) : Cs (W.alloc o) g t0 t1 sl n m := h.chg (X := fun _ => False) (Chg.below ((Below.refl _ _).alloc (Nat.le_refl _) o)) id
theorem trace_chg (w : World) (g : Nat) (a b : Value) : Chg (fun k => k = g) w ((w.setCell ⟨g, 0, none⟩ a).setCell ⟨g, 1, none⟩ b) :=
  Chg.setCell (X := fun k => k = g) (p := ⟨g, 1, none⟩) (Chg.setCell (X := fun k => k = g) (p := ⟨g, 0, none⟩) (Chg.refl _ _) (fun _ => rfl) a) (fun _ => rfl) b
theorem clearCurrentTrace_any (g : Nat) (t0 t1 sl : Value) (n m : Int) (w : World) (h : Cs w g t0 t1 sl n m) : Calls Try.prog 41 #[.pointer (some ⟨g, 0, none⟩)] w fun e w' => e = .returned (.tuple #[]) ∧ Cs w' g (.pointer none) (.pointer none) sl n m ∧ Chg (fun k => k = g) w w' := by
  have H := Lib.hid h
  have f0 := h.free 0
  have f1 := h.free 1
  have c0 : w.cell? ⟨g, 0, none⟩ = some t0 := h.at 0
  have c1 : w.cell? ⟨g, 1, none⟩ = some t1 := h.at 1
  clear h
  go_enter Try.func41, Try.ntmps41
  go_wp2_with fail
  go_returns
  exact ⟨rfl, H.out.trace _ _, trace_chg _ _ _ _⟩
theorem makeEnvironment_any (mb : Option Nat) (z : Int) (w : World) : Calls Try.prog 44 #[.map mb, .agg #[.pointer none, .int .i64 z]] w fun e w' => e = .returned (.agg #[.map mb, .pointer none, .int .i64 z]) ∧ Below w.heap.size w w' := by
  go_enter Try.func44, Try.ntmps44
  go_wp2
  go_returns
  exact ⟨rfl, ((Below.refl _ _).alloc (Nat.le_refl _) _).alloc (by simp) _⟩
theorem makeUnbound_any (w : World) : Calls Try.prog 46 #[] w fun e w' => e = .returned (.agg #[.pointer none, .int .i64 123456789]) ∧ Below w.heap.size w w' := by
  go_enter Try.func46, Try.ntmps46
  go_wp2
  go_returns
  exact ⟨rfl, (Below.refl _ _).alloc (Nat.le_refl _) _⟩
theorem makeCallStack_any (m : Int) (w : World) : Calls Try.prog 39 #[.int .i64 m] w fun e w' => e = .returned (.agg #[.pointer none, .pointer none, .slice none 0 0, .int .i64 0, .int .i64 m]) ∧ Below w.heap.size w w' := by
  go_enter Try.func39, Try.ntmps39
  go_wp2
  go_returns
  exact ⟨rfl, (Below.refl _ _).alloc (Nat.le_refl _) _⟩
theorem makeMessage_any (s : ByteArray) (w : World) : Calls Try.prog 40 #[.string s] w fun e w' => e = .returned (.agg #[.pointer none, .string s, .int .i64 0, .int .i64 0, .int .i64 0, .int .i64 0]) ∧ Below w.heap.size w w' := by
  go_enter Try.func40, Try.ntmps40
  go_wp2
  go_returns
  exact ⟨rfl, (Below.refl _ _).alloc (Nat.le_refl _) _⟩
theorem eq73 (w : World) : Sem.run Try.prog (Op.equalIn 9999 73 (Value.pointer none) (Value.pointer none)) w = .ok true w := by kernel_rfl
theorem eq75 (w : World) : Sem.run Try.prog (Op.equalIn 9999 75 (Value.pointer none) (Value.pointer none)) w = .ok true w := by kernel_rfl
set_option maxRecDepth 100000 in
theorem setCurrentTrace_any (g : Nat) (a b : Option Addr) (sl : Value) (n m : Int) (w : World) (h : Cs w g (.pointer none) (.pointer none) sl n m) : Calls Try.prog 42 #[.pointer (some ⟨g, 0, none⟩), .agg #[.pointer a, .pointer b]] w fun e w' => e = .returned (.tuple #[]) ∧ Cs w' g (.pointer a) (.pointer b) sl n m ∧ Chg (fun k => k = g) w w' := by
  have H := Lib.hid h
  have f0 := h.free 0
  have f1 := h.free 1
  have c0 : w.cell? ⟨g, 0, none⟩ = some (.pointer none) := h.at 0
  have c1 : w.cell? ⟨g, 1, none⟩ = some (.pointer none) := h.at 1
  have hl : g < w.heap.size := (Array.getElem?_eq_some_iff.1 h).1
  clear h
  have e73 := eq73
  have e75 := eq75
  go_enter Try.func42, Try.ntmps42
  go_wp2_with fail
  go_returns
  exact ⟨rfl, (H.out.trace _ _).alloc _, (trace_chg _ _ _ _).alloc _⟩
end Go.Proofs.Ytincgkolpicipaa.stack

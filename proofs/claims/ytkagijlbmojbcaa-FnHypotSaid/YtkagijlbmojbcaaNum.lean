/- Numbers of the evaluator: made, read, checked, handed on. -/
import Derived.Test.YtkagijlbmojbcaaRows
import Derived.Test.YtkagijlbmojbcaaFloat
import Derived.Test.YtkagijlbmojbcaaErr
import Derived.WalkKit
import Derived.WalkLawsBesides
import Derived.Lib.Hide
import Derived.Below
import Derived.BigRegion
import Derived.BigQuiet
namespace Go.Proofs.Ytkagijlbmojbcaa.num
open Go.RowKit Go.Proofs.Ytkagijlbmojbcaa.fl Go.Proofs.Ytkagijlbmojbcaa

theorem as_ok (v : Value) (w : World) : (Instr.typeAssert (.iface 87 v) 48 87 true).run Try.prog w = .ok (.tuple #[v, .bool true]) w := by kernel_rfl
theorem as_one (v : Value) (w : World) : (Instr.typeAssert (.iface 87 v) 48 87 false).run Try.prog w = .ok v w := by kernel_rfl

theorem get_any (p : Value) (a : Addr) (w : World) :
    Calls Try.prog 46 #[p, .iface 87 (.pointer (some a))] w fun e w' => e = .returned (.tuple #[.pointer (some a), .nilIface]) ∧ w = w' := by
  have h1 := as_ok
  go_enter Try.func46, Try.ntmps46
  go_wp2
  go_ret2
  exact ⟨rfl, rfl⟩
theorem numOf_ok (x : Nat) (a : Addr) (w : World) (h : w.cell? a = some (.float .f64 x)) :
    Calls Try.prog 35 #[.iface 87 (.pointer (some a)), .nilIface] w fun e w' => e = .returned (.tuple #[.float .f64 x, .nilIface]) ∧ w = w' := by
  have h1 := as_one
  go_enter Try.func35, Try.ntmps35
  go_wp2
  go_ret2
  exact ⟨rfl, rfl⟩
theorem numOf_err (t : TypeId) (v : Value) (w : World)  :
    Calls Try.prog 35 #[.nilIface, .iface t v] w fun e w' => e = .returned (.tuple #[.float .f64 0, .iface t v]) ∧ w = w' := by
  have h1 := as_one
  go_enter Try.func35, Try.ntmps35
  go_wp2
  go_ret2
  exact ⟨rfl, rfl⟩
theorem number_ok (x : Nat) (w : World) :
    Calls Try.prog 21 #[.float .f64 x, .nilIface] w fun e w' => e = .returned (.tuple #[.float .f64 x, .bool true]) ∧ w = w' := by
  go_enter Try.func21, Try.ntmps21
  go_wp2
  go_ret2
  exact ⟨rfl, rfl⟩
theorem number_err (x : Nat) (t : TypeId) (v : Value) (w : World) :
    Calls Try.prog 21 #[.float .f64 x, .iface t v] w fun e w' => e = .returned (.tuple #[.float .f64 0, .bool false]) ∧ w = w' := by
  go_enter Try.func21, Try.ntmps21
  go_wp2
  go_ret2
  exact ⟨rfl, rfl⟩

theorem mk_any (x : Nat) (w : World) :
    Calls Try.prog 48 #[.float .f64 x] w fun e w' => e = .returned (.pointer (some ⟨w.heap.size, 0, none⟩)) ∧ w.alloc (.cells #[.float .f64 x] 86) = w' := by
  go_enter Try.func48, Try.ntmps48
  go_wp2
  go_ret
  exact ⟨rfl, rfl⟩
theorem num_any (x : Nat) (w : World) :
    Calls Try.prog 37 #[.float .f64 x] w fun e w' => e = .returned (.iface 87 (.pointer (some ⟨w.heap.size, 0, none⟩))) ∧ w.alloc (.cells #[.float .f64 x] 86) = w' := by
  go_enter Try.func37, Try.ntmps37
  go_wp2
  go_ret
  exact ⟨rfl, rfl⟩

def errS (x : Nat) : ByteArray := if nanB x then ⟨#[78, 111, 116, 32, 97, 32, 110, 117, 109, 98, 101, 114]⟩ else ⟨#[79, 118, 101, 114, 102, 108, 111, 119]⟩
def errV (x : Nat) : Value := .agg #[.string (errS x), .slice none 0 0]

theorem dc_ok (b : Nat) (x : Nat) (w : World) (hx : finB x = true) :
    Calls Try.prog 51 #[.pointer (some ⟨b, 0, none⟩), .float .f64 x] w fun e w' => e = .returned (.tuple #[.iface 87 (.pointer (some ⟨w.heap.size, 0, none⟩)), .nilIface]) ∧ w.alloc (.cells #[.float .f64 x] 86) = w' := by
  have h1 : nanB x = false := by cases h : nanB x <;> simp_all [finB]
  have h2 : infB x = false := by cases h : infB x <;> simp_all [finB]
  have c1 := nan_any x
  have c2 := inf_any x
  rw [h1] at c1
  rw [h2] at c2
  have C1 := Lib.hid c1
  have C2 := Lib.hid c2
  clear c1 c2 h1 h2 hx
  go_enter Try.func51, Try.ntmps51
  go_wp2_with (first | (go_at_call 33; refine (C1.out _).mono ?_; rintro e w' ⟨rfl, rfl⟩) | (go_at_call 34; refine (C2.out _).mono ?_; rintro e w' ⟨rfl, rfl⟩) | (go_at_call 48; refine (mk_any _ _).mono ?_; rintro e w' ⟨rfl, rfl⟩))
  go_ret2
  exact ⟨rfl, rfl⟩

theorem dc_err (b : Nat) (x : Nat) (w : World) (hx : finB x = false) (h7 : w.cell? ⟨b, 7, none⟩ = some (.slice none 0 0)) (h5 : w.cell? ⟨b, 5, none⟩ = some (.pointer none)) :
    Calls Try.prog 51 #[.pointer (some ⟨b, 0, none⟩), .float .f64 x] w fun e w' => e = .returned (.tuple #[.nilIface, .iface 99 (errV x)]) ∧ Below w.heap.size w w' := by
  have c1 := nan_any x
  have c2 := inf_any x
  have hb : ∀ s : ByteArray, Below w.heap.size w ((w.alloc (.cells #[.string s, .slice none 0 0] 99)).alloc (.cells #[.string s, .slice none 0 0] 99)) := fun s => ((Below.refl _ _).alloc (Nat.le_refl _) _).alloc (by simp) _
  cases hn : nanB x
  · have h2 : infB x = true := by cases h : infB x <;> simp_all [finB]
    have he : errV x = .agg #[.string ⟨#[79, 118, 101, 114, 102, 108, 111, 119]⟩, .slice none 0 0] := by simp [errV, errS, hn]
    rw [he]
    rw [hn] at c1
    rw [h2] at c2
    have C1 := Lib.hid c1
    have C2 := Lib.hid c2
    have HB := Lib.hid hb
    clear c1 c2 h2 hx hn he hb
    go_enter Try.func51, Try.ntmps51
    go_wp2_with (first | (go_at_call 33; refine (C1.out _).mono ?_; rintro e w' ⟨rfl, rfl⟩) | (go_at_call 34; refine (C2.out _).mono ?_; rintro e w' ⟨rfl, rfl⟩) | (go_at_call 58; refine (err.error_any _ _ _ (by assumption) (by assumption)).mono ?_; rintro e w' ⟨rfl, rfl⟩))
    go_ret2
    exact ⟨rfl, HB.out _⟩
  · have he : errV x = .agg #[.string ⟨#[78, 111, 116, 32, 97, 32, 110, 117, 109, 98, 101, 114]⟩, .slice none 0 0] := by simp [errV, errS, hn]
    rw [he]
    rw [hn] at c1
    have C1 := Lib.hid c1
    have HB := Lib.hid hb
    clear c1 c2 hx hn he hb
    go_enter Try.func51, Try.ntmps51
    go_wp2_with (first | (go_at_call 33; refine (C1.out _).mono ?_; rintro e w' ⟨rfl, rfl⟩) | (go_at_call 58; refine (err.error_any _ _ _ (by assumption) (by assumption)).mono ?_; rintro e w' ⟨rfl, rfl⟩))
    go_ret2
    exact ⟨rfl, HB.out _⟩
end Go.Proofs.Ytkagijlbmojbcaa.num

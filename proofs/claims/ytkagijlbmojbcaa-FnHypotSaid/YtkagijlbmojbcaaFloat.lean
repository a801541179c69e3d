/- Floats: math.Abs, IsNaN, IsInf, spec.Finite and laws.finite by contract. -/
import Derived.Test.YtkagijlbmojbcaaRows
import Derived.WalkKit
import Derived.WalkLawsBesides
import Derived.Laws.Externs
import Derived.Laws.FloatArith
import Derived.Lib.Hide
import Derived.Below
import Derived.BigRegion
import Derived.BigQuiet
namespace Go.Proofs.Ytkagijlbmojbcaa.fl
open Go.RowKit

theorem run_bits (a : Nat) (w : World) : (callFunc 31 #[.float .f64 a]).run Try.prog w = .ok (.value (.int .u64 a)) w := by
  rw [run_callFunc_extern (e := Extern.MathFloatBits.float64bits) Try.func31 (by kernel_rfl) (by kernel_rfl) (by kernel_rfl) (by kernel_rfl)]
  rfl
theorem run_frombits (n : Int) (w : World) : (callFunc 30 #[.int .u64 n]).run Try.prog w = .ok (.value (.float .f64 n.toNat)) w := by
  rw [run_callFunc_extern (e := Extern.MathFloatBits.float64frombits) Try.func30 (by kernel_rfl) (by kernel_rfl) (by kernel_rfl) (by kernel_rfl)]
  rfl

def fabs (a : Nat) : Nat := (bits .andNot .u64 (a : Int) 9223372036854775808).toNat
def nanB (a : Nat) : Bool := FloatKind.f64.format.order a a != some .eq
def infB (a : Nat) : Bool := FloatKind.f64.format.order (fabs a) 9218868437227405311 == some .gt
def finB (a : Nat) : Bool := !(nanB a) && !(infB a)

theorem abs_any (a : Nat) (w : World) : Calls Try.prog 18 #[.float .f64 a] w fun e w' => e = .returned (.float .f64 (fabs a)) ∧ w = w' := by
  have h1 := run_bits a
  have h2 := run_frombits
  unfold fabs
  go_enter Try.func18, Try.ntmps18
  go_wp2
  go_ret
  exact ⟨rfl, rfl⟩
theorem nan_any (a : Nat) (w : World) : Calls Try.prog 33 #[.float .f64 a] w fun e w' => e = .returned (.bool (nanB a)) ∧ w = w' := by
  unfold nanB
  go_enter Try.func33, Try.ntmps33
  go_wp2
  go_ret
  exact ⟨rfl, rfl⟩
theorem inf_any (a : Nat) (w : World) : Calls Try.prog 34 #[.float .f64 a, .int .i64 0] w fun e w' => e = .returned (.bool (infB a)) ∧ w = w' := by
  unfold infB
  go_enter Try.func34, Try.ntmps34
  go_wp2_with (go_at_call 18; refine (abs_any _ _).mono ?_; rintro e w' ⟨rfl, rfl⟩)
  go_ret
  exact ⟨rfl, rfl⟩
theorem finite_any (a : Nat) (w : World) : Calls Try.prog 20 #[.float .f64 a] w fun e w' => e = .returned (.bool (finB a)) ∧ w = w' := by
  obtain ⟨n, hn⟩ : ∃ n, nanB a = n := ⟨_, rfl⟩
  obtain ⟨i, hi⟩ : ∃ n, infB a = n := ⟨_, rfl⟩
  have hf : finB a = (!n && !i) := by rw [← hn, ← hi]; rfl
  rw [hf]
  have c1 := nan_any a
  have c2 := inf_any a
  rw [hn] at c1
  rw [hi] at c2
  have C1 := Lib.hid c1
  have C2 := Lib.hid c2
  clear c1 c2 hn hi hf
  cases n
  · go_enter Try.func20, Try.ntmps20
    go_wp2_with (first | (go_at_call 33; refine (C1.out _).mono ?_; rintro e w' ⟨rfl, rfl⟩) | (go_at_call 34; refine (C2.out _).mono ?_; rintro e w' ⟨rfl, rfl⟩))
    go_ret
    exact ⟨rfl, rfl⟩
  · go_enter Try.func20, Try.ntmps20
    go_wp2_with (first | (go_at_call 33; refine (C1.out _).mono ?_; rintro e w' ⟨rfl, rfl⟩) | (go_at_call 34; refine (C2.out _).mono ?_; rintro e w' ⟨rfl, rfl⟩))
    go_ret
    exact ⟨rfl, rfl⟩

set_option maxHeartbeats 400000 in
theorem finite1_any (x : Nat) (b : Nat) (w : World) (h0 : w.cell? ⟨b, 0, none⟩ = some (.float .f64 x)) :
    Calls Try.prog 9 #[.slice (some ⟨b, 0, none⟩) 1 1] w fun e w' => e = .returned (.bool (finB x)) ∧ w = w' := by
  have c1 := finite_any x
  obtain ⟨p, hp⟩ : ∃ n, finB x = n := ⟨_, rfl⟩
  rw [hp] at c1
  rw [hp]
  have C1 := Lib.hid c1
  clear c1 hp
  go_enter Try.func9, Try.ntmps9
  go_wp2
  refine wp_loop_rounds 2 ?_
  rw [rounds_succ]
  cases p
  · go_wp2_with ((go_at_call 20; refine (C1.out _).mono ?_; rintro e w' ⟨rfl, rfl⟩))
    go_ret
    exact ⟨rfl, rfl⟩
  · go_wp2_with ((go_at_call 20; refine (C1.out _).mono ?_; rintro e w' ⟨rfl, rfl⟩))
    rw [rounds_succ]
    go_wp2_with fail
    go_ret
    exact ⟨rfl, rfl⟩
set_option maxHeartbeats 400000 in
theorem finite2_any (x y : Nat) (b : Nat) (w : World) (h0 : w.cell? ⟨b, 0, none⟩ = some (.float .f64 x)) (h1 : w.cell? ⟨b, 1, none⟩ = some (.float .f64 y)) :
    Calls Try.prog 9 #[.slice (some ⟨b, 0, none⟩) 2 2] w fun e w' => e = .returned (.bool (finB x && finB y)) ∧ w = w' := by
  have c1 := finite_any x
  have c2 := finite_any y
  obtain ⟨p, hp⟩ : ∃ n, finB x = n := ⟨_, rfl⟩
  obtain ⟨q, hq⟩ : ∃ n, finB y = n := ⟨_, rfl⟩
  rw [hp] at c1
  rw [hq] at c2
  rw [hp, hq]
  have C1 := Lib.hid c1
  have C2 := Lib.hid c2
  clear c1 c2 hp hq
  go_enter Try.func9, Try.ntmps9
  go_wp2
  refine wp_loop_rounds 3 ?_
  rw [rounds_succ]
  go_wp2_with fail
  refine (C1.out _).mono ?_
  rintro e w' ⟨rfl, rfl⟩
  cases p
  · go_wp2_with fail
    go_ret
    exact ⟨rfl, rfl⟩
  · go_wp2_with fail
    rw [rounds_succ]
    go_wp2_with fail
    refine (C2.out _).mono ?_
    rintro e w' ⟨rfl, rfl⟩
    cases q
    · go_wp2_with fail
      go_ret
      exact ⟨rfl, rfl⟩
    · go_wp2_with fail
      rw [rounds_succ]
      go_wp2_with fail
      go_ret
      exact ⟨rfl, rfl⟩
end Go.Proofs.Ytkagijlbmojbcaa.fl

/- strconv.FormatInt at base 16, of numbers with five digits: five bytes that are digits or small letters. -/
import Derived.Test.YtjnlgefcpmppmaaDoorRows
import Derived.WalkKit
import Derived.WalkLawsBesides
import Derived.WalkSpells
import Derived.Lib.Hide
import Derived.Below
import Derived.Laws.BitsLemmas
namespace Go.Proofs.YtjnlgefcpmppmaaDoor.clean
open Go.RowKit
theorem block_lt {w : World} {a : Addr} {v : Value} (h : w.cell? a = some v) : a.block < w.heap.size := by
  unfold World.cell? at h
  by_cases hlt : a.block < w.heap.size
  · exact hlt
  · rw [Array.getElem?_eq_none (by omega)] at h
    cases h
theorem pow16 (w : World) : Calls Tryd.prog 69 #[.int .i64 16] w fun e w' => e = .returned (.bool true) ∧ w = w' := by
  have hb : ((bits BinOp.and IntKind.i64 16 15) == 0) = true := by kernel_rfl
  go_enter Tryd.func69, Tryd.ntmps69
  go_wp2
  go_ret
  exact ⟨rfl, rfl⟩
theorem tz64 (w : World) (h : w.cell? ⟨7, 15, none⟩ = some (.int .u8 4)) : Calls Tryd.prog 77 #[.int .u64 16] w fun e w' => e = .returned (.int .i64 4) ∧ w = w' := by
  have hv : IntKind.u64.wrap (bits BinOp.and IntKind.u64 16 (IntKind.u64.wrap (-16)) * 285870213051353865) / 288230376151711744 = 15 := by kernel_rfl
  go_enter Tryd.func77, Tryd.ntmps77
  go_wp2
  go_ret
  exact ⟨rfl, rfl⟩
theorem tz (w : World) (h : w.cell? ⟨7, 15, none⟩ = some (.int .u8 4)) : Calls Tryd.prog 70 #[.int .u64 16] w fun e w' => e = .returned (.int .i64 4) ∧ w = w' := by
  go_enter Tryd.func70, Tryd.ntmps70
  go_wp2_with (go_at_call 77; refine (tz64 _ h).mono ?_; rintro e w' ⟨rfl, rfl⟩)
  go_ret
  exact ⟨rfl, rfl⟩
theorem and15 (x : Int) (h0 : 0 ≤ x) (h1 : x < 2 ^ 63) : bits .and .u64 x 15 = x % 16 :=
  bits_mask .u64 63 (by decide) (fun n h0 h1 => by simp [IntKind.wrap, IntKind.bits, IntKind.signed]; omega) 4 (by decide) x h0 h1
/-- Five bytes that are digits or small letters. -/
def Five (t : ByteArray) : Prop := ∃ a b c d e : UInt8, t = ⟨#[a, b, c, d, e]⟩ ∧ (48 ≤ a.toNat ∧ a.toNat ≤ 122) ∧ (48 ≤ b.toNat ∧ b.toNat ≤ 122) ∧ (48 ≤ c.toNat ∧ c.toNat ≤ 122) ∧ (48 ≤ d.toNat ∧ d.toNat ≤ 122) ∧ (48 ≤ e.toNat ∧ e.toNat ≤ 122)
theorem key : ∀ (x : Nat) (h : x < 36), 48 ≤ ((⟨#[48, 49, 50, 51, 52, 53, 54, 55, 56, 57, 97, 98, 99, 100, 101, 102, 103, 104, 105, 106, 107, 108, 109, 110, 111, 112, 113, 114, 115, 116, 117, 118, 119, 120, 121, 122]⟩ : ByteArray)[x]'h).toNat ∧ ((⟨#[48, 49, 50, 51, 52, 53, 54, 55, 56, 57, 97, 98, 99, 100, 101, 102, 103, 104, 105, 106, 107, 108, 109, 110, 111, 112, 113, 114, 115, 116, 117, 118, 119, 120, 121, 122]⟩ : ByteArray)[x]'h).toNat ≤ 122 := by decide +kernel
theorem conv5 (w : World) (b : Nat) (d4 d3 d2 d1 d0 : UInt8) (h4 : w.cell? ⟨b, 60, none⟩ = some (.int .u8 d4.toNat)) (h3 : w.cell? ⟨b, 61, none⟩ = some (.int .u8 d3.toNat)) (h2 : w.cell? ⟨b, 62, none⟩ = some (.int .u8 d2.toNat))
    (h1 : w.cell? ⟨b, 63, none⟩ = some (.int .u8 d1.toNat)) (h0 : w.cell? ⟨b, 64, none⟩ = some (.int .u8 d0.toNat)) : Sem.run Tryd.prog (convert 101 9 (.slice (some ⟨b, 60, none⟩) 5 5)) w = .ok (.string ⟨#[d4, d3, d2, d1, d0]⟩) w :=
  run_convert_bytes_back w 101 9 5 ⟨b, 60, none⟩ 5 [d4, d3, d2, d1, d0] Tryd.underlying101 Tryd.underlying5 Tryd.underlying9 (fun j hj => by
    have hj' : j < 5 := hj
    match j, hj' with
    | 0, _ => exact h4
    | 1, _ => exact h3
    | 2, _ => exact h2
    | 3, _ => exact h1
    | 4, _ => exact h0)
set_option maxRecDepth 100000 in
set_option maxHeartbeats 1000000 in
theorem bits16 (u : Int) (w : World) (h : w.cell? ⟨7, 15, none⟩ = some (.int .u8 4)) (h0 : 65536 ≤ u) (h1 : u ≤ 65695) :
    Calls Tryd.prog 57 #[.slice none 0 0, .int .u64 u, .int .i64 16, .bool false, .bool false] w fun e w' => (∃ t : ByteArray, e = .returned (.tuple #[.slice none 0 0, .string t]) ∧ Five t) ∧ Below w.heap.size w w' := by
  have hlt : 7 < w.heap.size := block_lt h
  go_enter Tryd.func57, Tryd.ntmps57
  go_wp2_with fail
  refine (pow16 _).mono ?_
  rintro e w1 ⟨rfl, rfl⟩
  go_wp2_with fail
  refine (tz _ ((World.cell?_alloc_past _ _ _ hlt).trans h)).mono ?_
  rintro e w1 ⟨rfl, rfl⟩
  go_wp2_with fail
  have b0 : bits BinOp.and IntKind.u64 u 15 = u % 16 := and15 u (by omega) (by omega)
  have b1 : bits BinOp.and IntKind.u64 (u / 16) 15 = u / 16 % 16 := and15 _ (by omega) (by omega)
  have b2 : bits BinOp.and IntKind.u64 (u / 16 / 16) 15 = u / 16 / 16 % 16 := and15 _ (by omega) (by omega)
  have b3 : bits BinOp.and IntKind.u64 (u / 16 / 16 / 16) 15 = u / 16 / 16 / 16 % 16 := and15 _ (by omega) (by omega)
  have c0 : 0 ≤ u % 16 ∧ u % 16 < 16 := by omega
  have c1 : 0 ≤ u / 16 % 16 ∧ u / 16 % 16 < 16 := by omega
  have c2 : 0 ≤ u / 16 / 16 % 16 ∧ u / 16 / 16 % 16 < 16 := by omega
  have c3 : 0 ≤ u / 16 / 16 / 16 % 16 ∧ u / 16 / 16 / 16 % 16 < 16 := by omega
  refine wp_loop_rounds 6 ?_
  rw [rounds_succ]
  go_wp2_with fail
  rw [rounds_succ]
  go_wp2_with fail
  rw [rounds_succ]
  go_wp2_with fail
  rw [rounds_succ]
  go_wp2_with fail
  rw [rounds_succ]
  go_wp2_with fail
  have k0 := key (u % 16).toNat (by omega)
  have k1 := key (u / 16 % 16).toNat (by omega)
  have k2 := key (u / 16 / 16 % 16).toNat (by omega)
  have k3 := key (u / 16 / 16 / 16 % 16).toNat (by omega)
  have k4 := key (u / 16 / 16 / 16 / 16).toNat (by omega)
  generalize (⟨#[48, 49, 50, 51, 52, 53, 54, 55, 56, 57, 97, 98, 99, 100, 101, 102, 103, 104, 105, 106, 107, 108, 109, 110, 111, 112, 113, 114, 115, 116, 117, 118, 119, 120, 121, 122]⟩ : ByteArray)[(u % 16).toNat]'(show (u % 16).toNat < 36 by omega) = d0 at k0 ⊢
  generalize (⟨#[48, 49, 50, 51, 52, 53, 54, 55, 56, 57, 97, 98, 99, 100, 101, 102, 103, 104, 105, 106, 107, 108, 109, 110, 111, 112, 113, 114, 115, 116, 117, 118, 119, 120, 121, 122]⟩ : ByteArray)[(u / 16 % 16).toNat]'(show (u / 16 % 16).toNat < 36 by omega) = d1 at k1 ⊢
  generalize (⟨#[48, 49, 50, 51, 52, 53, 54, 55, 56, 57, 97, 98, 99, 100, 101, 102, 103, 104, 105, 106, 107, 108, 109, 110, 111, 112, 113, 114, 115, 116, 117, 118, 119, 120, 121, 122]⟩ : ByteArray)[(u / 16 / 16 % 16).toNat]'(show (u / 16 / 16 % 16).toNat < 36 by omega) = d2 at k2 ⊢
  generalize (⟨#[48, 49, 50, 51, 52, 53, 54, 55, 56, 57, 97, 98, 99, 100, 101, 102, 103, 104, 105, 106, 107, 108, 109, 110, 111, 112, 113, 114, 115, 116, 117, 118, 119, 120, 121, 122]⟩ : ByteArray)[(u / 16 / 16 / 16 % 16).toNat]'(show (u / 16 / 16 / 16 % 16).toNat < 36 by omega) = d3 at k3 ⊢
  generalize (⟨#[48, 49, 50, 51, 52, 53, 54, 55, 56, 57, 97, 98, 99, 100, 101, 102, 103, 104, 105, 106, 107, 108, 109, 110, 111, 112, 113, 114, 115, 116, 117, 118, 119, 120, 121, 122]⟩ : ByteArray)[(u / 16 / 16 / 16 / 16).toNat]'(show (u / 16 / 16 / 16 / 16).toNat < 36 by omega) = d4 at k4 ⊢
  rw [conv5 _ w.heap.size d4 d3 d2 d1 d0 (by rw [World.cell?_alloc_new]; simp) (by rw [World.cell?_alloc_new]; simp) (by rw [World.cell?_alloc_new]; simp) (by rw [World.cell?_alloc_new]; simp) (by rw [World.cell?_alloc_new]; simp)]
  go_wp2
  go_ret2
  exact ⟨⟨⟨#[d4, d3, d2, d1, d0]⟩, rfl, d4, d3, d2, d1, d0, rfl, k4, k3, k2, k1, k0⟩, (Below.refl _ _).alloc (Nat.le_refl _) _⟩
set_option maxRecDepth 100000 in
theorem format_in (u : Int) (w : World) (h : w.cell? ⟨7, 15, none⟩ = some (.int .u8 4)) (h0 : 65536 ≤ u) (h1 : u ≤ 65695) :
    Calls Tryd.prog 41 #[.int .i64 u, .int .i64 16] w fun e w' => (∃ t : ByteArray, e = .returned (.string t) ∧ Five t) ∧ Below w.heap.size w w' := by
  have hn : decide (u < 0) = false := by simp; omega
  go_enter Tryd.func41, Tryd.ntmps41
  go_wp2_with fail
  refine (bits16 u _ h h0 h1).mono ?_
  rintro e w1 ⟨⟨t, rfl, ht⟩, hb⟩
  have HT := Lib.hid ht
  have HB := Lib.hid hb
  clear ht hb
  go_wp2_with fail
  go_ret
  exact ⟨⟨t, rfl, HT.out⟩, HB.out⟩
theorem format_any (u : Int) (w : World) (h : w.cell? ⟨7, 15, none⟩ = some (.int .u8 4)) (h0 : 65536 ≤ u) (h1 : u ≤ 65695) :
    Calls Tryd.prog 32 #[.int .i64 u, .int .i64 16] w fun e w' => (∃ t : ByteArray, e = .returned (.string t) ∧ Five t) ∧ Below w.heap.size w w' := by
  go_enter Tryd.func32, Tryd.ntmps32
  go_wp2_with fail
  refine (format_in u _ h h0 h1).mono ?_
  rintro e w1 ⟨⟨t, rfl, ht⟩, hb⟩
  have HT := Lib.hid ht
  have HB := Lib.hid hb
  clear ht hb
  go_wp2_with fail
  go_ret
  exact ⟨⟨t, rfl, HT.out⟩, HB.out⟩
end Go.Proofs.YtjnlgefcpmppmaaDoor.clean

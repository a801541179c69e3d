/- spec.OfUnits by contract: the text of code points. -/
import Derived.Test.YtjnlgefcpmppmaaRows
import Derived.Test.YtjnlgefcpmppmaaUtf
import Derived.WalkKit
import Derived.WalkLawsBesides
import Derived.WalkSpells
import Derived.Lib.Hide
import Derived.Below
import Derived.Lib.AppendStr
import Derived.Laws.BitsLemmas
namespace Go.Proofs.Ytjnlgefcpmppmaa.utf
open Go.RowKit
theorem wraps_i64 (n : Int) (h0 : 0 ≤ n) (h1 : n < 2 ^ 63) : IntKind.i64.wrap n = n := by rw [IntKind.wrap_i64]; omega
theorem and63 (x : Int) (h0 : 0 ≤ x) (h1 : x < 2 ^ 63) : bits .and .i64 x 63 = x % 64 := bits_mask .i64 63 (by decide) wraps_i64 6 (by decide) x h0 h1
theorem u8_int (n : Nat) (h : n < 256) : (((UInt8.ofNat n).toNat : Nat) : Int) = (n : Int) := by rw [UInt8.toNat_ofNat']; omega
theorem u8_cell (z : Int) (n : Nat) (h : z = n) (hn : n < 256) : some (Value.int .u8 z) = some (Value.int .u8 ((UInt8.ofNat n).toNat : Int)) := by rw [u8_int n hn, h]
def Enc (r : Nat) (w : World) (e : Ending) (w' : World) : Prop := e = .returned (.string ⟨(encL r).toArray⟩) ∧ Below w.heap.size w w'
set_option maxRecDepth 100000 in
theorem enc1 (r : Nat) (w : World) (h1 : r < 128) : Calls Try.prog 14 #[.int .i64 r] w (Enc r w) := by
  have t0 : decide ((r : Int) < 128) = true := by simp; omega
  have hb : (0 : Int) ≤ r := by omega
  have hb2 : (r : Int) ≤ 1114111 := by omega
  have he : encL r = [UInt8.ofNat (r)] := by rw [encL, if_pos h1]
  have HE := Lib.hid he
  have hcv := run_convert_bytes_back (P := Try.prog) (w.alloc (.cells #[.int .u8 (r)] 5)) 37 9 5 ⟨w.heap.size, 0, none⟩ 1 [UInt8.ofNat (r)] Try.underlying37 Try.underlying5 Try.underlying9 (fun j hj => by
    have hj' : j < 1 := hj
    rw [Addr.add_lit, Nat.zero_add]
    match j, hj' with
    | 0, _ => rw [World.cell?_alloc_new]; exact u8_cell (r) (r) (by omega) (by omega))
  rw [← he] at hcv
  clear he
  have hz : (encL r).length = 1 := by rw [HE.out]; rfl
  rw [hz] at hcv
  clear hz
  go_enter Try.func14, Try.ntmps14
  go_wp2
  go_ret
  exact ⟨rfl, (Below.refl _ _).alloc (Nat.le_refl _) _⟩
set_option maxRecDepth 100000 in
theorem enc2 (r : Nat) (w : World) (h0 : 128 ≤ r) (h1 : r < 2048) : Calls Try.prog 14 #[.int .i64 r] w (Enc r w) := by
  have t0 : decide ((r : Int) < 128) = false := by simp; omega
  have t1 : decide ((r : Int) < 2048) = true := by simp; omega
  have a0 := and63 (r) (by omega) (by omega)
  have hb : (0 : Int) ≤ r := by omega
  have hb2 : (r : Int) ≤ 1114111 := by omega
  have he : encL r = [UInt8.ofNat (192 + r / 64), UInt8.ofNat (128 + r % 64)] := by rw [encL, if_neg (by omega), if_pos h1]
  have HE := Lib.hid he
  have hcv := run_convert_bytes_back (P := Try.prog) (w.alloc (.cells #[.int .u8 (192 + r / 64), .int .u8 (128 + r % 64)] 5)) 37 9 5 ⟨w.heap.size, 0, none⟩ 2 [UInt8.ofNat (192 + r / 64), UInt8.ofNat (128 + r % 64)] Try.underlying37 Try.underlying5 Try.underlying9 (fun j hj => by
    have hj' : j < 2 := hj
    rw [Addr.add_lit, Nat.zero_add]
    match j, hj' with
    | 0, _ => rw [World.cell?_alloc_new]; exact u8_cell (192 + r / 64) (192 + r / 64) (by omega) (by omega)
    | 1, _ => rw [World.cell?_alloc_new]; exact u8_cell (128 + r % 64) (128 + r % 64) (by omega) (by omega))
  rw [← he] at hcv
  clear he
  have hz : (encL r).length = 2 := by rw [HE.out]; rfl
  rw [hz] at hcv
  clear hz
  go_enter Try.func14, Try.ntmps14
  go_wp2
  go_ret
  exact ⟨rfl, (Below.refl _ _).alloc (Nat.le_refl _) _⟩
set_option maxRecDepth 100000 in
theorem enc3 (r : Nat) (w : World) (h0 : 2048 ≤ r) (h1 : r < 65536) : Calls Try.prog 14 #[.int .i64 r] w (Enc r w) := by
  have t0 : decide ((r : Int) < 128) = false := by simp; omega
  have t1 : decide ((r : Int) < 2048) = false := by simp; omega
  have t2 : decide ((r : Int) < 65536) = true := by simp; omega
  have a0 := and63 (r) (by omega) (by omega)
  have a1 := and63 ((r : Int) / 64) (by omega) (by omega)
  have hb : (0 : Int) ≤ r := by omega
  have hb2 : (r : Int) ≤ 1114111 := by omega
  have he : encL r = [UInt8.ofNat (224 + r / 4096), UInt8.ofNat (128 + r / 64 % 64), UInt8.ofNat (128 + r % 64)] := by rw [encL, if_neg (by omega), if_neg (by omega), if_pos h1]
  have HE := Lib.hid he
  have hcv := run_convert_bytes_back (P := Try.prog) (w.alloc (.cells #[.int .u8 (224 + r / 4096), .int .u8 (128 + r / 64 % 64), .int .u8 (128 + r % 64)] 5)) 37 9 5 ⟨w.heap.size, 0, none⟩ 3 [UInt8.ofNat (224 + r / 4096), UInt8.ofNat (128 + r / 64 % 64), UInt8.ofNat (128 + r % 64)] Try.underlying37 Try.underlying5 Try.underlying9 (fun j hj => by
    have hj' : j < 3 := hj
    rw [Addr.add_lit, Nat.zero_add]
    match j, hj' with
    | 0, _ => rw [World.cell?_alloc_new]; exact u8_cell (224 + r / 4096) (224 + r / 4096) (by omega) (by omega)
    | 1, _ => rw [World.cell?_alloc_new]; exact u8_cell (128 + r / 64 % 64) (128 + r / 64 % 64) (by omega) (by omega)
    | 2, _ => rw [World.cell?_alloc_new]; exact u8_cell (128 + r % 64) (128 + r % 64) (by omega) (by omega))
  rw [← he] at hcv
  clear he
  have hz : (encL r).length = 3 := by rw [HE.out]; rfl
  rw [hz] at hcv
  clear hz
  go_enter Try.func14, Try.ntmps14
  go_wp2
  go_ret
  exact ⟨rfl, (Below.refl _ _).alloc (Nat.le_refl _) _⟩
set_option maxRecDepth 100000 in
theorem enc4 (r : Nat) (w : World) (h0 : 65536 ≤ r) (h1 : r ≤ 1114111) : Calls Try.prog 14 #[.int .i64 r] w (Enc r w) := by
  have t0 : decide ((r : Int) < 128) = false := by simp; omega
  have t1 : decide ((r : Int) < 2048) = false := by simp; omega
  have t2 : decide ((r : Int) < 65536) = false := by simp; omega
  have a0 := and63 (r) (by omega) (by omega)
  have a1 := and63 ((r : Int) / 64) (by omega) (by omega)
  have a2 := and63 ((r : Int) / 4096) (by omega) (by omega)
  have hb : (0 : Int) ≤ r := by omega
  have hb2 : (r : Int) ≤ 1114111 := by omega
  have he : encL r = [UInt8.ofNat (240 + r / 262144), UInt8.ofNat (128 + r / 4096 % 64), UInt8.ofNat (128 + r / 64 % 64), UInt8.ofNat (128 + r % 64)] := by rw [encL, if_neg (by omega), if_neg (by omega), if_neg (by omega)]
  have HE := Lib.hid he
  have hcv := run_convert_bytes_back (P := Try.prog) (w.alloc (.cells #[.int .u8 (240 + r / 262144), .int .u8 (128 + r / 4096 % 64), .int .u8 (128 + r / 64 % 64), .int .u8 (128 + r % 64)] 5)) 37 9 5 ⟨w.heap.size, 0, none⟩ 4 [UInt8.ofNat (240 + r / 262144), UInt8.ofNat (128 + r / 4096 % 64), UInt8.ofNat (128 + r / 64 % 64), UInt8.ofNat (128 + r % 64)] Try.underlying37 Try.underlying5 Try.underlying9 (fun j hj => by
    have hj' : j < 4 := hj
    rw [Addr.add_lit, Nat.zero_add]
    match j, hj' with
    | 0, _ => rw [World.cell?_alloc_new]; exact u8_cell (240 + r / 262144) (240 + r / 262144) (by omega) (by omega)
    | 1, _ => rw [World.cell?_alloc_new]; exact u8_cell (128 + r / 4096 % 64) (128 + r / 4096 % 64) (by omega) (by omega)
    | 2, _ => rw [World.cell?_alloc_new]; exact u8_cell (128 + r / 64 % 64) (128 + r / 64 % 64) (by omega) (by omega)
    | 3, _ => rw [World.cell?_alloc_new]; exact u8_cell (128 + r % 64) (128 + r % 64) (by omega) (by omega))
  rw [← he] at hcv
  clear he
  have hz : (encL r).length = 4 := by rw [HE.out]; rfl
  rw [hz] at hcv
  clear hz
  go_enter Try.func14, Try.ntmps14
  go_wp2
  go_ret
  exact ⟨rfl, (Below.refl _ _).alloc (Nat.le_refl _) _⟩
theorem enc_any (r : Nat) (w : World) (h : Scalar r) : Calls Try.prog 14 #[.int .i64 r] w (Enc r w) := by
  unfold Scalar at h
  by_cases h1 : r < 128
  · exact enc1 r w h1
  by_cases h2 : r < 2048
  · exact enc2 r w (by omega) h2
  by_cases h3 : r < 65536
  · exact enc3 r w (by omega) h3
  · exact enc4 r w (by omega) (by omega)
end Go.Proofs.Ytjnlgefcpmppmaa.utf

/- spec.point by contract: one walk for each way through it. -/
import Derived.Test.YtjnlgefcpmppmaaRows
import Derived.Test.YtjnlgefcpmppmaaUtf
import Derived.WalkKit
import Derived.WalkLawsBesides
import Derived.WalkSpells
import Derived.Lib.Hide
namespace Go.Proofs.Ytjnlgefcpmppmaa.utf
open Go.RowKit
set_option linter.unusedVariables false

theorem index_run (s : ByteArray) (j : Nat) (hj : j < s.size) (w : World) : (Instr.index 9 (.string s) (.int .i64 (j : Int))).run Try.prog w = .ok (.int .u8 (byteAt s j)) w := by
  rw [run_index_string (P := Try.prog) w 9 s .i64 (j : Int) Try.underlying9, dif_pos ⟨by omega, by omega⟩]
  have e : s.get! j = s[j] := by
    cases s with
    | mk d =>
      have hd : j < d.size := hj
      show d[j]! = d[j]
      rw [getElem!_pos d j hd]
  simp [byteAt, e]

theorem ret2i {a b c d : Int} (h1 : a = c) (h2 : b = d) : Ending.returned (.tuple #[.int .i64 a, .int .i64 b]) = .returned (.tuple #[.int .i64 c, .int .i64 d]) := by rw [h1, h2]

/-- The post, hidden from the walk. -/
def Pt2 (r n : Nat) (w : World) (e : Ending) (w' : World) : Prop := e = .returned (.tuple #[.int .i64 r, .int .i64 n]) ∧ w = w'

set_option maxRecDepth 100000 in
theorem point_a (s : ByteArray) (i n : Nat) (w : World) (hi : i + n = s.size) (hp : 0 < n) (hs : s.size ≤ 9223372036854775807) (b0 b1 b2 b3 : Nat) (hb0 : byteAt s i = b0) (hb1 : byteAt s (i + 1) = b1) (hb2 : byteAt s (i + 2) = b2) (hb3 : byteAt s (i + 3) = b3) (l0 : b0 < 256) (l1 : b1 < 256) (l2 : b2 < 256) (l3 : b3 < 256) (q0 : b0 < 128) :
    Calls Try.prog 23 #[.string s, .int .i64 i] w (Pt2 b0 1 w) := by
  have h0 := index_run s i (by omega)
  rw [hb0] at h0
  have hz1 : i + n ≤ s.size := by omega
  have hz2 : s.size ≤ i + n := by omega
  clear hb0 hb1 hb2 hb3 hi
  clear l1
  clear l2
  clear l3
  go_enter Try.func23, Try.ntmps23
  go_wp2
  go_ret2
  refine ⟨?_, rfl⟩
  first
    | rfl
    | exact ret2i (by omega) rfl

set_option maxRecDepth 100000 in
theorem point_b (s : ByteArray) (i n : Nat) (w : World) (hi : i + n = s.size) (hp : 0 < n) (hs : s.size ≤ 9223372036854775807) (b0 b1 b2 b3 : Nat) (hb0 : byteAt s i = b0) (hb1 : byteAt s (i + 1) = b1) (hb2 : byteAt s (i + 2) = b2) (hb3 : byteAt s (i + 3) = b3) (l0 : b0 < 256) (l1 : b1 < 256) (l2 : b2 < 256) (l3 : b3 < 256) (q0 : 128 ≤ b0) (q1 : b0 < 192) :
    Calls Try.prog 23 #[.string s, .int .i64 i] w (Pt2 0 0 w) := by
  have h0 := index_run s i (by omega)
  rw [hb0] at h0
  have hz1 : i + n ≤ s.size := by omega
  have hz2 : s.size ≤ i + n := by omega
  clear hb0 hb1 hb2 hb3 hi
  clear l1
  clear l2
  clear l3
  go_enter Try.func23, Try.ntmps23
  go_wp2
  go_ret2
  refine ⟨?_, rfl⟩
  first
    | rfl
    | exact ret2i (by omega) rfl

set_option maxRecDepth 100000 in
theorem point_c (s : ByteArray) (i n : Nat) (w : World) (hi : i + n = s.size) (hp : 0 < n) (hs : s.size ≤ 9223372036854775807) (b0 b1 b2 b3 : Nat) (hb0 : byteAt s i = b0) (hb1 : byteAt s (i + 1) = b1) (hb2 : byteAt s (i + 2) = b2) (hb3 : byteAt s (i + 3) = b3) (l0 : b0 < 256) (l1 : b1 < 256) (l2 : b2 < 256) (l3 : b3 < 256) (q0 : 248 ≤ b0) :
    Calls Try.prog 23 #[.string s, .int .i64 i] w (Pt2 0 0 w) := by
  have h0 := index_run s i (by omega)
  rw [hb0] at h0
  have hz1 : i + n ≤ s.size := by omega
  have hz2 : s.size ≤ i + n := by omega
  clear hb0 hb1 hb2 hb3 hi
  clear l1
  clear l2
  clear l3
  go_enter Try.func23, Try.ntmps23
  go_wp2
  go_ret2
  refine ⟨?_, rfl⟩
  first
    | rfl
    | exact ret2i (by omega) rfl

set_option maxRecDepth 100000 in
theorem point_dn (s : ByteArray) (i n : Nat) (w : World) (hi : i + n = s.size) (hp : 0 < n) (hs : s.size ≤ 9223372036854775807) (b0 b1 b2 b3 : Nat) (hb0 : byteAt s i = b0) (hb1 : byteAt s (i + 1) = b1) (hb2 : byteAt s (i + 2) = b2) (hb3 : byteAt s (i + 3) = b3) (l0 : b0 < 256) (l1 : b1 < 256) (l2 : b2 < 256) (l3 : b3 < 256) (q0 : 192 ≤ b0) (q1 : b0 < 224) (q2 : n < 2) :
    Calls Try.prog 23 #[.string s, .int .i64 i] w (Pt2 0 0 w) := by
  have h0 := index_run s i (by omega)
  rw [hb0] at h0
  have hz1 : i + n ≤ s.size := by omega
  have hz2 : s.size ≤ i + n := by omega
  clear hb0 hb1 hb2 hb3 hi
  clear l1
  clear l2
  clear l3
  go_enter Try.func23, Try.ntmps23
  go_wp2
  go_ret2
  refine ⟨?_, rfl⟩
  first
    | rfl
    | exact ret2i (by omega) rfl

set_option maxRecDepth 100000 in
theorem point_dl1 (s : ByteArray) (i n : Nat) (w : World) (hi : i + n = s.size) (hp : 0 < n) (hs : s.size ≤ 9223372036854775807) (b0 b1 b2 b3 : Nat) (hb0 : byteAt s i = b0) (hb1 : byteAt s (i + 1) = b1) (hb2 : byteAt s (i + 2) = b2) (hb3 : byteAt s (i + 3) = b3) (l0 : b0 < 256) (l1 : b1 < 256) (l2 : b2 < 256) (l3 : b3 < 256) (q0 : 192 ≤ b0) (q1 : b0 < 224) (q2 : 2 ≤ n) (q3 : b1 < 128) :
    Calls Try.prog 23 #[.string s, .int .i64 i] w (Pt2 0 0 w) := by
  have h0 := index_run s i (by omega)
  rw [hb0] at h0
  have h1 := index_run s (i + 1) (by omega)
  rw [hb1, show ((i + 1 : Nat) : Int) = (i : Int) + 1 from rfl] at h1
  have hz1 : i + n ≤ s.size := by omega
  have hz2 : s.size ≤ i + n := by omega
  clear hb0 hb1 hb2 hb3 hi
  clear l2
  clear l3
  go_enter Try.func23, Try.ntmps23
  go_wp2
  refine wp_loop_rounds 4 ?_
  rw [rounds_succ]
  go_wp2
  go_ret2
  refine ⟨?_, rfl⟩
  first
    | rfl
    | exact ret2i (by omega) rfl

set_option maxRecDepth 100000 in
theorem point_dh1 (s : ByteArray) (i n : Nat) (w : World) (hi : i + n = s.size) (hp : 0 < n) (hs : s.size ≤ 9223372036854775807) (b0 b1 b2 b3 : Nat) (hb0 : byteAt s i = b0) (hb1 : byteAt s (i + 1) = b1) (hb2 : byteAt s (i + 2) = b2) (hb3 : byteAt s (i + 3) = b3) (l0 : b0 < 256) (l1 : b1 < 256) (l2 : b2 < 256) (l3 : b3 < 256) (q0 : 192 ≤ b0) (q1 : b0 < 224) (q2 : 2 ≤ n) (q3 : 192 ≤ b1) :
    Calls Try.prog 23 #[.string s, .int .i64 i] w (Pt2 0 0 w) := by
  have h0 := index_run s i (by omega)
  rw [hb0] at h0
  have h1 := index_run s (i + 1) (by omega)
  rw [hb1, show ((i + 1 : Nat) : Int) = (i : Int) + 1 from rfl] at h1
  have hz1 : i + n ≤ s.size := by omega
  have hz2 : s.size ≤ i + n := by omega
  clear hb0 hb1 hb2 hb3 hi
  clear l2
  clear l3
  go_enter Try.func23, Try.ntmps23
  go_wp2
  refine wp_loop_rounds 4 ?_
  rw [rounds_succ]
  go_wp2
  go_ret2
  refine ⟨?_, rfl⟩
  first
    | rfl
    | exact ret2i (by omega) rfl

set_option maxRecDepth 100000 in
theorem point_ds (s : ByteArray) (i n : Nat) (w : World) (hi : i + n = s.size) (hp : 0 < n) (hs : s.size ≤ 9223372036854775807) (b0 b1 b2 b3 : Nat) (hb0 : byteAt s i = b0) (hb1 : byteAt s (i + 1) = b1) (hb2 : byteAt s (i + 2) = b2) (hb3 : byteAt s (i + 3) = b3) (l0 : b0 < 256) (l1 : b1 < 256) (l2 : b2 < 256) (l3 : b3 < 256) (q0 : 192 ≤ b0) (q1 : b0 < 224) (q2 : 2 ≤ n) (q3 : 128 ≤ b1) (q4 : b1 < 192) (q5 : ((b0 - 192) * 64 + b1 - 128) < 128) :
    Calls Try.prog 23 #[.string s, .int .i64 i] w (Pt2 0 0 w) := by
  have h0 := index_run s i (by omega)
  rw [hb0] at h0
  have h1 := index_run s (i + 1) (by omega)
  rw [hb1, show ((i + 1 : Nat) : Int) = (i : Int) + 1 from rfl] at h1
  have hz1 : i + n ≤ s.size := by omega
  have hz2 : s.size ≤ i + n := by omega
  clear hb0 hb1 hb2 hb3 hi
  clear l2
  clear l3
  go_enter Try.func23, Try.ntmps23
  go_wp2
  refine wp_loop_rounds 4 ?_
  rw [rounds_succ]
  go_wp2
  rw [rounds_succ]
  go_wp2
  go_ret2
  refine ⟨?_, rfl⟩
  first
    | rfl
    | exact ret2i (by omega) rfl

set_option maxRecDepth 100000 in
theorem point_dok (s : ByteArray) (i n : Nat) (w : World) (hi : i + n = s.size) (hp : 0 < n) (hs : s.size ≤ 9223372036854775807) (b0 b1 b2 b3 : Nat) (hb0 : byteAt s i = b0) (hb1 : byteAt s (i + 1) = b1) (hb2 : byteAt s (i + 2) = b2) (hb3 : byteAt s (i + 3) = b3) (l0 : b0 < 256) (l1 : b1 < 256) (l2 : b2 < 256) (l3 : b3 < 256) (q0 : 192 ≤ b0) (q1 : b0 < 224) (q2 : 2 ≤ n) (q3 : 128 ≤ b1) (q4 : b1 < 192) (q5 : 128 ≤ ((b0 - 192) * 64 + b1 - 128)) :
    Calls Try.prog 23 #[.string s, .int .i64 i] w (Pt2 ((b0 - 192) * 64 + b1 - 128) 2 w) := by
  have h0 := index_run s i (by omega)
  rw [hb0] at h0
  have h1 := index_run s (i + 1) (by omega)
  rw [hb1, show ((i + 1 : Nat) : Int) = (i : Int) + 1 from rfl] at h1
  have hz1 : i + n ≤ s.size := by omega
  have hz2 : s.size ≤ i + n := by omega
  clear hb0 hb1 hb2 hb3 hi
  clear l2
  clear l3
  go_enter Try.func23, Try.ntmps23
  go_wp2
  refine wp_loop_rounds 4 ?_
  rw [rounds_succ]
  go_wp2
  rw [rounds_succ]
  go_wp2
  go_ret2
  refine ⟨?_, rfl⟩
  first
    | rfl
    | exact ret2i (by omega) rfl

set_option maxRecDepth 100000 in
theorem point_en (s : ByteArray) (i n : Nat) (w : World) (hi : i + n = s.size) (hp : 0 < n) (hs : s.size ≤ 9223372036854775807) (b0 b1 b2 b3 : Nat) (hb0 : byteAt s i = b0) (hb1 : byteAt s (i + 1) = b1) (hb2 : byteAt s (i + 2) = b2) (hb3 : byteAt s (i + 3) = b3) (l0 : b0 < 256) (l1 : b1 < 256) (l2 : b2 < 256) (l3 : b3 < 256) (q0 : 224 ≤ b0) (q1 : b0 < 240) (q2 : n < 3) :
    Calls Try.prog 23 #[.string s, .int .i64 i] w (Pt2 0 0 w) := by
  have h0 := index_run s i (by omega)
  rw [hb0] at h0
  have hz1 : i + n ≤ s.size := by omega
  have hz2 : s.size ≤ i + n := by omega
  clear hb0 hb1 hb2 hb3 hi
  clear l1
  clear l2
  clear l3
  go_enter Try.func23, Try.ntmps23
  go_wp2
  go_ret2
  refine ⟨?_, rfl⟩
  first
    | rfl
    | exact ret2i (by omega) rfl

set_option maxRecDepth 100000 in
theorem point_el1 (s : ByteArray) (i n : Nat) (w : World) (hi : i + n = s.size) (hp : 0 < n) (hs : s.size ≤ 9223372036854775807) (b0 b1 b2 b3 : Nat) (hb0 : byteAt s i = b0) (hb1 : byteAt s (i + 1) = b1) (hb2 : byteAt s (i + 2) = b2) (hb3 : byteAt s (i + 3) = b3) (l0 : b0 < 256) (l1 : b1 < 256) (l2 : b2 < 256) (l3 : b3 < 256) (q0 : 224 ≤ b0) (q1 : b0 < 240) (q2 : 3 ≤ n) (q3 : b1 < 128) :
    Calls Try.prog 23 #[.string s, .int .i64 i] w (Pt2 0 0 w) := by
  have h0 := index_run s i (by omega)
  rw [hb0] at h0
  have h1 := index_run s (i + 1) (by omega)
  rw [hb1, show ((i + 1 : Nat) : Int) = (i : Int) + 1 from rfl] at h1
  have hz1 : i + n ≤ s.size := by omega
  have hz2 : s.size ≤ i + n := by omega
  clear hb0 hb1 hb2 hb3 hi
  clear l2
  clear l3
  go_enter Try.func23, Try.ntmps23
  go_wp2
  refine wp_loop_rounds 4 ?_
  rw [rounds_succ]
  go_wp2
  go_ret2
  refine ⟨?_, rfl⟩
  first
    | rfl
    | exact ret2i (by omega) rfl

set_option maxRecDepth 100000 in
theorem point_eh1 (s : ByteArray) (i n : Nat) (w : World) (hi : i + n = s.size) (hp : 0 < n) (hs : s.size ≤ 9223372036854775807) (b0 b1 b2 b3 : Nat) (hb0 : byteAt s i = b0) (hb1 : byteAt s (i + 1) = b1) (hb2 : byteAt s (i + 2) = b2) (hb3 : byteAt s (i + 3) = b3) (l0 : b0 < 256) (l1 : b1 < 256) (l2 : b2 < 256) (l3 : b3 < 256) (q0 : 224 ≤ b0) (q1 : b0 < 240) (q2 : 3 ≤ n) (q3 : 192 ≤ b1) :
    Calls Try.prog 23 #[.string s, .int .i64 i] w (Pt2 0 0 w) := by
  have h0 := index_run s i (by omega)
  rw [hb0] at h0
  have h1 := index_run s (i + 1) (by omega)
  rw [hb1, show ((i + 1 : Nat) : Int) = (i : Int) + 1 from rfl] at h1
  have hz1 : i + n ≤ s.size := by omega
  have hz2 : s.size ≤ i + n := by omega
  clear hb0 hb1 hb2 hb3 hi
  clear l2
  clear l3
  go_enter Try.func23, Try.ntmps23
  go_wp2
  refine wp_loop_rounds 4 ?_
  rw [rounds_succ]
  go_wp2
  go_ret2
  refine ⟨?_, rfl⟩
  first
    | rfl
    | exact ret2i (by omega) rfl

set_option maxRecDepth 100000 in
theorem point_el2 (s : ByteArray) (i n : Nat) (w : World) (hi : i + n = s.size) (hp : 0 < n) (hs : s.size ≤ 9223372036854775807) (b0 b1 b2 b3 : Nat) (hb0 : byteAt s i = b0) (hb1 : byteAt s (i + 1) = b1) (hb2 : byteAt s (i + 2) = b2) (hb3 : byteAt s (i + 3) = b3) (l0 : b0 < 256) (l1 : b1 < 256) (l2 : b2 < 256) (l3 : b3 < 256) (q0 : 224 ≤ b0) (q1 : b0 < 240) (q2 : 3 ≤ n) (q3 : 128 ≤ b1) (q4 : b1 < 192) (q5 : b2 < 128) :
    Calls Try.prog 23 #[.string s, .int .i64 i] w (Pt2 0 0 w) := by
  have h0 := index_run s i (by omega)
  rw [hb0] at h0
  have h1 := index_run s (i + 1) (by omega)
  rw [hb1, show ((i + 1 : Nat) : Int) = (i : Int) + 1 from rfl] at h1
  have h2 := index_run s (i + 2) (by omega)
  rw [hb2, show ((i + 2 : Nat) : Int) = (i : Int) + 2 from rfl] at h2
  have hz1 : i + n ≤ s.size := by omega
  have hz2 : s.size ≤ i + n := by omega
  clear hb0 hb1 hb2 hb3 hi
  clear l3
  go_enter Try.func23, Try.ntmps23
  go_wp2
  refine wp_loop_rounds 4 ?_
  rw [rounds_succ]
  go_wp2
  rw [rounds_succ]
  go_wp2
  go_ret2
  refine ⟨?_, rfl⟩
  first
    | rfl
    | exact ret2i (by omega) rfl

set_option maxRecDepth 100000 in
theorem point_eh2 (s : ByteArray) (i n : Nat) (w : World) (hi : i + n = s.size) (hp : 0 < n) (hs : s.size ≤ 9223372036854775807) (b0 b1 b2 b3 : Nat) (hb0 : byteAt s i = b0) (hb1 : byteAt s (i + 1) = b1) (hb2 : byteAt s (i + 2) = b2) (hb3 : byteAt s (i + 3) = b3) (l0 : b0 < 256) (l1 : b1 < 256) (l2 : b2 < 256) (l3 : b3 < 256) (q0 : 224 ≤ b0) (q1 : b0 < 240) (q2 : 3 ≤ n) (q3 : 128 ≤ b1) (q4 : b1 < 192) (q5 : 192 ≤ b2) :
    Calls Try.prog 23 #[.string s, .int .i64 i] w (Pt2 0 0 w) := by
  have h0 := index_run s i (by omega)
  rw [hb0] at h0
  have h1 := index_run s (i + 1) (by omega)
  rw [hb1, show ((i + 1 : Nat) : Int) = (i : Int) + 1 from rfl] at h1
  have h2 := index_run s (i + 2) (by omega)
  rw [hb2, show ((i + 2 : Nat) : Int) = (i : Int) + 2 from rfl] at h2
  have hz1 : i + n ≤ s.size := by omega
  have hz2 : s.size ≤ i + n := by omega
  clear hb0 hb1 hb2 hb3 hi
  clear l3
  go_enter Try.func23, Try.ntmps23
  go_wp2
  refine wp_loop_rounds 4 ?_
  rw [rounds_succ]
  go_wp2
  rw [rounds_succ]
  go_wp2
  go_ret2
  refine ⟨?_, rfl⟩
  first
    | rfl
    | exact ret2i (by omega) rfl

set_option maxRecDepth 100000 in
theorem point_es (s : ByteArray) (i n : Nat) (w : World) (hi : i + n = s.size) (hp : 0 < n) (hs : s.size ≤ 9223372036854775807) (b0 b1 b2 b3 : Nat) (hb0 : byteAt s i = b0) (hb1 : byteAt s (i + 1) = b1) (hb2 : byteAt s (i + 2) = b2) (hb3 : byteAt s (i + 3) = b3) (l0 : b0 < 256) (l1 : b1 < 256) (l2 : b2 < 256) (l3 : b3 < 256) (q0 : 224 ≤ b0) (q1 : b0 < 240) (q2 : 3 ≤ n) (q3 : 128 ≤ b1) (q4 : b1 < 192) (q5 : 128 ≤ b2) (q6 : b2 < 192) (q7 : (((b0 - 224) * 64 + b1 - 128) * 64 + b2 - 128) < 2048) :
    Calls Try.prog 23 #[.string s, .int .i64 i] w (Pt2 0 0 w) := by
  have h0 := index_run s i (by omega)
  rw [hb0] at h0
  have h1 := index_run s (i + 1) (by omega)
  rw [hb1, show ((i + 1 : Nat) : Int) = (i : Int) + 1 from rfl] at h1
  have h2 := index_run s (i + 2) (by omega)
  rw [hb2, show ((i + 2 : Nat) : Int) = (i : Int) + 2 from rfl] at h2
  have hz1 : i + n ≤ s.size := by omega
  have hz2 : s.size ≤ i + n := by omega
  clear hb0 hb1 hb2 hb3 hi
  clear l3
  go_enter Try.func23, Try.ntmps23
  go_wp2
  refine wp_loop_rounds 4 ?_
  rw [rounds_succ]
  go_wp2
  rw [rounds_succ]
  go_wp2
  rw [rounds_succ]
  go_wp2
  go_ret2
  refine ⟨?_, rfl⟩
  first
    | rfl
    | exact ret2i (by omega) rfl

set_option maxRecDepth 100000 in
theorem point_et (s : ByteArray) (i n : Nat) (w : World) (hi : i + n = s.size) (hp : 0 < n) (hs : s.size ≤ 9223372036854775807) (b0 b1 b2 b3 : Nat) (hb0 : byteAt s i = b0) (hb1 : byteAt s (i + 1) = b1) (hb2 : byteAt s (i + 2) = b2) (hb3 : byteAt s (i + 3) = b3) (l0 : b0 < 256) (l1 : b1 < 256) (l2 : b2 < 256) (l3 : b3 < 256) (q0 : 224 ≤ b0) (q1 : b0 < 240) (q2 : 3 ≤ n) (q3 : 128 ≤ b1) (q4 : b1 < 192) (q5 : 128 ≤ b2) (q6 : b2 < 192) (q7 : 55296 ≤ (((b0 - 224) * 64 + b1 - 128) * 64 + b2 - 128)) (q8 : (((b0 - 224) * 64 + b1 - 128) * 64 + b2 - 128) < 57344) :
    Calls Try.prog 23 #[.string s, .int .i64 i] w (Pt2 0 0 w) := by
  have h0 := index_run s i (by omega)
  rw [hb0] at h0
  have h1 := index_run s (i + 1) (by omega)
  rw [hb1, show ((i + 1 : Nat) : Int) = (i : Int) + 1 from rfl] at h1
  have h2 := index_run s (i + 2) (by omega)
  rw [hb2, show ((i + 2 : Nat) : Int) = (i : Int) + 2 from rfl] at h2
  have hz1 : i + n ≤ s.size := by omega
  have hz2 : s.size ≤ i + n := by omega
  clear hb0 hb1 hb2 hb3 hi
  clear l3
  go_enter Try.func23, Try.ntmps23
  go_wp2
  refine wp_loop_rounds 4 ?_
  rw [rounds_succ]
  go_wp2
  rw [rounds_succ]
  go_wp2
  rw [rounds_succ]
  go_wp2
  go_ret2
  refine ⟨?_, rfl⟩
  first
    | rfl
    | exact ret2i (by omega) rfl

set_option maxRecDepth 100000 in
theorem point_eok1 (s : ByteArray) (i n : Nat) (w : World) (hi : i + n = s.size) (hp : 0 < n) (hs : s.size ≤ 9223372036854775807) (b0 b1 b2 b3 : Nat) (hb0 : byteAt s i = b0) (hb1 : byteAt s (i + 1) = b1) (hb2 : byteAt s (i + 2) = b2) (hb3 : byteAt s (i + 3) = b3) (l0 : b0 < 256) (l1 : b1 < 256) (l2 : b2 < 256) (l3 : b3 < 256) (q0 : 224 ≤ b0) (q1 : b0 < 240) (q2 : 3 ≤ n) (q3 : 128 ≤ b1) (q4 : b1 < 192) (q5 : 128 ≤ b2) (q6 : b2 < 192) (q7 : 2048 ≤ (((b0 - 224) * 64 + b1 - 128) * 64 + b2 - 128)) (q8 : (((b0 - 224) * 64 + b1 - 128) * 64 + b2 - 128) < 55296) :
    Calls Try.prog 23 #[.string s, .int .i64 i] w (Pt2 (((b0 - 224) * 64 + b1 - 128) * 64 + b2 - 128) 3 w) := by
  have h0 := index_run s i (by omega)
  rw [hb0] at h0
  have h1 := index_run s (i + 1) (by omega)
  rw [hb1, show ((i + 1 : Nat) : Int) = (i : Int) + 1 from rfl] at h1
  have h2 := index_run s (i + 2) (by omega)
  rw [hb2, show ((i + 2 : Nat) : Int) = (i : Int) + 2 from rfl] at h2
  have hz1 : i + n ≤ s.size := by omega
  have hz2 : s.size ≤ i + n := by omega
  clear hb0 hb1 hb2 hb3 hi
  clear l3
  go_enter Try.func23, Try.ntmps23
  go_wp2
  refine wp_loop_rounds 4 ?_
  rw [rounds_succ]
  go_wp2
  rw [rounds_succ]
  go_wp2
  rw [rounds_succ]
  go_wp2
  go_ret2
  refine ⟨?_, rfl⟩
  first
    | rfl
    | exact ret2i (by omega) rfl

set_option maxRecDepth 100000 in
theorem point_eok2 (s : ByteArray) (i n : Nat) (w : World) (hi : i + n = s.size) (hp : 0 < n) (hs : s.size ≤ 9223372036854775807) (b0 b1 b2 b3 : Nat) (hb0 : byteAt s i = b0) (hb1 : byteAt s (i + 1) = b1) (hb2 : byteAt s (i + 2) = b2) (hb3 : byteAt s (i + 3) = b3) (l0 : b0 < 256) (l1 : b1 < 256) (l2 : b2 < 256) (l3 : b3 < 256) (q0 : 224 ≤ b0) (q1 : b0 < 240) (q2 : 3 ≤ n) (q3 : 128 ≤ b1) (q4 : b1 < 192) (q5 : 128 ≤ b2) (q6 : b2 < 192) (q7 : 57344 ≤ (((b0 - 224) * 64 + b1 - 128) * 64 + b2 - 128)) :
    Calls Try.prog 23 #[.string s, .int .i64 i] w (Pt2 (((b0 - 224) * 64 + b1 - 128) * 64 + b2 - 128) 3 w) := by
  have h0 := index_run s i (by omega)
  rw [hb0] at h0
  have h1 := index_run s (i + 1) (by omega)
  rw [hb1, show ((i + 1 : Nat) : Int) = (i : Int) + 1 from rfl] at h1
  have h2 := index_run s (i + 2) (by omega)
  rw [hb2, show ((i + 2 : Nat) : Int) = (i : Int) + 2 from rfl] at h2
  have hz1 : i + n ≤ s.size := by omega
  have hz2 : s.size ≤ i + n := by omega
  clear hb0 hb1 hb2 hb3 hi
  clear l3
  go_enter Try.func23, Try.ntmps23
  go_wp2
  refine wp_loop_rounds 4 ?_
  rw [rounds_succ]
  go_wp2
  rw [rounds_succ]
  go_wp2
  rw [rounds_succ]
  go_wp2
  go_ret2
  refine ⟨?_, rfl⟩
  first
    | rfl
    | exact ret2i (by omega) rfl

set_option maxRecDepth 100000 in
theorem point_fn (s : ByteArray) (i n : Nat) (w : World) (hi : i + n = s.size) (hp : 0 < n) (hs : s.size ≤ 9223372036854775807) (b0 b1 b2 b3 : Nat) (hb0 : byteAt s i = b0) (hb1 : byteAt s (i + 1) = b1) (hb2 : byteAt s (i + 2) = b2) (hb3 : byteAt s (i + 3) = b3) (l0 : b0 < 256) (l1 : b1 < 256) (l2 : b2 < 256) (l3 : b3 < 256) (q0 : 240 ≤ b0) (q1 : b0 < 248) (q2 : n < 4) :
    Calls Try.prog 23 #[.string s, .int .i64 i] w (Pt2 0 0 w) := by
  have h0 := index_run s i (by omega)
  rw [hb0] at h0
  have hz1 : i + n ≤ s.size := by omega
  have hz2 : s.size ≤ i + n := by omega
  clear hb0 hb1 hb2 hb3 hi
  clear l1
  clear l2
  clear l3
  go_enter Try.func23, Try.ntmps23
  go_wp2
  go_ret2
  refine ⟨?_, rfl⟩
  first
    | rfl
    | exact ret2i (by omega) rfl

set_option maxRecDepth 100000 in
theorem point_fl1 (s : ByteArray) (i n : Nat) (w : World) (hi : i + n = s.size) (hp : 0 < n) (hs : s.size ≤ 9223372036854775807) (b0 b1 b2 b3 : Nat) (hb0 : byteAt s i = b0) (hb1 : byteAt s (i + 1) = b1) (hb2 : byteAt s (i + 2) = b2) (hb3 : byteAt s (i + 3) = b3) (l0 : b0 < 256) (l1 : b1 < 256) (l2 : b2 < 256) (l3 : b3 < 256) (q0 : 240 ≤ b0) (q1 : b0 < 248) (q2 : 4 ≤ n) (q3 : b1 < 128) :
    Calls Try.prog 23 #[.string s, .int .i64 i] w (Pt2 0 0 w) := by
  have h0 := index_run s i (by omega)
  rw [hb0] at h0
  have h1 := index_run s (i + 1) (by omega)
  rw [hb1, show ((i + 1 : Nat) : Int) = (i : Int) + 1 from rfl] at h1
  have hz1 : i + n ≤ s.size := by omega
  have hz2 : s.size ≤ i + n := by omega
  clear hb0 hb1 hb2 hb3 hi
  clear l2
  clear l3
  go_enter Try.func23, Try.ntmps23
  go_wp2
  refine wp_loop_rounds 4 ?_
  rw [rounds_succ]
  go_wp2
  go_ret2
  refine ⟨?_, rfl⟩
  first
    | rfl
    | exact ret2i (by omega) rfl

set_option maxRecDepth 100000 in
theorem point_fh1 (s : ByteArray) (i n : Nat) (w : World) (hi : i + n = s.size) (hp : 0 < n) (hs : s.size ≤ 9223372036854775807) (b0 b1 b2 b3 : Nat) (hb0 : byteAt s i = b0) (hb1 : byteAt s (i + 1) = b1) (hb2 : byteAt s (i + 2) = b2) (hb3 : byteAt s (i + 3) = b3) (l0 : b0 < 256) (l1 : b1 < 256) (l2 : b2 < 256) (l3 : b3 < 256) (q0 : 240 ≤ b0) (q1 : b0 < 248) (q2 : 4 ≤ n) (q3 : 192 ≤ b1) :
    Calls Try.prog 23 #[.string s, .int .i64 i] w (Pt2 0 0 w) := by
  have h0 := index_run s i (by omega)
  rw [hb0] at h0
  have h1 := index_run s (i + 1) (by omega)
  rw [hb1, show ((i + 1 : Nat) : Int) = (i : Int) + 1 from rfl] at h1
  have hz1 : i + n ≤ s.size := by omega
  have hz2 : s.size ≤ i + n := by omega
  clear hb0 hb1 hb2 hb3 hi
  clear l2
  clear l3
  go_enter Try.func23, Try.ntmps23
  go_wp2
  refine wp_loop_rounds 4 ?_
  rw [rounds_succ]
  go_wp2
  go_ret2
  refine ⟨?_, rfl⟩
  first
    | rfl
    | exact ret2i (by omega) rfl

set_option maxRecDepth 100000 in
theorem point_fl2 (s : ByteArray) (i n : Nat) (w : World) (hi : i + n = s.size) (hp : 0 < n) (hs : s.size ≤ 9223372036854775807) (b0 b1 b2 b3 : Nat) (hb0 : byteAt s i = b0) (hb1 : byteAt s (i + 1) = b1) (hb2 : byteAt s (i + 2) = b2) (hb3 : byteAt s (i + 3) = b3) (l0 : b0 < 256) (l1 : b1 < 256) (l2 : b2 < 256) (l3 : b3 < 256) (q0 : 240 ≤ b0) (q1 : b0 < 248) (q2 : 4 ≤ n) (q3 : 128 ≤ b1) (q4 : b1 < 192) (q5 : b2 < 128) :
    Calls Try.prog 23 #[.string s, .int .i64 i] w (Pt2 0 0 w) := by
  have h0 := index_run s i (by omega)
  rw [hb0] at h0
  have h1 := index_run s (i + 1) (by omega)
  rw [hb1, show ((i + 1 : Nat) : Int) = (i : Int) + 1 from rfl] at h1
  have h2 := index_run s (i + 2) (by omega)
  rw [hb2, show ((i + 2 : Nat) : Int) = (i : Int) + 2 from rfl] at h2
  have hz1 : i + n ≤ s.size := by omega
  have hz2 : s.size ≤ i + n := by omega
  clear hb0 hb1 hb2 hb3 hi
  clear l3
  go_enter Try.func23, Try.ntmps23
  go_wp2
  refine wp_loop_rounds 4 ?_
  rw [rounds_succ]
  go_wp2
  rw [rounds_succ]
  go_wp2
  go_ret2
  refine ⟨?_, rfl⟩
  first
    | rfl
    | exact ret2i (by omega) rfl

set_option maxRecDepth 100000 in
theorem point_fh2 (s : ByteArray) (i n : Nat) (w : World) (hi : i + n = s.size) (hp : 0 < n) (hs : s.size ≤ 9223372036854775807) (b0 b1 b2 b3 : Nat) (hb0 : byteAt s i = b0) (hb1 : byteAt s (i + 1) = b1) (hb2 : byteAt s (i + 2) = b2) (hb3 : byteAt s (i + 3) = b3) (l0 : b0 < 256) (l1 : b1 < 256) (l2 : b2 < 256) (l3 : b3 < 256) (q0 : 240 ≤ b0) (q1 : b0 < 248) (q2 : 4 ≤ n) (q3 : 128 ≤ b1) (q4 : b1 < 192) (q5 : 192 ≤ b2) :
    Calls Try.prog 23 #[.string s, .int .i64 i] w (Pt2 0 0 w) := by
  have h0 := index_run s i (by omega)
  rw [hb0] at h0
  have h1 := index_run s (i + 1) (by omega)
  rw [hb1, show ((i + 1 : Nat) : Int) = (i : Int) + 1 from rfl] at h1
  have h2 := index_run s (i + 2) (by omega)
  rw [hb2, show ((i + 2 : Nat) : Int) = (i : Int) + 2 from rfl] at h2
  have hz1 : i + n ≤ s.size := by omega
  have hz2 : s.size ≤ i + n := by omega
  clear hb0 hb1 hb2 hb3 hi
  clear l3
  go_enter Try.func23, Try.ntmps23
  go_wp2
  refine wp_loop_rounds 4 ?_
  rw [rounds_succ]
  go_wp2
  rw [rounds_succ]
  go_wp2
  go_ret2
  refine ⟨?_, rfl⟩
  first
    | rfl
    | exact ret2i (by omega) rfl

set_option maxRecDepth 100000 in
theorem point_fl3 (s : ByteArray) (i n : Nat) (w : World) (hi : i + n = s.size) (hp : 0 < n) (hs : s.size ≤ 9223372036854775807) (b0 b1 b2 b3 : Nat) (hb0 : byteAt s i = b0) (hb1 : byteAt s (i + 1) = b1) (hb2 : byteAt s (i + 2) = b2) (hb3 : byteAt s (i + 3) = b3) (l0 : b0 < 256) (l1 : b1 < 256) (l2 : b2 < 256) (l3 : b3 < 256) (q0 : 240 ≤ b0) (q1 : b0 < 248) (q2 : 4 ≤ n) (q3 : 128 ≤ b1) (q4 : b1 < 192) (q5 : 128 ≤ b2) (q6 : b2 < 192) (q7 : b3 < 128) :
    Calls Try.prog 23 #[.string s, .int .i64 i] w (Pt2 0 0 w) := by
  have h0 := index_run s i (by omega)
  rw [hb0] at h0
  have h1 := index_run s (i + 1) (by omega)
  rw [hb1, show ((i + 1 : Nat) : Int) = (i : Int) + 1 from rfl] at h1
  have h2 := index_run s (i + 2) (by omega)
  rw [hb2, show ((i + 2 : Nat) : Int) = (i : Int) + 2 from rfl] at h2
  have h3 := index_run s (i + 3) (by omega)
  rw [hb3, show ((i + 3 : Nat) : Int) = (i : Int) + 3 from rfl] at h3
  have hz1 : i + n ≤ s.size := by omega
  have hz2 : s.size ≤ i + n := by omega
  clear hb0 hb1 hb2 hb3 hi
  go_enter Try.func23, Try.ntmps23
  go_wp2
  refine wp_loop_rounds 4 ?_
  rw [rounds_succ]
  go_wp2
  rw [rounds_succ]
  go_wp2
  rw [rounds_succ]
  go_wp2
  go_ret2
  refine ⟨?_, rfl⟩
  first
    | rfl
    | exact ret2i (by omega) rfl

set_option maxRecDepth 100000 in
theorem point_fh3 (s : ByteArray) (i n : Nat) (w : World) (hi : i + n = s.size) (hp : 0 < n) (hs : s.size ≤ 9223372036854775807) (b0 b1 b2 b3 : Nat) (hb0 : byteAt s i = b0) (hb1 : byteAt s (i + 1) = b1) (hb2 : byteAt s (i + 2) = b2) (hb3 : byteAt s (i + 3) = b3) (l0 : b0 < 256) (l1 : b1 < 256) (l2 : b2 < 256) (l3 : b3 < 256) (q0 : 240 ≤ b0) (q1 : b0 < 248) (q2 : 4 ≤ n) (q3 : 128 ≤ b1) (q4 : b1 < 192) (q5 : 128 ≤ b2) (q6 : b2 < 192) (q7 : 192 ≤ b3) :
    Calls Try.prog 23 #[.string s, .int .i64 i] w (Pt2 0 0 w) := by
  have h0 := index_run s i (by omega)
  rw [hb0] at h0
  have h1 := index_run s (i + 1) (by omega)
  rw [hb1, show ((i + 1 : Nat) : Int) = (i : Int) + 1 from rfl] at h1
  have h2 := index_run s (i + 2) (by omega)
  rw [hb2, show ((i + 2 : Nat) : Int) = (i : Int) + 2 from rfl] at h2
  have h3 := index_run s (i + 3) (by omega)
  rw [hb3, show ((i + 3 : Nat) : Int) = (i : Int) + 3 from rfl] at h3
  have hz1 : i + n ≤ s.size := by omega
  have hz2 : s.size ≤ i + n := by omega
  clear hb0 hb1 hb2 hb3 hi
  go_enter Try.func23, Try.ntmps23
  go_wp2
  refine wp_loop_rounds 4 ?_
  rw [rounds_succ]
  go_wp2
  rw [rounds_succ]
  go_wp2
  rw [rounds_succ]
  go_wp2
  go_ret2
  refine ⟨?_, rfl⟩
  first
    | rfl
    | exact ret2i (by omega) rfl

set_option maxRecDepth 100000 in
theorem point_fs (s : ByteArray) (i n : Nat) (w : World) (hi : i + n = s.size) (hp : 0 < n) (hs : s.size ≤ 9223372036854775807) (b0 b1 b2 b3 : Nat) (hb0 : byteAt s i = b0) (hb1 : byteAt s (i + 1) = b1) (hb2 : byteAt s (i + 2) = b2) (hb3 : byteAt s (i + 3) = b3) (l0 : b0 < 256) (l1 : b1 < 256) (l2 : b2 < 256) (l3 : b3 < 256) (q0 : 240 ≤ b0) (q1 : b0 < 248) (q2 : 4 ≤ n) (q3 : 128 ≤ b1) (q4 : b1 < 192) (q5 : 128 ≤ b2) (q6 : b2 < 192) (q7 : 128 ≤ b3) (q8 : b3 < 192) (q9 : ((((b0 - 240) * 64 + b1 - 128) * 64 + b2 - 128) * 64 + b3 - 128) < 65536) :
    Calls Try.prog 23 #[.string s, .int .i64 i] w (Pt2 0 0 w) := by
  have h0 := index_run s i (by omega)
  rw [hb0] at h0
  have h1 := index_run s (i + 1) (by omega)
  rw [hb1, show ((i + 1 : Nat) : Int) = (i : Int) + 1 from rfl] at h1
  have h2 := index_run s (i + 2) (by omega)
  rw [hb2, show ((i + 2 : Nat) : Int) = (i : Int) + 2 from rfl] at h2
  have h3 := index_run s (i + 3) (by omega)
  rw [hb3, show ((i + 3 : Nat) : Int) = (i : Int) + 3 from rfl] at h3
  have hz1 : i + n ≤ s.size := by omega
  have hz2 : s.size ≤ i + n := by omega
  clear hb0 hb1 hb2 hb3 hi
  go_enter Try.func23, Try.ntmps23
  go_wp2
  refine wp_loop_rounds 4 ?_
  rw [rounds_succ]
  go_wp2
  rw [rounds_succ]
  go_wp2
  rw [rounds_succ]
  go_wp2
  rw [rounds_succ]
  go_wp2
  go_ret2
  refine ⟨?_, rfl⟩
  first
    | rfl
    | exact ret2i (by omega) rfl

set_option maxRecDepth 100000 in
theorem point_ft (s : ByteArray) (i n : Nat) (w : World) (hi : i + n = s.size) (hp : 0 < n) (hs : s.size ≤ 9223372036854775807) (b0 b1 b2 b3 : Nat) (hb0 : byteAt s i = b0) (hb1 : byteAt s (i + 1) = b1) (hb2 : byteAt s (i + 2) = b2) (hb3 : byteAt s (i + 3) = b3) (l0 : b0 < 256) (l1 : b1 < 256) (l2 : b2 < 256) (l3 : b3 < 256) (q0 : 240 ≤ b0) (q1 : b0 < 248) (q2 : 4 ≤ n) (q3 : 128 ≤ b1) (q4 : b1 < 192) (q5 : 128 ≤ b2) (q6 : b2 < 192) (q7 : 128 ≤ b3) (q8 : b3 < 192) (q9 : 1114111 < ((((b0 - 240) * 64 + b1 - 128) * 64 + b2 - 128) * 64 + b3 - 128)) :
    Calls Try.prog 23 #[.string s, .int .i64 i] w (Pt2 0 0 w) := by
  have h0 := index_run s i (by omega)
  rw [hb0] at h0
  have h1 := index_run s (i + 1) (by omega)
  rw [hb1, show ((i + 1 : Nat) : Int) = (i : Int) + 1 from rfl] at h1
  have h2 := index_run s (i + 2) (by omega)
  rw [hb2, show ((i + 2 : Nat) : Int) = (i : Int) + 2 from rfl] at h2
  have h3 := index_run s (i + 3) (by omega)
  rw [hb3, show ((i + 3 : Nat) : Int) = (i : Int) + 3 from rfl] at h3
  have hz1 : i + n ≤ s.size := by omega
  have hz2 : s.size ≤ i + n := by omega
  clear hb0 hb1 hb2 hb3 hi
  go_enter Try.func23, Try.ntmps23
  go_wp2
  refine wp_loop_rounds 4 ?_
  rw [rounds_succ]
  go_wp2
  rw [rounds_succ]
  go_wp2
  rw [rounds_succ]
  go_wp2
  rw [rounds_succ]
  go_wp2
  go_ret2
  refine ⟨?_, rfl⟩
  first
    | rfl
    | exact ret2i (by omega) rfl

set_option maxRecDepth 100000 in
theorem point_fok (s : ByteArray) (i n : Nat) (w : World) (hi : i + n = s.size) (hp : 0 < n) (hs : s.size ≤ 9223372036854775807) (b0 b1 b2 b3 : Nat) (hb0 : byteAt s i = b0) (hb1 : byteAt s (i + 1) = b1) (hb2 : byteAt s (i + 2) = b2) (hb3 : byteAt s (i + 3) = b3) (l0 : b0 < 256) (l1 : b1 < 256) (l2 : b2 < 256) (l3 : b3 < 256) (q0 : 240 ≤ b0) (q1 : b0 < 248) (q2 : 4 ≤ n) (q3 : 128 ≤ b1) (q4 : b1 < 192) (q5 : 128 ≤ b2) (q6 : b2 < 192) (q7 : 128 ≤ b3) (q8 : b3 < 192) (q9 : 65536 ≤ ((((b0 - 240) * 64 + b1 - 128) * 64 + b2 - 128) * 64 + b3 - 128)) (q10 : ((((b0 - 240) * 64 + b1 - 128) * 64 + b2 - 128) * 64 + b3 - 128) ≤ 1114111) :
    Calls Try.prog 23 #[.string s, .int .i64 i] w (Pt2 ((((b0 - 240) * 64 + b1 - 128) * 64 + b2 - 128) * 64 + b3 - 128) 4 w) := by
  have h0 := index_run s i (by omega)
  rw [hb0] at h0
  have h1 := index_run s (i + 1) (by omega)
  rw [hb1, show ((i + 1 : Nat) : Int) = (i : Int) + 1 from rfl] at h1
  have h2 := index_run s (i + 2) (by omega)
  rw [hb2, show ((i + 2 : Nat) : Int) = (i : Int) + 2 from rfl] at h2
  have h3 := index_run s (i + 3) (by omega)
  rw [hb3, show ((i + 3 : Nat) : Int) = (i : Int) + 3 from rfl] at h3
  have hz1 : i + n ≤ s.size := by omega
  have hz2 : s.size ≤ i + n := by omega
  clear hb0 hb1 hb2 hb3 hi
  go_enter Try.func23, Try.ntmps23
  go_wp2
  refine wp_loop_rounds 4 ?_
  rw [rounds_succ]
  go_wp2
  rw [rounds_succ]
  go_wp2
  rw [rounds_succ]
  go_wp2
  rw [rounds_succ]
  go_wp2
  go_ret2
  refine ⟨?_, rfl⟩
  first
    | rfl
    | exact ret2i (by omega) rfl

def PtPost (n b0 b1 b2 b3 : Nat) (w : World) (e : Ending) (w' : World) : Prop := e = .returned (.tuple #[.int .i64 (ptN n b0 b1 b2 b3).1, .int .i64 (ptN n b0 b1 b2 b3).2]) ∧ w = w'
theorem post_of {r m n b0 b1 b2 b3 : Nat} {w : World} (h : ptN n b0 b1 b2 b3 = (r, m)) : ∀ e w', Pt2 r m w e w' → PtPost n b0 b1 b2 b3 w e w' := by
  rintro e w' ⟨rfl, hw⟩
  exact ⟨by rw [h], hw⟩

theorem point_any (s : ByteArray) (i n : Nat) (w : World) (hi : i + n = s.size) (hp : 0 < n) (hs : s.size ≤ 9223372036854775807) :
    Calls Try.prog 23 #[.string s, .int .i64 i] w (PtPost n (byteAt s i) (byteAt s (i + 1)) (byteAt s (i + 2)) (byteAt s (i + 3)) w) := by
  have l0 := byteAt_lt s i
  have l1 := byteAt_lt s (i + 1)
  have l2 := byteAt_lt s (i + 2)
  have l3 := byteAt_lt s (i + 3)
  generalize hb0 : byteAt s i = b0 at l0 ⊢
  generalize hb1 : byteAt s (i + 1) = b1 at l1 ⊢
  generalize hb2 : byteAt s (i + 2) = b2 at l2 ⊢
  generalize hb3 : byteAt s (i + 3) = b3 at l3 ⊢
  by_cases c0 : b0 < 128
  · exact (point_a s i n w hi hp hs b0 b1 b2 b3 hb0 hb1 hb2 hb3 l0 l1 l2 l3 (by omega)).mono (post_of (by unfold ptN; rw [if_pos (by omega)]))
  by_cases c1 : b0 < 192
  · exact (point_b s i n w hi hp hs b0 b1 b2 b3 hb0 hb1 hb2 hb3 l0 l1 l2 l3 (by omega) (by omega)).mono (post_of (by unfold ptN; rw [if_neg (by omega)]; rw [if_neg (by omega)]; rw [if_neg (by omega)]; rw [if_neg (by omega)]))
  by_cases cd : b0 < 224
  · by_cases cn : n < 2
    · exact (point_dn s i n w hi hp hs b0 b1 b2 b3 hb0 hb1 hb2 hb3 l0 l1 l2 l3 (by omega) (by omega) (by omega)).mono (post_of (by unfold ptN; rw [if_neg (by omega)]; rw [if_neg (by omega)]; rw [if_neg (by omega)]; rw [if_neg (by omega)]))
    by_cases cl1 : b1 < 128
    · exact (point_dl1 s i n w hi hp hs b0 b1 b2 b3 hb0 hb1 hb2 hb3 l0 l1 l2 l3 (by omega) (by omega) (by omega) (by omega)).mono (post_of (by unfold ptN; rw [if_neg (by omega)]; rw [if_neg (by omega)]; rw [if_neg (by omega)]; rw [if_neg (by omega)]))
    by_cases ch1 : 192 ≤ b1
    · exact (point_dh1 s i n w hi hp hs b0 b1 b2 b3 hb0 hb1 hb2 hb3 l0 l1 l2 l3 (by omega) (by omega) (by omega) (by omega)).mono (post_of (by unfold ptN; rw [if_neg (by omega)]; rw [if_neg (by omega)]; rw [if_neg (by omega)]; rw [if_neg (by omega)]))
    by_cases cs : ((b0 - 192) * 64 + b1 - 128) < 128
    · exact (point_ds s i n w hi hp hs b0 b1 b2 b3 hb0 hb1 hb2 hb3 l0 l1 l2 l3 (by omega) (by omega) (by omega) (by omega) (by omega) (by omega)).mono (post_of (by unfold ptN; rw [if_neg (by omega)]; rw [if_neg (by omega)]; rw [if_neg (by omega)]; rw [if_neg (by omega)]))
    exact (point_dok s i n w hi hp hs b0 b1 b2 b3 hb0 hb1 hb2 hb3 l0 l1 l2 l3 (by omega) (by omega) (by omega) (by omega) (by omega) (by omega)).mono (post_of (by unfold ptN; rw [if_neg (by omega)]; rw [if_pos (by omega)]))
  by_cases ce : b0 < 240
  · by_cases cn : n < 3
    · exact (point_en s i n w hi hp hs b0 b1 b2 b3 hb0 hb1 hb2 hb3 l0 l1 l2 l3 (by omega) (by omega) (by omega)).mono (post_of (by unfold ptN; rw [if_neg (by omega)]; rw [if_neg (by omega)]; rw [if_neg (by omega)]; rw [if_neg (by omega)]))
    by_cases cl1 : b1 < 128
    · exact (point_el1 s i n w hi hp hs b0 b1 b2 b3 hb0 hb1 hb2 hb3 l0 l1 l2 l3 (by omega) (by omega) (by omega) (by omega)).mono (post_of (by unfold ptN; rw [if_neg (by omega)]; rw [if_neg (by omega)]; rw [if_neg (by omega)]; rw [if_neg (by omega)]))
    by_cases ch1 : 192 ≤ b1
    · exact (point_eh1 s i n w hi hp hs b0 b1 b2 b3 hb0 hb1 hb2 hb3 l0 l1 l2 l3 (by omega) (by omega) (by omega) (by omega)).mono (post_of (by unfold ptN; rw [if_neg (by omega)]; rw [if_neg (by omega)]; rw [if_neg (by omega)]; rw [if_neg (by omega)]))
    by_cases cl2 : b2 < 128
    · exact (point_el2 s i n w hi hp hs b0 b1 b2 b3 hb0 hb1 hb2 hb3 l0 l1 l2 l3 (by omega) (by omega) (by omega) (by omega) (by omega) (by omega)).mono (post_of (by unfold ptN; rw [if_neg (by omega)]; rw [if_neg (by omega)]; rw [if_neg (by omega)]; rw [if_neg (by omega)]))
    by_cases ch2 : 192 ≤ b2
    · exact (point_eh2 s i n w hi hp hs b0 b1 b2 b3 hb0 hb1 hb2 hb3 l0 l1 l2 l3 (by omega) (by omega) (by omega) (by omega) (by omega) (by omega)).mono (post_of (by unfold ptN; rw [if_neg (by omega)]; rw [if_neg (by omega)]; rw [if_neg (by omega)]; rw [if_neg (by omega)]))
    by_cases cs : (((b0 - 224) * 64 + b1 - 128) * 64 + b2 - 128) < 2048
    · exact (point_es s i n w hi hp hs b0 b1 b2 b3 hb0 hb1 hb2 hb3 l0 l1 l2 l3 (by omega) (by omega) (by omega) (by omega) (by omega) (by omega) (by omega) (by omega)).mono (post_of (by unfold ptN; rw [if_neg (by omega)]; rw [if_neg (by omega)]; rw [if_neg (by omega)]; rw [if_neg (by omega)]))
    by_cases ct : (((b0 - 224) * 64 + b1 - 128) * 64 + b2 - 128) < 55296
    · exact (point_eok1 s i n w hi hp hs b0 b1 b2 b3 hb0 hb1 hb2 hb3 l0 l1 l2 l3 (by omega) (by omega) (by omega) (by omega) (by omega) (by omega) (by omega) (by omega) (by omega)).mono (post_of (by unfold ptN; rw [if_neg (by omega)]; rw [if_neg (by omega)]; rw [if_pos (by omega)]))
    by_cases cu : (((b0 - 224) * 64 + b1 - 128) * 64 + b2 - 128) < 57344
    · exact (point_et s i n w hi hp hs b0 b1 b2 b3 hb0 hb1 hb2 hb3 l0 l1 l2 l3 (by omega) (by omega) (by omega) (by omega) (by omega) (by omega) (by omega) (by omega) (by omega)).mono (post_of (by unfold ptN; rw [if_neg (by omega)]; rw [if_neg (by omega)]; rw [if_neg (by omega)]; rw [if_neg (by omega)]))
    exact (point_eok2 s i n w hi hp hs b0 b1 b2 b3 hb0 hb1 hb2 hb3 l0 l1 l2 l3 (by omega) (by omega) (by omega) (by omega) (by omega) (by omega) (by omega) (by omega)).mono (post_of (by unfold ptN; rw [if_neg (by omega)]; rw [if_neg (by omega)]; rw [if_pos (by omega)]))
  by_cases cf : b0 < 248
  · by_cases cn : n < 4
    · exact (point_fn s i n w hi hp hs b0 b1 b2 b3 hb0 hb1 hb2 hb3 l0 l1 l2 l3 (by omega) (by omega) (by omega)).mono (post_of (by unfold ptN; rw [if_neg (by omega)]; rw [if_neg (by omega)]; rw [if_neg (by omega)]; rw [if_neg (by omega)]))
    by_cases cl1 : b1 < 128
    · exact (point_fl1 s i n w hi hp hs b0 b1 b2 b3 hb0 hb1 hb2 hb3 l0 l1 l2 l3 (by omega) (by omega) (by omega) (by omega)).mono (post_of (by unfold ptN; rw [if_neg (by omega)]; rw [if_neg (by omega)]; rw [if_neg (by omega)]; rw [if_neg (by omega)]))
    by_cases ch1 : 192 ≤ b1
    · exact (point_fh1 s i n w hi hp hs b0 b1 b2 b3 hb0 hb1 hb2 hb3 l0 l1 l2 l3 (by omega) (by omega) (by omega) (by omega)).mono (post_of (by unfold ptN; rw [if_neg (by omega)]; rw [if_neg (by omega)]; rw [if_neg (by omega)]; rw [if_neg (by omega)]))
    by_cases cl2 : b2 < 128
    · exact (point_fl2 s i n w hi hp hs b0 b1 b2 b3 hb0 hb1 hb2 hb3 l0 l1 l2 l3 (by omega) (by omega) (by omega) (by omega) (by omega) (by omega)).mono (post_of (by unfold ptN; rw [if_neg (by omega)]; rw [if_neg (by omega)]; rw [if_neg (by omega)]; rw [if_neg (by omega)]))
    by_cases ch2 : 192 ≤ b2
    · exact (point_fh2 s i n w hi hp hs b0 b1 b2 b3 hb0 hb1 hb2 hb3 l0 l1 l2 l3 (by omega) (by omega) (by omega) (by omega) (by omega) (by omega)).mono (post_of (by unfold ptN; rw [if_neg (by omega)]; rw [if_neg (by omega)]; rw [if_neg (by omega)]; rw [if_neg (by omega)]))
    by_cases cl3 : b3 < 128
    · exact (point_fl3 s i n w hi hp hs b0 b1 b2 b3 hb0 hb1 hb2 hb3 l0 l1 l2 l3 (by omega) (by omega) (by omega) (by omega) (by omega) (by omega) (by omega) (by omega)).mono (post_of (by unfold ptN; rw [if_neg (by omega)]; rw [if_neg (by omega)]; rw [if_neg (by omega)]; rw [if_neg (by omega)]))
    by_cases ch3 : 192 ≤ b3
    · exact (point_fh3 s i n w hi hp hs b0 b1 b2 b3 hb0 hb1 hb2 hb3 l0 l1 l2 l3 (by omega) (by omega) (by omega) (by omega) (by omega) (by omega) (by omega) (by omega)).mono (post_of (by unfold ptN; rw [if_neg (by omega)]; rw [if_neg (by omega)]; rw [if_neg (by omega)]; rw [if_neg (by omega)]))
    by_cases cs : ((((b0 - 240) * 64 + b1 - 128) * 64 + b2 - 128) * 64 + b3 - 128) < 65536
    · exact (point_fs s i n w hi hp hs b0 b1 b2 b3 hb0 hb1 hb2 hb3 l0 l1 l2 l3 (by omega) (by omega) (by omega) (by omega) (by omega) (by omega) (by omega) (by omega) (by omega) (by omega)).mono (post_of (by unfold ptN; rw [if_neg (by omega)]; rw [if_neg (by omega)]; rw [if_neg (by omega)]; rw [if_neg (by omega)]))
    by_cases ct : 1114111 < ((((b0 - 240) * 64 + b1 - 128) * 64 + b2 - 128) * 64 + b3 - 128)
    · exact (point_ft s i n w hi hp hs b0 b1 b2 b3 hb0 hb1 hb2 hb3 l0 l1 l2 l3 (by omega) (by omega) (by omega) (by omega) (by omega) (by omega) (by omega) (by omega) (by omega) (by omega)).mono (post_of (by unfold ptN; rw [if_neg (by omega)]; rw [if_neg (by omega)]; rw [if_neg (by omega)]; rw [if_neg (by omega)]))
    exact (point_fok s i n w hi hp hs b0 b1 b2 b3 hb0 hb1 hb2 hb3 l0 l1 l2 l3 (by omega) (by omega) (by omega) (by omega) (by omega) (by omega) (by omega) (by omega) (by omega) (by omega) (by omega)).mono (post_of (by unfold ptN; rw [if_neg (by omega)]; rw [if_neg (by omega)]; rw [if_neg (by omega)]; rw [if_pos (by omega)]))
  exact (point_c s i n w hi hp hs b0 b1 b2 b3 hb0 hb1 hb2 hb3 l0 l1 l2 l3 (by omega)).mono (post_of (by unfold ptN; rw [if_neg (by omega)]; rw [if_neg (by omega)]; rw [if_neg (by omega)]; rw [if_neg (by omega)]))

end Go.Proofs.Ytjnlgefcpmppmaa.utf

/- Fodder as the law looks at it: lists of elements in memory. -/
import Derived.Test.YtfdkgaipakannaaRows
import Derived.WalkKit
import Derived.WalkLawsBesides
import Derived.WalkSpells
import Derived.Lib.Hide
import Derived.Below
import Derived.LoopTactic
import Derived.BigQuiet
import Derived.Lib.QuietBelow
namespace Go.Proofs.Ytfdkgaipakannaa.split
open Go.RowKit
structure El where
  k : Int
  b : Int
  n : Int
  c : List ByteArray
theorem step_after {w W w' : World} (h : Below w.heap.size w W) (hb : Below W.heap.size W w') : Below w.heap.size w w' := h.trans (hb.mono h.size)
/-- A slice of strings. -/
def Strs (W : World) (v : Value) (ss : List ByteArray) : Prop :=
  ∃ (A : Option Addr) (cap : Nat), v = .slice A ss.length cap ∧ ss.length ≤ 9223372036854775807 ∧ ∀ j s, ss[j]? = some s → s.size ≤ 9223372036854775807 ∧ ∃ q o, A = some ⟨q, o, none⟩ ∧ W.cell? ⟨q, o + j, none⟩ = some (.string s)
theorem Strs.later {W W' : World} {v : Value} {ss : List ByteArray} (h : Strs W v ss) (hb : Below W.heap.size W W') : Strs W' v ss := by
  obtain ⟨A, cap, hv, hl, h⟩ := h
  exact ⟨A, cap, hv, hl, fun j s hj => by
    obtain ⟨hs, q, o, ha, hc⟩ := h j s hj
    exact ⟨hs, q, o, ha, cell_later hb hc⟩⟩
/-- Some number, some truth value. -/
def AnyInt (e : Ending) : Prop := ∃ n : Int, e = .returned (.int .i64 n)
def AnyBool (e : Ending) : Prop := ∃ b : Bool, e = .returned (.bool b)
theorem feeds_any (s : ByteArray) (hs : s.size ≤ 9223372036854775807) (w : World) : Calls Try.prog 20 #[.string s] w fun e w' => AnyInt e ∧ w = w' := by
  go_enter Try.func20, Try.ntmps20
  go_wp2
  go_loop [3, 4] (fun q i => ∃ k : Nat, k ≤ s.size ∧ i = .int .i64 k ∧ ∃ z : Int, q = .int .i64 z) (fun _ i => s.size - (intOf i).toNat)
  case atStart => exact ⟨0, Nat.zero_le _, rfl, 0, rfl⟩
  case round =>
    obtain ⟨k, hk, rfl, z, rfl⟩ := hrel
    by_cases hlt : k < s.size
    · go_wp2
      all_goals
        go_round
        case rel => exact ⟨k + 1, by omega, by go_num, _, rfl⟩
        case measure => simp [intOf]; omega
    · go_wp2
      go_ret
      exact ⟨⟨_, rfl⟩, rfl⟩
theorem fits5_any (v : Value) (ss : List ByteArray) (w : World) (h : Strs w v ss) : Calls Try.prog 29 #[v] w fun e w' => AnyBool e ∧ w = w' := by
  obtain ⟨A, cap, rfl, hl, hc⟩ := h
  have HC := Lib.hid hc
  clear hc
  by_cases hbig : ss.length ≤ 2147483647
  · have hnb : decide ((2147483647 : Int) < (ss.length : Int)) = false := decide_eq_false (by omega)
    generalize hn : ss.length = n at hl hbig hnb ⊢
    have HN := Lib.hid hn
    clear hn
    go_enter Try.func29, Try.ntmps29
    go_wp2
    go_loop [4, 10] (fun _ i => ∃ k : Nat, k ≤ n ∧ i = .int .i64 k) (fun _ i => n - (intOf i).toNat)
    case atStart => exact ⟨0, Nat.zero_le _, rfl⟩
    case round =>
      obtain ⟨k, hk, rfl⟩ := hrel
      by_cases hlt : k < n
      · obtain ⟨s, hs⟩ : ∃ s, ss[k]? = some s := ⟨_, List.getElem?_eq_getElem (by have := HN.out; omega)⟩
        obtain ⟨hz, q, o, rfl, hcell⟩ := HC.out k s hs
        have hki : (k : Int) < (n : Int) := by omega
        clear hs
        by_cases h2 : s.size ≤ 2147483647
        · have hnb2 : decide ((2147483647 : Int) < (s.size : Int)) = false := decide_eq_false (by omega)
          go_wp2
          go_round
          case rel => exact ⟨k + 1, by omega, by go_num⟩
          case measure => simp [intOf]; omega
        · have hnb2 : decide ((2147483647 : Int) < (s.size : Int)) = true := decide_eq_true (by omega)
          go_wp2
          go_ret
          exact ⟨⟨_, rfl⟩, rfl⟩
      · have hki : ¬ (k : Int) < (n : Int) := by omega
        go_wp2
        go_ret
        exact ⟨⟨_, rfl⟩, rfl⟩
  · have hnb : decide ((2147483647 : Int) < (ss.length : Int)) = true := decide_eq_true (by omega)
    go_enter Try.func29, Try.ntmps29
    go_wp2
    go_ret
    exact ⟨⟨_, rfl⟩, rfl⟩
/-- The element e at a place: kind, blank lines, indent, comment. -/
def ElAt (W : World) (q p : Nat) (e : El) : Prop :=
  W.cell? ⟨q, p, none⟩ = some (.int .i64 e.k) ∧ W.cell? ⟨q, p + 1, none⟩ = some (.int .i64 e.b) ∧ W.cell? ⟨q, p + 2, none⟩ = some (.int .i64 e.n) ∧ ∃ cv, W.cell? ⟨q, p + 3, none⟩ = some cv ∧ Strs W cv e.c
theorem ElAt.later {W W' : World} {q p : Nat} {e : El} (h : ElAt W q p e) (hb : Below W.heap.size W W') : ElAt W' q p e := by
  obtain ⟨h0, h1, h2, cv, h3, h4⟩ := h
  exact ⟨cell_later hb h0, cell_later hb h1, cell_later hb h2, cv, cell_later hb h3, h4.later hb⟩
/-- A slice of elements. -/
def Els (W : World) (v : Value) (es : List El) : Prop :=
  ∃ (A : Option Addr) (cap : Nat), v = .slice A es.length cap ∧ es.length ≤ 9223372036854775807 ∧ ∀ i e, es[i]? = some e → ∃ q o, A = some ⟨q, o, none⟩ ∧ ElAt W q (o + i * 4) e
theorem Els.later {W W' : World} {v : Value} {es : List El} (h : Els W v es) (hb : Below W.heap.size W W') : Els W' v es := by
  obtain ⟨A, cap, hv, hl, h⟩ := h
  exact ⟨A, cap, hv, hl, fun j s hj => by
    obtain ⟨q, o, ha, hc⟩ := h j s hj
    exact ⟨q, o, ha, hc.later hb⟩⟩
theorem Strs.form {W : World} {v : Value} {ss : List ByteArray} (h : Strs W v ss) : ∃ A cap, v = .slice A ss.length cap := by
  obtain ⟨A, cap, hv, _⟩ := h
  exact ⟨A, cap, hv⟩
theorem fits8_any (k b n : Int) (cv : Value) (ss : List ByteArray) (w : World) (h : Strs w cv ss) : Calls Try.prog 19 #[.agg #[.int .i64 k, .int .i64 b, .int .i64 n, cv]] w fun e w' => AnyBool e ∧ Below w.heap.size w w' := by
  have HF := Lib.hid (fun w' (hb : Below w.heap.size w w') => fits5_any cv ss w' (h.later hb))
  obtain ⟨A, cap, rfl, _, _⟩ := h
  go_enter Try.func19, Try.ntmps19
  go_wp2_with (go_at_call 29; refine (HF.out _ ((Below.refl _ _).alloc (Nat.le_refl _) _)).mono ?_; rintro e w' ⟨⟨b, rfl⟩, rfl⟩; cases b)
  all_goals
    go_ret
    exact ⟨⟨_, rfl⟩, (Below.refl _ _).alloc (Nat.le_refl _) _⟩
set_option maxHeartbeats 1000000 in
theorem fits7_any (v : Value) (es : List El) (w : World) (h : Els w v es) : Calls Try.prog 10 #[v] w fun e w' => AnyBool e ∧ Below w.heap.size w w' := by
  have HE := Lib.hid (fun w' (hb : Below w.heap.size w w') => h.later hb)
  obtain ⟨A, cap, rfl, hl, hc⟩ := h
  have HC := Lib.hid hc
  clear hc
  by_cases hbig : es.length ≤ 2147483647
  · have hnb : decide ((2147483647 : Int) < (es.length : Int)) = false := decide_eq_false (by omega)
    generalize hn : es.length = n at hl hbig hnb HE ⊢
    have HN := Lib.hid hn
    clear hn
    go_enter Try.func10, Try.ntmps10
    go_wp2
    go_loopw [4, 10] (fun _ i wr => ∃ k : Nat, k ≤ n ∧ i = .int .i64 k ∧ Below w.heap.size w wr) (fun _ i _ => n - (intOf i).toNat)
    case atStart => exact ⟨0, Nat.zero_le _, rfl, Below.refl _ _⟩
    case round =>
      obtain ⟨k, hk, rfl, hb⟩ := hrel
      by_cases hlt : k < n
      · obtain ⟨s, hs⟩ : ∃ s, es[k]? = some s := ⟨_, List.getElem?_eq_getElem (by have := HN.out; omega)⟩
        obtain ⟨q, o, rfl, hcell⟩ := HC.out k s hs
        obtain ⟨c0, c1, c2, cv, c3, hst⟩ := hcell.later hb
        obtain ⟨A2, cap2, rfl⟩ := hst.form
        have HST := Lib.hid hst
        have HB := Lib.hid hb
        have hki : (k : Int) < (n : Int) := by omega
        have HF := Lib.hid (fun w' (hb : Below wr.heap.size wr w') => fits8_any s.k s.b s.n _ s.c w' (hst.later hb))
        clear hs hst hb hcell
        go_wp2_with (go_at_call 19; refine (HF.out _ ((Below.refl _ _).alloc (Nat.le_refl _) _)).mono ?_; rintro e w' ⟨⟨b, rfl⟩, hb⟩; have HB2 := Lib.hid hb; clear hb; cases b)
        · go_ret
          exact ⟨⟨_, rfl⟩, step_after (HB.out.alloc HB.out.size _) HB2.out⟩
        · go_roundw
          case rel => exact ⟨k + 1, by omega, by go_num, step_after (HB.out.alloc HB.out.size _) HB2.out⟩
          case measure => simp [intOf]; omega
      · have hki : ¬ (k : Int) < (n : Int) := by omega
        have HB := Lib.hid hb
        clear hb
        go_wp2
        go_ret
        exact ⟨⟨_, rfl⟩, HB.out⟩
  · have hnb : decide ((2147483647 : Int) < (es.length : Int)) = true := decide_eq_true (by omega)
    go_enter Try.func10, Try.ntmps10
    go_wp2
    go_ret
    exact ⟨⟨_, rfl⟩, Below.refl _ _⟩
end Go.Proofs.Ytfdkgaipakannaa.split

/- FnStack: memory, strings, and what a step leaves as it was. -/
import Derived.Test.YtincgkolpicipaaRows
import Derived.WalkKit
import Derived.WalkLawsBesides
import Derived.WalkSpells
import Derived.Lib.Hide
import Derived.Below
import Derived.LoopTactic
import Derived.BigQuiet
import Derived.Lib.QuietBelow
import Derived.Maps.AppendAt
import Derived.Deep.AppendLies
import Derived.Laws.OwnMore
import Derived.OneCell
namespace Go.Proofs.Ytincgkolpicipaa.stack
open Go.RowKit
theorem step_after {w W w' : World} (h : Below w.heap.size w W) (hb : Below W.heap.size W w') : Below w.heap.size w w' := h.trans (hb.mono h.size)
theorem add_off (q o j : Nat) : (⟨q, o, none⟩ : Addr).add j = ⟨q, o + j, none⟩ := by unfold Addr.add; split <;> simp_all
/-- A slice of strings. -/
def Strs (W : World) (v : Value) (ss : List ByteArray) : Prop :=
  ∃ (A : Option Addr) (cap : Nat), v = .slice A ss.length cap ∧ ss.length ≤ 9223372036854775807 ∧ ∀ j s, ss[j]? = some s → s.size ≤ 9223372036854775807 ∧ ∃ q o, A = some ⟨q, o, none⟩ ∧ W.cell? ⟨q, o + j, none⟩ = some (.string s)
theorem Strs.later {W W' : World} {v : Value} {ss : List ByteArray} (h : Strs W v ss) (hb : Below W.heap.size W W') : Strs W' v ss := by
  obtain ⟨A, cap, hv, hl, h⟩ := h
  exact ⟨A, cap, hv, hl, fun j s hj => by
    obtain ⟨hs, q, o, ha, hc⟩ := h j s hj
    exact ⟨hs, q, o, ha, cell_later hb hc⟩⟩
theorem Strs.form {W : World} {v : Value} {ss : List ByteArray} (h : Strs W v ss) : ∃ A cap, v = .slice A ss.length cap := by
  obtain ⟨A, cap, hv, _⟩ := h
  exact ⟨A, cap, hv⟩
/-- Some number, some truth value. -/
def AnyInt (e : Ending) : Prop := ∃ n : Int, e = .returned (.int .i64 n)
def AnyBool (e : Ending) : Prop := ∃ b : Bool, e = .returned (.bool b)
theorem fits5_any (v : Value) (ss : List ByteArray) (w : World) (h : Strs w v ss) : Calls Try.prog 38 #[v] w fun e w' => AnyBool e ∧ w = w' := by
  obtain ⟨A, cap, rfl, hl, hc⟩ := h
  have HC := Lib.hid hc
  clear hc
  by_cases hbig : ss.length ≤ 2147483647
  · have hnb : decide ((2147483647 : Int) < (ss.length : Int)) = false := decide_eq_false (by omega)
    generalize hn : ss.length = n at hl hbig hnb ⊢
    have HN := Lib.hid hn
    clear hn
    go_enter Try.func38, Try.ntmps38
    go_wp2
    go_loop [4, 10] (fun _ i => ∃ k : Nat, k ≤ n ∧ i = .int .i64 k) (fun _ i => n - (intOf i).toNat)
    case atStart => exact ⟨0, Nat.zero_le _, rfl⟩
    case round =>
      obtain ⟨k, hk, rfl⟩ := hrel
      by_cases hlt : k < n
      · obtain ⟨s, hs⟩ : ∃ s, ss[k]? = some s := ⟨_, List.getElem?_eq_getElem (by have := HN.out; omega)⟩
        obtain ⟨hz, q, o, rfl, hcell⟩ := HC.out k s hs
        have hki : (k : Int) < (n : Int) := by omega
        clear hs
        by_cases h2 : s.size ≤ 2147483647
        · have hnb2 : decide ((2147483647 : Int) < (s.size : Int)) = false := decide_eq_false (by omega)
          go_wp2
          go_round
          case rel => exact ⟨k + 1, by omega, by go_num⟩
          case measure => simp [intOf]; omega
        · have hnb2 : decide ((2147483647 : Int) < (s.size : Int)) = true := decide_eq_true (by omega)
          go_wp2
          go_ret
          exact ⟨⟨_, rfl⟩, rfl⟩
      · have hki : ¬ (k : Int) < (n : Int) := by omega
        go_wp2
        go_ret
        exact ⟨⟨_, rfl⟩, rfl⟩
  · have hnb : decide ((2147483647 : Int) < (ss.length : Int)) = true := decide_eq_true (by omega)
    go_enter Try.func38, Try.ntmps38
    go_wp2
    go_ret
    exact ⟨⟨_, rfl⟩, rfl⟩
/-- But for the blocks X the world w' is as w was, with more blocks. -/
structure Chg (X : Nat → Prop) (w w' : World) : Prop where
  os : w'.os = w.os
  tape : w'.tape = w.tape
  output : w'.output = w.output
  size : w.heap.size ≤ w'.heap.size
  block : ∀ k, k < w.heap.size → ¬ X k → w'.heap[k]? = w.heap[k]?
section
variable {X Y : Nat → Prop} {a w w' : World}
theorem Chg.refl (X : Nat → Prop) (w : World) : Chg X w w := ⟨rfl, rfl, rfl, Nat.le_refl _, fun _ _ _ => rfl⟩
theorem Chg.step (h : Chg X a w) (k : Chg Y w w') (hY : ∀ i, i < a.heap.size → Y i → X i) : Chg X a w' :=
  ⟨k.os.trans h.os, k.tape.trans h.tape, k.output.trans h.output, Nat.le_trans h.size k.size, fun i hi hn => (k.block i (Nat.lt_of_lt_of_le hi h.size) (fun hy => hn (hY i hi hy))).trans (h.block i hi hn)⟩
theorem Chg.trans (h : Chg X a w) (k : Chg X w w') : Chg X a w' := h.step k fun _ _ h => h
theorem Chg.weak (h : Chg X a w) (hX : ∀ i, i < a.heap.size → X i → Y i) : Chg Y a w :=
  ⟨h.os, h.tape, h.output, h.size, fun i hi hn => h.block i hi (fun hx => hn (hX i hi hx))⟩
theorem Chg.drew (h : Chg X a w) : Chg X a w.drew := ⟨h.os, h.tape, h.output, h.size, h.block⟩
theorem Chg.alloc (h : Chg X a w) (o : Obj) : Chg X a (w.alloc o) :=
  ⟨h.os, h.tape, h.output, Nat.le_trans h.size (by simp), fun i hi hn => (Below.heap_alloc w o i (Nat.lt_of_lt_of_le hi h.size)).trans (h.block i hi hn)⟩
theorem Chg.below (h : Below w.heap.size w w') : Chg X w w' := ⟨h.os, h.tape, h.output, h.size, fun i hi _ => h.block i hi⟩
theorem Chg.grown (h : Chg X a w) {row : Option Nat} (hg : w.grownBy w' row) (hr : ∀ k, row = some k → k < a.heap.size → X k) : Chg X a w' :=
  ⟨hg.os.trans h.os, hg.tape.trans h.tape, hg.output.trans h.output, Nat.le_trans h.size hg.size, fun i hi hn => (hg.block i (Nat.lt_of_lt_of_le hi h.size) (fun e => hn (hr i e.symm hi))).trans (h.block i hi hn)⟩
theorem Chg.setCell (h : Chg X a w) {p : Addr} (hp : p.block < a.heap.size → X p.block) (u : Value) : Chg X a (w.setCell p u) :=
  ⟨h.os, h.tape, h.output, by simpa using h.size, fun i hi hn => (Below.heap_setCell w p u i (by rintro rfl; exact hn (hp hi))).trans (h.block i hi hn)⟩
theorem Chg.toBelow (h : Chg X a w) {B : Nat} (hB : B ≤ a.heap.size) (hX : ∀ i, X i → B ≤ i) : Below B a w :=
  ⟨h.os, h.tape, h.output, h.size, fun i hi => h.block i (by omega) (fun hx => by have := hX i hx; omega)⟩
theorem Chg.cell (h : Chg X a w) {p : Addr} {v : Value} (hc : a.cell? p = some v) (hn : ¬ X p.block) : w.cell? p = some v := by
  rw [World.cell?_of_block (w := a) (h.block p.block (block_lt_of_cell hc) hn)]; exact hc
theorem Chg.keep (h : Chg X a w) {k : Nat} {o : Obj} (hc : a.heap[k]? = some o) (hn : ¬ X k) : w.heap[k]? = some o :=
  (h.block k (Array.getElem?_eq_some_iff.1 hc).1 hn).trans hc
end
theorem owns_chg {X : Nat → Prop} {W W' : World} {base e size n : Nat} {v : Value} {xs : List Value} (h : W.ownsRow base e size v n xs) (hx : Chg X W W') (hv : ∀ k, v.ownBlock = some k → ¬ X k) : W'.ownsRow base e size v n xs := by
  obtain ⟨h1, h2⟩ := h
  refine ⟨h1, ?_⟩
  rcases h2 with h2 | ⟨g, cap, cur, rfl, hg, hh, r⟩
  · exact .inl h2
  · exact .inr ⟨g, cap, cur, rfl, hg, hx.keep hh (hv g rfl), r⟩
theorem owns_form {W : World} {base e size n : Nat} {v : Value} {xs : List Value} (h : W.ownsRow base e size v n xs) : ∃ A cap, v = .slice A n cap ∧ n ≤ cap ∧ n ≤ maxLen ∧ (0 < n → ∃ g, A = some ⟨g, 0, none⟩) := by
  rcases h.2 with ⟨rfl, rfl⟩ | ⟨g, cap, cur, rfl, _, _, h1, h2, _⟩
  · exact ⟨none, 0, rfl, Nat.le_refl _, by simp [maxLen], fun h => by omega⟩
  · exact ⟨_, cap, rfl, h1, Nat.le_trans h1 h2, fun _ => ⟨g, rfl⟩⟩

theorem maxLen_eq : maxLen = 9223372036854775807 := by decide
/-- A step, and a frame. -/
structure Sx where
  k : Int
  num : Int
  names : List ByteArray
  name : ByteArray
  trim : Bool
structure Fr where
  step : Int
  names : List ByteArray
  call : Bool
  trim : Bool
/-- The step e at a place: kind, names, name, number, trimmable. -/
def SxAt (W : World) (q p : Nat) (e : Sx) : Prop :=
  W.cell? ⟨q, p, none⟩ = some (.int .i64 e.k) ∧ W.cell? ⟨q, p + 2, none⟩ = some (.string e.name) ∧ W.cell? ⟨q, p + 3, none⟩ = some (.int .i64 e.num) ∧ W.cell? ⟨q, p + 4, none⟩ = some (.bool e.trim) ∧ e.name.size ≤ 9223372036854775807 ∧ ∃ cv, W.cell? ⟨q, p + 1, none⟩ = some cv ∧ Strs W cv e.names
theorem SxAt.later {W W' : World} {q p : Nat} {e : Sx} (h : SxAt W q p e) (hb : Below W.heap.size W W') : SxAt W' q p e := by
  obtain ⟨h0, h1, h2, h3, h4, cv, h5, h6⟩ := h
  exact ⟨cell_later hb h0, cell_later hb h1, cell_later hb h2, cell_later hb h3, h4, cv, cell_later hb h5, h6.later hb⟩
/-- A slice of steps. -/
def Sxs (W : World) (v : Value) (es : List Sx) : Prop :=
  ∃ (A : Option Addr) (cap : Nat), v = .slice A es.length cap ∧ es.length ≤ 9223372036854775807 ∧ ∀ i e, es[i]? = some e → ∃ q o, A = some ⟨q, o, none⟩ ∧ SxAt W q (o + i * 5) e
theorem Sxs.later {W W' : World} {v : Value} {es : List Sx} (h : Sxs W v es) (hb : Below W.heap.size W W') : Sxs W' v es := by
  obtain ⟨A, cap, hv, hl, h⟩ := h
  exact ⟨A, cap, hv, hl, fun j s hj => by
    obtain ⟨q, o, ha, hc⟩ := h j s hj
    exact ⟨q, o, ha, hc.later hb⟩⟩
theorem fits14_any (k m : Int) (nm : ByteArray) (tr : Bool) (cv : Value) (ss : List ByteArray) (w : World) (h : Strs w cv ss) : Calls Try.prog 22 #[.agg #[.int .i64 k, cv, .string nm, .int .i64 m, .bool tr]] w fun e w' => AnyBool e ∧ Below w.heap.size w w' := by
  have HF := Lib.hid (fun w' (hb : Below w.heap.size w w') => fits5_any cv ss w' (h.later hb))
  obtain ⟨A, cap, rfl, _, _⟩ := h
  go_enter Try.func22, Try.ntmps22
  go_wp2_with (go_at_call 38; refine (HF.out _ ((Below.refl _ _).alloc (Nat.le_refl _) _)).mono ?_; rintro e w' ⟨⟨b, rfl⟩, rfl⟩; cases b)
  all_goals
    go_ret
    exact ⟨⟨_, rfl⟩, (Below.refl _ _).alloc (Nat.le_refl _) _⟩
set_option maxHeartbeats 1000000 in
theorem fits13_any (v : Value) (es : List Sx) (w : World) (h : Sxs w v es) : Calls Try.prog 6 #[v] w fun e w' => AnyBool e ∧ Below w.heap.size w w' := by
  obtain ⟨A, cap, rfl, hl, hc⟩ := h
  have HC := Lib.hid hc
  clear hc
  by_cases hbig : es.length ≤ 2147483647
  · have hnb : decide ((2147483647 : Int) < (es.length : Int)) = false := decide_eq_false (by omega)
    generalize hn : es.length = n at hl hbig hnb ⊢
    have HN := Lib.hid hn
    clear hn
    go_enter Try.func6, Try.ntmps6
    go_wp2
    go_loopw [4, 10] (fun _ i wr => ∃ k : Nat, k ≤ n ∧ i = .int .i64 k ∧ Below w.heap.size w wr) (fun _ i _ => n - (intOf i).toNat)
    case atStart => exact ⟨0, Nat.zero_le _, rfl, Below.refl _ _⟩
    case round =>
      obtain ⟨k, hk, rfl, hb⟩ := hrel
      by_cases hlt : k < n
      · obtain ⟨s, hs⟩ : ∃ s, es[k]? = some s := ⟨_, List.getElem?_eq_getElem (by have := HN.out; omega)⟩
        obtain ⟨q, o, rfl, hcell⟩ := HC.out k s hs
        obtain ⟨c0, c1, c2, c3, -, cv, c4, hst⟩ := hcell.later hb
        obtain ⟨A2, cap2, rfl⟩ := hst.form
        have HB := Lib.hid hb
        have hki : (k : Int) < (n : Int) := by omega
        have HF := Lib.hid (fun w' (hb : Below wr.heap.size wr w') => fits14_any s.k s.num s.name s.trim _ s.names w' (hst.later hb))
        clear hs hst hb hcell
        go_wp2_with (go_at_call 22; refine (HF.out _ ((Below.refl _ _).alloc (Nat.le_refl _) _)).mono ?_; rintro e w' ⟨⟨b, rfl⟩, hb⟩; have HB2 := Lib.hid hb; clear hb; cases b)
        · go_ret
          exact ⟨⟨_, rfl⟩, step_after (HB.out.alloc HB.out.size _) HB2.out⟩
        · go_roundw
          case rel => exact ⟨k + 1, by omega, by go_num, step_after (HB.out.alloc HB.out.size _) HB2.out⟩
          case measure => simp [intOf]; omega
      · have hki : ¬ (k : Int) < (n : Int) := by omega
        have HB := Lib.hid hb
        clear hb
        go_wp2
        go_ret
        exact ⟨⟨_, rfl⟩, HB.out⟩
  · have hnb : decide ((2147483647 : Int) < (es.length : Int)) = true := decide_eq_true (by omega)
    go_enter Try.func6, Try.ntmps6
    go_wp2
    go_ret
    exact ⟨⟨_, rfl⟩, Below.refl _ _⟩
end Go.Proofs.Ytincgkolpicipaa.stack

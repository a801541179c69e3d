/- FnStepsTwice: memory: strings, numbers, steps; what a step leaves as it was. -/
import Derived.Test.YtincgkolpicipaaDoorRows
import Derived.Test.YtincgkolpicipaaDoorSt1
import Derived.WalkKit
import Derived.WalkLawsBesides
import Derived.WalkSpells
import Derived.Lib.Hide
import Derived.Below
import Derived.LoopTactic
import Derived.BigQuiet
import Derived.Deep.QuietTactic
import Derived.Maps.AppendAt
import Derived.Deep.AppendLies
import Derived.Laws.OwnMore
import Derived.OneCell
import Derived.Handy
namespace Go.Proofs.YtincgkolpicipaaDoor.twice
open Go.RowKit
theorem maxLen_eq : maxLen = 9223372036854775807 := by decide
theorem step_after {w W w' : World} (h : Below w.heap.size w W) (hb : Below W.heap.size W w') : Below w.heap.size w w' := h.trans (hb.mono h.size)
theorem drewN_below (w : World) (n : Nat) : Below w.heap.size w (w.drewN n) := ⟨rfl, rfl, rfl, Nat.le_refl _, fun _ _ => rfl⟩
theorem add_off (q o j : Nat) : (⟨q, o, none⟩ : Addr).add j = ⟨q, o + j, none⟩ := by unfold Addr.add; split <;> simp_all
/-- A slice of strings; of numbers. -/
def Strs (W : World) (v : Value) (ss : List (List UInt8)) : Prop :=
  ∃ (A : Option Addr) (cap : Nat), v = .slice A ss.length cap ∧ ss.length ≤ 9223372036854775807 ∧ ∀ (j : Nat) s, ss[j]? = some s → s.length ≤ 9223372036854775807 ∧ ∃ q o, A = some ⟨q, o, none⟩ ∧ W.cell? ⟨q, o + j, none⟩ = some (.string ⟨s.toArray⟩)
def Ints (W : World) (v : Value) (xs : List Int) : Prop :=
  ∃ (A : Option Addr) (cap : Nat), v = .slice A xs.length cap ∧ xs.length ≤ 9223372036854775807 ∧ ∀ (i : Nat) z, xs[i]? = some z → ∃ q o, A = some ⟨q, o, none⟩ ∧ W.cell? ⟨q, o + i, none⟩ = some (.int .i64 z)
theorem Strs.later {W W' : World} {v : Value} {ss : List (List UInt8)} (h : Strs W v ss) (hb : Below W.heap.size W W') : Strs W' v ss := by
  obtain ⟨A, cap, hv, hl, h⟩ := h
  exact ⟨A, cap, hv, hl, fun j s hj => by
    obtain ⟨hs, q, o, ha, hc⟩ := h j s hj
    exact ⟨hs, q, o, ha, cell_later hb hc⟩⟩
theorem Ints.later {W W' : World} {v : Value} {xs : List Int} (h : Ints W v xs) (hb : Below W.heap.size W W') : Ints W' v xs := by
  obtain ⟨A, cap, hv, hl, h⟩ := h
  exact ⟨A, cap, hv, hl, fun j s hj => by
    obtain ⟨q, o, ha, hc⟩ := h j s hj
    exact ⟨q, o, ha, cell_later hb hc⟩⟩
theorem Strs.form {W : World} {v : Value} {ss : List (List UInt8)} (h : Strs W v ss) : ∃ A cap, v = .slice A ss.length cap := by
  obtain ⟨A, cap, hv, _⟩ := h
  exact ⟨A, cap, hv⟩
theorem Ints.form {W : World} {v : Value} {ss : List Int} (h : Ints W v ss) : ∃ A cap, v = .slice A ss.length cap := by
  obtain ⟨A, cap, hv, _⟩ := h
  exact ⟨A, cap, hv⟩
/-- The step e at a place: is, remove, names, hides. -/
structure SpAt (W : World) (q p : Nat) (e : Sp) : Prop where
  is : W.cell? ⟨q, p, none⟩ = some (.bool e.is)
  rem : W.cell? ⟨q, p + 1, none⟩ = some (.string ⟨e.rem.toArray⟩)
  remL : e.rem.length ≤ 9223372036854775807
  more : ∃ nv hv, W.cell? ⟨q, p + 2, none⟩ = some nv ∧ W.cell? ⟨q, p + 3, none⟩ = some hv ∧ Strs W nv e.names ∧ Ints W hv e.hides
theorem SpAt.later {W W' : World} {q p : Nat} {e : Sp} (h : SpAt W q p e) (hb : Below W.heap.size W W') : SpAt W' q p e := by
  obtain ⟨h0, h1, h2, nv, hv, h3, h4, h5, h6⟩ := h
  exact ⟨cell_later hb h0, cell_later hb h1, h2, nv, hv, cell_later hb h3, cell_later hb h4, h5.later hb, h6.later hb⟩
/-- A slice of steps. -/
def Sps (W : World) (v : Value) (es : List Sp) : Prop :=
  ∃ (A : Option Addr) (cap : Nat), v = .slice A es.length cap ∧ es.length ≤ cap ∧ es.length ≤ 9223372036854775807 ∧ ∀ (i : Nat) e, es[i]? = some e → ∃ q o, A = some ⟨q, o, none⟩ ∧ SpAt W q (o + i * 4) e
theorem Sps.later {W W' : World} {v : Value} {es : List Sp} (h : Sps W v es) (hb : Below W.heap.size W W') : Sps W' v es := by
  obtain ⟨A, cap, hv, hc, hl, h⟩ := h
  exact ⟨A, cap, hv, hc, hl, fun j s hj => by
    obtain ⟨q, o, ha, hc⟩ := h j s hj
    exact ⟨q, o, ha, hc.later hb⟩⟩
/-- Some truth value. -/
def AnyBool (e : Ending) : Prop := ∃ b : Bool, e = .returned (.bool b)
/-- But for the blocks X the world w' is as w was, with more blocks. -/
structure Chg (X : Nat → Prop) (w w' : World) : Prop where
  os : w'.os = w.os
  tape : w'.tape = w.tape
  output : w'.output = w.output
  size : w.heap.size ≤ w'.heap.size
  block : ∀ k, k < w.heap.size → ¬ X k → w'.heap[k]? = w.heap[k]?
section
variable {X Y : Nat → Prop} {a w w' : World}
theorem Chg.refl (X : Nat → Prop) (w : World) : Chg X w w := ⟨rfl, rfl, rfl, Nat.le_refl _, fun _ _ _ => rfl⟩
theorem Chg.step (h : Chg X a w) (k : Chg Y w w') (hY : ∀ i, i < a.heap.size → Y i → X i) : Chg X a w' :=
  ⟨k.os.trans h.os, k.tape.trans h.tape, k.output.trans h.output, Nat.le_trans h.size k.size, fun i hi hn => (k.block i (Nat.lt_of_lt_of_le hi h.size) (fun hy => hn (hY i hi hy))).trans (h.block i hi hn)⟩
theorem Chg.trans (h : Chg X a w) (k : Chg X w w') : Chg X a w' := h.step k fun _ _ h => h
theorem Chg.weak (h : Chg X a w) (hX : ∀ i, i < a.heap.size → X i → Y i) : Chg Y a w :=
  ⟨h.os, h.tape, h.output, h.size, fun i hi hn => h.block i hi (fun hx => hn (hX i hi hx))⟩
theorem Chg.drew (h : Chg X a w) : Chg X a w.drew := ⟨h.os, h.tape, h.output, h.size, h.block⟩
theorem Chg.alloc (h : Chg X a w) (o : Obj) : Chg X a (w.alloc o) :=
  ⟨h.os, h.tape, h.output, Nat.le_trans h.size (by simp), fun i hi hn => (Below.heap_alloc w o i (Nat.lt_of_lt_of_le hi h.size)).trans (h.block i hi hn)⟩
theorem Chg.below (h : Below w.heap.size w w') : Chg X w w' := ⟨h.os, h.tape, h.output, h.size, fun i hi _ => h.block i hi⟩
theorem Chg.grown (h : Chg X a w) {row : Option Nat} (hg : w.grownBy w' row) (hr : ∀ k, row = some k → k < a.heap.size → X k) : Chg X a w' :=
  ⟨hg.os.trans h.os, hg.tape.trans h.tape, hg.output.trans h.output, Nat.le_trans h.size hg.size, fun i hi hn => (hg.block i (Nat.lt_of_lt_of_le hi h.size) (fun e => hn (hr i e.symm hi))).trans (h.block i hi hn)⟩
theorem Chg.setCell (h : Chg X a w) {p : Addr} (hp : p.block < a.heap.size → X p.block) (u : Value) : Chg X a (w.setCell p u) :=
  ⟨h.os, h.tape, h.output, by simpa using h.size, fun i hi hn => (Below.heap_setCell w p u i (by rintro rfl; exact hn (hp hi))).trans (h.block i hi hn)⟩
theorem Chg.toBelow (h : Chg X a w) {B : Nat} (hB : B ≤ a.heap.size) (hX : ∀ i, X i → B ≤ i) : Below B a w :=
  ⟨h.os, h.tape, h.output, h.size, fun i hi => h.block i (by omega) (fun hx => by have := hX i hx; omega)⟩
theorem Chg.cell (h : Chg X a w) {p : Addr} {v : Value} (hc : a.cell? p = some v) (hn : ¬ X p.block) : w.cell? p = some v := by
  rw [World.cell?_of_block (w := a) (h.block p.block (block_lt_of_cell hc) hn)]; exact hc
theorem Chg.keep (h : Chg X a w) {k : Nat} {o : Obj} (hc : a.heap[k]? = some o) (hn : ¬ X k) : w.heap[k]? = some o :=
  (h.block k (Array.getElem?_eq_some_iff.1 hc).1 hn).trans hc
end
theorem owns_chg {X : Nat → Prop} {W W' : World} {base e size n : Nat} {v : Value} {xs : List Value} (h : W.ownsRow base e size v n xs) (hx : Chg X W W') (hv : ∀ k, v.ownBlock = some k → ¬ X k) : W'.ownsRow base e size v n xs := by
  obtain ⟨h1, h2⟩ := h
  refine ⟨h1, ?_⟩
  rcases h2 with h2 | ⟨g, cap, cur, rfl, hg, hh, r⟩
  · exact .inl h2
  · exact .inr ⟨g, cap, cur, rfl, hg, hx.keep hh (hv g rfl), r⟩
theorem owns_form {W : World} {base e size n : Nat} {v : Value} {xs : List Value} (h : W.ownsRow base e size v n xs) : ∃ A cap, v = .slice A n cap ∧ n ≤ cap ∧ n ≤ maxLen ∧ (0 < n → ∃ g, A = some ⟨g, 0, none⟩) := by
  rcases h.2 with ⟨rfl, rfl⟩ | ⟨g, cap, cur, rfl, _, _, h1, h2, _⟩
  · exact ⟨none, 0, rfl, Nat.le_refl _, by simp [maxLen], fun h => by omega⟩
  · exact ⟨_, cap, rfl, h1, Nat.le_trans h1 h2, fun _ => ⟨g, rfl⟩⟩

theorem own_type {W : World} {B e size n : Nat} {u : Value} {xs : List Value} (hu : W.ownsRow B e size u n xs) {g : Nat} (hg : u.ownBlock = some g) : ∃ cur, W.heap[g]? = some (.cells cur e (0, 0)) := by
  rcases hu.2 with ⟨rfl, _⟩ | ⟨a, cap, cur, rfl, _, ha, _⟩
  · cases hg
  · have e1 : a = g := by simpa [Value.ownBlock] using hg
    subst e1
    exact ⟨cur, ha⟩
theorem fits5_any (v : Value) (ss : List (List UInt8)) (w : World) (h : Strs w v ss) : Calls Tryd.prog 12 #[v] w fun e w' => AnyBool e ∧ w = w' := by
  obtain ⟨A, cap, rfl, hl, hc⟩ := h
  have HC := Lib.hid hc
  clear hc
  by_cases hbig : ss.length ≤ 2147483647
  · have hnb : decide ((2147483647 : Int) < (ss.length : Int)) = false := decide_eq_false (by omega)
    generalize hn : ss.length = n at hl hbig hnb ⊢
    have HN := Lib.hid hn
    clear hn
    go_enter Tryd.func12, Tryd.ntmps12
    go_wp2
    go_loop [4, 10] (fun _ i => ∃ k : Nat, k ≤ n ∧ i = .int .i64 k) (fun _ i => n - (intOf i).toNat)
    case atStart => exact ⟨0, Nat.zero_le _, rfl⟩
    case round =>
      obtain ⟨k, hk, rfl⟩ := hrel
      by_cases hlt : k < n
      · obtain ⟨s0, hs⟩ : ∃ s, ss[k]? = some s := ⟨_, List.getElem?_eq_getElem (by have := HN.out; omega)⟩
        obtain ⟨-, q, o, rfl, hcell⟩ := HC.out k s0 hs
        generalize (⟨s0.toArray⟩ : ByteArray) = s at hcell
        have hki : (k : Int) < (n : Int) := by omega
        clear hs
        by_cases h2 : s.size ≤ 2147483647
        · have hnb2 : decide ((2147483647 : Int) < (s.size : Int)) = false := decide_eq_false (by omega)
          go_wp2
          go_round
          case rel => exact ⟨k + 1, by omega, by go_num⟩
          case measure => simp [intOf]; omega
        · have hnb2 : decide ((2147483647 : Int) < (s.size : Int)) = true := decide_eq_true (by omega)
          go_wp2
          go_ret
          exact ⟨⟨_, rfl⟩, rfl⟩
      · have hki : ¬ (k : Int) < (n : Int) := by omega
        go_wp2
        go_ret
        exact ⟨⟨_, rfl⟩, rfl⟩
  · have hnb : decide ((2147483647 : Int) < (ss.length : Int)) = true := decide_eq_true (by omega)
    go_enter Tryd.func12, Tryd.ntmps12
    go_wp2
    go_ret
    exact ⟨⟨_, rfl⟩, rfl⟩
theorem fits12_any (b0 : Bool) (s : ByteArray) (nv : Value) (ss : List (List UInt8)) (A : Option Addr) (n c : Nat) (w : World) (h : Strs w nv ss) : Calls Tryd.prog 8 #[.agg #[.bool b0, .string s, nv, .slice A n c]] w fun e w' => AnyBool e ∧ Below w.heap.size w w' := by
  have HF := Lib.hid (fun w' (hb : Below w.heap.size w w') => fits5_any nv ss w' (h.later hb))
  obtain ⟨A2, cap2, rfl, _, _⟩ := h
  obtain ⟨b1, h1⟩ : ∃ b, decide ((2147483647 : Int) < (s.size : Int)) = b := ⟨_, rfl⟩
  obtain ⟨b2, h2⟩ : ∃ b, decide ((2147483647 : Int) < (n : Int)) = b := ⟨_, rfl⟩
  go_enter Tryd.func8, Tryd.ntmps8
  cases b1 <;> cases b2
  all_goals
    go_wp2_with (go_at_call 12; refine (HF.out _ ((Below.refl _ _).alloc (Nat.le_refl _) _)).mono ?_; rintro e w' ⟨⟨b, rfl⟩, rfl⟩; cases b)
  all_goals
    go_ret
    exact ⟨⟨_, rfl⟩, (Below.refl _ _).alloc (Nat.le_refl _) _⟩
set_option maxHeartbeats 1000000 in
theorem fits11_any (v : Value) (es : List Sp) (w : World) (h : Sps w v es) : Calls Tryd.prog 4 #[v] w fun e w' => AnyBool e ∧ Below w.heap.size w w' := by
  obtain ⟨A, cap, rfl, _, hl, hc⟩ := h
  have HC := Lib.hid hc
  clear hc
  by_cases hbig : es.length ≤ 2147483647
  · have hnb : decide ((2147483647 : Int) < (es.length : Int)) = false := decide_eq_false (by omega)
    generalize hn : es.length = n at hl hbig hnb ⊢
    have HN := Lib.hid hn
    clear hn
    go_enter Tryd.func4, Tryd.ntmps4
    go_wp2
    go_loopw [4, 10] (fun _ i wr => ∃ k : Nat, k ≤ n ∧ i = .int .i64 k ∧ Below w.heap.size w wr) (fun _ i _ => n - (intOf i).toNat)
    case atStart => exact ⟨0, Nat.zero_le _, rfl, Below.refl _ _⟩
    case round =>
      obtain ⟨k, hk, rfl, hb⟩ := hrel
      by_cases hlt : k < n
      · obtain ⟨s, hs⟩ : ∃ s, es[k]? = some s := ⟨_, List.getElem?_eq_getElem (by have := HN.out; omega)⟩
        obtain ⟨q, o, rfl, hcell⟩ := HC.out k s hs
        obtain ⟨c0, c1, -, nv, hv, c2, c3, hst, hin⟩ := hcell.later hb
        obtain ⟨A2, cap2, rfl⟩ := hst.form
        obtain ⟨A3, cap3, rfl⟩ := hin.form
        have HB := Lib.hid hb
        have hki : (k : Int) < (n : Int) := by omega
        have HF := Lib.hid (fun w' (hb : Below wr.heap.size wr w') => fits12_any s.is ⟨s.rem.toArray⟩ _ s.names A3 s.hides.length cap3 w' (hst.later hb))
        clear hs hst hb hcell hin
        go_wp2_with (go_at_call 8; refine (HF.out _ ((Below.refl _ _).alloc (Nat.le_refl _) _)).mono ?_; rintro e w' ⟨⟨b, rfl⟩, hb⟩; have HB2 := Lib.hid hb; clear hb; cases b)
        · go_ret
          exact ⟨⟨_, rfl⟩, step_after (HB.out.alloc HB.out.size _) HB2.out⟩
        · go_roundw
          case rel => exact ⟨k + 1, by omega, by go_num, step_after (HB.out.alloc HB.out.size _) HB2.out⟩
          case measure => simp [intOf]; omega
      · have hki : ¬ (k : Int) < (n : Int) := by omega
        have HB := Lib.hid hb
        clear hb
        go_wp2
        go_ret
        exact ⟨⟨_, rfl⟩, HB.out⟩
  · have hnb : decide ((2147483647 : Int) < (es.length : Int)) = true := decide_eq_true (by omega)
    go_enter Tryd.func4, Tryd.ntmps4
    go_wp2
    go_ret
    exact ⟨⟨_, rfl⟩, Below.refl _ _⟩
theorem names_any (va vb : Value) (xs : List (List UInt8)) (w : World) (ha : Strs w va xs) (hb : Strs w vb xs) : Calls Tryd.prog 11 #[va, vb] w fun e w' => e = .returned (.bool true) ∧ Below w.heap.size w w' := by
  obtain ⟨A, cap, rfl, hl, h1⟩ := ha
  obtain ⟨A', cap', rfl, -, h2⟩ := hb
  have H1 := Lib.hid h1
  have H2 := Lib.hid h2
  clear h1 h2
  go_enter Tryd.func11, Tryd.ntmps11
  go_wp2
  go_loopw [5] (fun i wr => ∃ k q : Nat, k ≤ xs.length ∧ i = .int .i64 k ∧ wr = w.drewN q) (fun i _ => xs.length - (intOf i).toNat)
  case atStart => exact ⟨0, 0, Nat.zero_le _, rfl, rfl⟩
  case round =>
    obtain ⟨k, nq, hk, rfl, rfl⟩ := hrel
    by_cases hlt : k < xs.length
    · obtain ⟨s0, hs⟩ : ∃ s, xs[k]? = some s := ⟨_, List.getElem?_eq_getElem hlt⟩
      obtain ⟨-, q, o, rfl, c1⟩ := H1.out k s0 hs
      obtain ⟨-, q', o', rfl, c2⟩ := H2.out k s0 hs
      generalize (⟨s0.toArray⟩ : ByteArray) = s at c1 c2
      have hki : (k : Int) < (xs.length : Int) := by omega
      clear hs
      go_wp2
      go_quiet (fail)
      go_wp2
      exact ⟨⟨k + 1, _, by omega, by go_num, rfl⟩, by simp [intOf]; omega⟩
    · have hki : ¬ (k : Int) < (xs.length : Int) := by omega
      go_wp2
      go_ret
      exact ⟨rfl, drewN_below _ _⟩
/-- How a field is seen, in jsonnet's numbers; and back. -/
def hideJ (h : Int) : Int := if h = 0 then 1 else if h = 1 then 0 else 2
def seenI (h : Int) : Int := if h = 0 then 1 else if h = 2 then 2 else 0
theorem hides_any (h : Int) (w : World) (hh : h = 0 ∨ h = 1 ∨ h = 2) : Calls Tryd.prog 19 #[.int .i64 h] w fun e w' => e = .returned (.tuple #[.int .i64 (hideJ h), .bool true]) ∧ w' = w := by
  rcases hh with rfl | rfl | rfl
  all_goals
    go_enter Tryd.func19, Tryd.ntmps19
    go_wp2
    go_returns
    exact ⟨rfl, rfl⟩
theorem seen_any (h : Int) (w : World) : Calls Tryd.prog 17 #[.int .i64 h] w fun e w' => e = .returned (.int .i64 (seenI h)) ∧ w' = w := by
  by_cases h0 : h = 0
  · subst h0
    go_enter Tryd.func17, Tryd.ntmps17
    go_wp2
    go_returns
    exact ⟨rfl, rfl⟩
  · by_cases h2 : h = 2
    · subst h2
      go_enter Tryd.func17, Tryd.ntmps17
      go_wp2
      go_returns
      exact ⟨rfl, rfl⟩
    · have e0 : (h == 0) = false := by simpa using h0
      have e2 : (h == 2) = false := by simpa using h2
      have HS := Lib.hid (show seenI h = 0 by unfold seenI; rw [if_neg h0, if_neg h2])
      clear h0 h2
      go_enter Tryd.func17, Tryd.ntmps17
      go_wp2
      go_returns
      exact ⟨by rw [HS.out]; rfl, rfl⟩
end Go.Proofs.YtincgkolpicipaaDoor.twice

/- FnStack: StackRight, sameInts7, placeOf by contract. -/
import Derived.Test.YtincgkolpicipaaStk1
import Derived.Deep.QuietTactic
namespace Go.Proofs.Ytincgkolpicipaa.stack
open Go.RowKit
def badK (e : Sx) : Bool := decide (e.k < 1) || (decide (5 < e.k) || ((e.k == 3) && decide (e.num < 1)))
def rightB (es : List Sx) : Bool := es.all fun e => !badK e
def Is (b : Bool) (e : Ending) : Prop := e = .returned (.bool b)
theorem is_of {b z : Bool} (h : b = z) : Is b (.returned (.bool z)) := by rw [← h]; rfl
set_option maxHeartbeats 1000000 in
theorem right_any (v : Value) (es : List Sx) (w : World) (h : Sxs w v es) : Calls Try.prog 8 #[v] w fun e w' => Is (rightB es) e ∧ w = w' := by
  obtain ⟨A, cap, rfl, hl, hc⟩ := h
  have HC := Lib.hid hc
  have HT := Lib.hid (show (∀ (i : Nat) (e : Sx), es[i]? = some e → badK e = false) → rightB es = true from fun h => List.all_eq_true.2 fun (e : Sx) he => by
    obtain ⟨i, hi⟩ := List.getElem?_of_mem he
    rw [h i e hi]; rfl)
  have HF := Lib.hid (show ∀ (i : Nat) (e : Sx), es[i]? = some e → badK e = true → rightB es = false from fun i e hi hb => by
    rw [Bool.eq_false_iff]
    intro h
    have := List.all_eq_true.1 h e (List.mem_of_getElem? hi)
    rw [hb] at this; cases this)
  clear hc
  generalize hn : es.length = n at *
  have HN := Lib.hid hn
  clear hn
  go_enter Try.func8, Try.ntmps8
  go_wp2
  go_loop [3] (fun i => ∃ k : Nat, k ≤ n ∧ i = .int .i64 k ∧ Hid (∀ (i : Nat) (e : Sx), i < k → es[i]? = some e → badK e = false)) (fun i => n - (intOf i).toNat)
  case atStart => exact ⟨0, Nat.zero_le _, rfl, fun i e h => by omega⟩
  case round =>
    obtain ⟨k, hk, rfl, hall⟩ := hrel
    by_cases hlt : k < n
    · obtain ⟨s, hs⟩ : ∃ s, es[k]? = some s := ⟨_, List.getElem?_eq_getElem (by have := HN.out; omega)⟩
      obtain ⟨q, o, rfl, c0, -, c3, -, -, -⟩ := HC.out k s hs
      have hki : (k : Int) < (n : Int) := by omega
      have HSS := Lib.hid hs
      clear hs
      cases hb : badK s
      · have HBB := Lib.hid hb
        unfold badK at hb
        simp only [Bool.or_eq_false_iff] at hb
        obtain ⟨d1, d2, d3⟩ := hb
        cases k3 : (s.k == 3)
        · clear d3
          go_wp2
          go_round
          case rel => exact ⟨k + 1, by omega, by go_num, fun i e hi he => by
            by_cases e1 : i = k
            · subst e1; rw [HSS.out] at he; cases he; exact HBB.out
            · exact hall.out i e (by omega) he⟩
          case measure => simp [intOf]; omega
        · have d4 : decide (s.num < 1) = false := by simpa [k3] using d3
          clear d3
          go_wp2
          go_round
          case rel => exact ⟨k + 1, by omega, by go_num, fun i e hi he => by
            by_cases e1 : i = k
            · subst e1; rw [HSS.out] at he; cases he; exact HBB.out
            · exact hall.out i e (by omega) he⟩
          case measure => simp [intOf]; omega
      · have HR := Lib.hid (HF.out k s HSS.out hb)
        cases d1 : decide (s.k < 1)
        · cases d2 : decide (5 < s.k)
          · unfold badK at hb
            rw [d1, d2] at hb
            simp only [Bool.false_or, Bool.and_eq_true] at hb
            obtain ⟨k3, d4⟩ := hb
            go_wp2
            go_ret
            exact ⟨is_of HR.out, rfl⟩
          · clear hb
            go_wp2
            go_ret
            exact ⟨is_of HR.out, rfl⟩
        · clear hb
          go_wp2
          go_ret
          exact ⟨is_of HR.out, rfl⟩
    · have hki : ¬ (k : Int) < (n : Int) := by omega
      have HR := Lib.hid (HT.out fun i e hi => hall.out i e (by have := (List.getElem?_eq_some_iff.1 hi).1; have := HN.out; omega) hi)
      go_wp2
      go_ret
      exact ⟨is_of HR.out, rfl⟩
/-- A slice of integers. -/
def Ints (W : World) (v : Value) (xs : List Int) : Prop :=
  ∃ (A : Option Addr) (cap : Nat), v = .slice A xs.length cap ∧ xs.length ≤ 9223372036854775807 ∧ ∀ i z, xs[i]? = some z → ∃ q o, A = some ⟨q, o, none⟩ ∧ W.cell? ⟨q, o + i, none⟩ = some (.int .i64 z)
theorem Ints.later {W W' : World} {v : Value} {xs : List Int} (h : Ints W v xs) (hb : Below W.heap.size W W') : Ints W' v xs := by
  obtain ⟨A, cap, hv, hl, h⟩ := h
  exact ⟨A, cap, hv, hl, fun j s hj => by
    obtain ⟨q, o, ha, hc⟩ := h j s hj
    exact ⟨q, o, ha, cell_later hb hc⟩⟩
theorem drewN_below (w : World) (n : Nat) : Below w.heap.size w (w.drewN n) := ⟨rfl, rfl, rfl, Nat.le_refl _, fun _ _ => rfl⟩
theorem same_any (va vb : Value) (xs : List Int) (w : World) (ha : Ints w va xs) (hb : Ints w vb xs) : Calls Try.prog 10 #[va, vb] w fun e w' => e = .returned (.bool true) ∧ Below w.heap.size w w' := by
  obtain ⟨A, cap, rfl, hl, h1⟩ := ha
  obtain ⟨A', cap', rfl, -, h2⟩ := hb
  have H1 := Lib.hid h1
  have H2 := Lib.hid h2
  clear h1 h2
  go_enter Try.func10, Try.ntmps10
  go_wp2
  go_loopw [5] (fun i wr => ∃ k q : Nat, k ≤ xs.length ∧ i = .int .i64 k ∧ wr = w.drewN q) (fun i _ => xs.length - (intOf i).toNat)
  case atStart => exact ⟨0, 0, Nat.zero_le _, rfl, rfl⟩
  case round =>
    obtain ⟨k, nq, hk, rfl, rfl⟩ := hrel
    by_cases hlt : k < xs.length
    · obtain ⟨s, hs⟩ : ∃ s, xs[k]? = some s := ⟨_, List.getElem?_eq_getElem hlt⟩
      obtain ⟨q, o, rfl, c1⟩ := H1.out k s hs
      obtain ⟨q', o', rfl, c2⟩ := H2.out k s hs
      have hki : (k : Int) < (xs.length : Int) := by omega
      clear hs
      go_wp2
      go_quiet (fail)
      go_wp2
      exact ⟨⟨k + 1, _, by omega, by go_num, rfl⟩, by simp [intOf]; omega⟩
    · have hki : ¬ (k : Int) < (xs.length : Int) := by omega
      go_wp2
      go_ret
      exact ⟨rfl, drewN_below _ _⟩
/-- Where a name stands; -1 if nowhere. -/
def placeTo (l : List ByteArray) (s : ByteArray) : Bool := l.any fun t => t.data == s.data
def PlaceIs (b : Bool) (e : Ending) : Prop := ∃ z : Int, e = .returned (.int .i64 z) ∧ decide (0 ≤ z) = b
set_option maxHeartbeats 1000000 in
theorem place_any (v : Value) (l : List ByteArray) (s : ByteArray) (w : World) (h : Strs w v l) : Calls Try.prog 51 #[v, .string s] w fun e w' => PlaceIs (placeTo l s) e ∧ w = w' := by
  obtain ⟨A, cap, rfl, hl, hc⟩ := h
  have HC := Lib.hid hc
  have HT := Lib.hid (show ∀ (i : Nat) (t : ByteArray), l[i]? = some t → (t.data == s.data) = true → placeTo l s = true from fun i t hi hb => List.any_eq_true.2 ⟨t, List.mem_of_getElem? hi, hb⟩)
  have HF := Lib.hid (show (∀ (i : Nat) (t : ByteArray), l[i]? = some t → (t.data == s.data) = false) → placeTo l s = false from fun h => by
    rw [Bool.eq_false_iff]
    intro hh
    obtain ⟨t, ht, hb⟩ := List.any_eq_true.1 hh
    obtain ⟨i, hi⟩ := List.getElem?_of_mem ht
    rw [h i t hi] at hb; cases hb)
  clear hc
  generalize hn : l.length = n at *
  have HN := Lib.hid hn
  clear hn
  go_enter Try.func51, Try.ntmps51
  go_wp2
  go_loop [5] (fun i => ∃ k : Nat, k ≤ n ∧ i = .int .i64 k ∧ Hid (∀ (i : Nat) (t : ByteArray), i < k → l[i]? = some t → (t.data == s.data) = false)) (fun i => n - (intOf i).toNat)
  case atStart => exact ⟨0, Nat.zero_le _, rfl, fun i e h => by omega⟩
  case round =>
    obtain ⟨k, hk, rfl, hall⟩ := hrel
    by_cases hlt : k < n
    · obtain ⟨t, ht⟩ : ∃ t, l[k]? = some t := ⟨_, List.getElem?_eq_getElem (by have := HN.out; omega)⟩
      obtain ⟨-, q, o, rfl, c0⟩ := HC.out k t ht
      have hki : (k : Int) < (n : Int) := by omega
      have HTT := Lib.hid ht
      clear ht
      have hq : (t.toList == s.toList) = (t.data == s.data) := by
        rw [ByteArray.toList_eq, ByteArray.toList_eq, Bool.eq_iff_iff]
        simp
      cases hb : (t.data == s.data)
      · have he : (t.toList == s.toList) = false := by rw [hq]; exact hb
        have HB := Lib.hid hb
        clear hb hq
        go_wp2
        go_round
        case rel => exact ⟨k + 1, by omega, by go_num, fun i e hi he => by
          by_cases e1 : i = k
          · subst e1; rw [HTT.out] at he; cases he; exact HB.out
          · exact hall.out i e (by omega) he⟩
        case measure => simp [intOf]; omega
      · have he : (t.toList == s.toList) = true := by rw [hq]; exact hb
        have HR := Lib.hid (HT.out k t HTT.out hb)
        clear hb hq
        go_wp2
        go_ret
        exact ⟨⟨k, rfl, by rw [HR.out]; simp⟩, rfl⟩
    · have hki : ¬ (k : Int) < (n : Int) := by omega
      have HR := Lib.hid (HF.out fun i e hi => hall.out i e (by have := (List.getElem?_eq_some_iff.1 hi).1; have := HN.out; omega) hi)
      go_wp2
      go_ret
      exact ⟨⟨-1, rfl, by rw [HR.out]; rfl⟩, rfl⟩
end Go.Proofs.Ytincgkolpicipaa.stack

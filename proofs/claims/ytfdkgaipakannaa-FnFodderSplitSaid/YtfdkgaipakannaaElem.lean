/- laws.element and laws.follows by contract, for all elements. -/
import Derived.Test.YtfdkgaipakannaaEls
namespace Go.Proofs.Ytfdkgaipakannaa.split
open Go.RowKit
structure GoodEl (e : El) : Prop where
  b0 : 0 ≤ e.b
  b1 : e.b ≤ 1000
  n0 : 0 ≤ e.n
  n1 : e.n ≤ 1000
  c : e.c.length ≤ 20
  k : (e.k = 0 ∧ e.c.length ≤ 1) ∨ (e.k = 1 ∧ e.c.length = 1 ∧ e.b = 0 ∧ e.n = 0) ∨ (e.k = 2 ∧ 0 < e.c.length)
def lastOk (k : Int) (n : Nat) (b m : Int) : Bool := if k == 0 then decide (n ≤ 1) else if k == 1 then decide (n = 1 ∧ b = 0 ∧ m = 0) else decide (k = 2 ∧ 0 < n)
def elemOk (e : El) : Bool := decide (0 ≤ e.b ∧ e.b ≤ 1000 ∧ 0 ≤ e.n ∧ e.n ≤ 1000 ∧ e.c.length ≤ 20) && (e.c.all (fun s => decide (s.size ≤ 200)) && lastOk e.k e.c.length e.b e.n)
theorem good_of {e : El} (h : elemOk e = true) : GoodEl e := by
  unfold elemOk lastOk at h
  simp only [Bool.and_eq_true, decide_eq_true_eq] at h
  obtain ⟨⟨h1, h2, h3, h4, h5⟩, _, h6⟩ := h
  refine ⟨h1, h2, h3, h4, h5, ?_⟩
  by_cases k0 : e.k = 0
  · simp [k0] at h6; exact .inl ⟨k0, h6⟩
  · by_cases k1 : e.k = 1
    · simp [k1] at h6; exact .inr (.inl ⟨k1, h6⟩)
    · have e0 : (e.k == 0) = false := by simpa using k0
      have e1 : (e.k == 1) = false := by simpa using k1
      rw [e0, e1] at h6
      simp at h6
      exact .inr (.inr h6)
def Is (b : Bool) (e : Ending) : Prop := e = .returned (.bool b)
theorem is_of {b z : Bool} (h : b = z) : Is b (.returned (.bool z)) := by rw [← h]; rfl
def e_all (c : List ByteArray) : Bool := c.all (fun s => decide (s.size ≤ 200))
set_option maxHeartbeats 1000000 in
theorem element_loop (el : El) (cv : Value) (w : World) (h : Strs w cv el.c) (hb0 : 0 ≤ el.b) (hb1 : el.b ≤ 1000) (hn0 : 0 ≤ el.n) (hn1 : el.n ≤ 1000) (hc20 : el.c.length ≤ 20) :
    Calls Try.prog 30 #[.agg #[.int .i64 el.k, .int .i64 el.b, .int .i64 el.n, cv]] w fun e w' => Is (elemOk el) e ∧ Below w.heap.size w w' := by
  obtain ⟨A, cap, rfl, hl, hc⟩ := h
  have HG := Lib.hid (show (∀ (j : Nat) (s : ByteArray), el.c[j]? = some s → s.size ≤ 200) → elemOk el = lastOk el.k el.c.length el.b el.n from fun k => by
    have h1 : e_all el.c = true := List.all_eq_true.2 fun (s : ByteArray) hs => by
      obtain ⟨j, hj⟩ := List.getElem?_of_mem hs
      exact decide_eq_true (k j s hj)
    unfold elemOk
    rw [decide_eq_true ⟨hb0, hb1, hn0, hn1, hc20⟩]
    show (true && (e_all el.c && _)) = _
    rw [h1]; simp)
  have HX := Lib.hid (show ∀ (j : Nat) (s : ByteArray), el.c[j]? = some s → 200 < s.size → elemOk el = false from fun j s hj hs => by
    have h1 : e_all el.c = false := by
      rw [Bool.eq_false_iff]
      intro h
      have := List.all_eq_true.1 h s (List.mem_of_getElem? hj)
      simp at this; omega
    unfold elemOk
    show (_ && (e_all el.c && _)) = _
    rw [h1]; simp)
  have HC := Lib.hid (fun w' (hb : Below w.heap.size w w') j s hj => (⟨(hc j s hj).1, by obtain ⟨q, o, ha, hcc⟩ := (hc j s hj).2; exact ⟨q, o, ha, cell_later hb hcc⟩⟩ : s.size ≤ 9223372036854775807 ∧ ∃ q o, A = some ⟨q, o, none⟩ ∧ w'.cell? ⟨q, o + j, none⟩ = some (.string s)))
  clear hc hl
  have d1 : decide (el.b < 0) = false := decide_eq_false (by omega)
  have d2 : decide (1000 < el.b) = false := decide_eq_false (by omega)
  have d3 : decide (el.n < 0) = false := decide_eq_false (by omega)
  have d4 : decide (1000 < el.n) = false := decide_eq_false (by omega)
  have d5 : decide ((20 : Int) < (el.c.length : Int)) = false := decide_eq_false (by omega)
  generalize hn : el.c.length = n at *
  have HN := Lib.hid hn
  clear hn
  generalize el.b = b at *
  generalize el.n = m at *
  generalize el.k = kk at *
  go_enter Try.func30, Try.ntmps30
  go_wp2
  go_loop [3] (fun i => ∃ k : Nat, k ≤ n ∧ i = .int .i64 k ∧ Hid (∀ (j : Nat) (s : ByteArray), j < k → el.c[j]? = some s → s.size ≤ 200)) (fun i => n - (intOf i).toNat)
  case atStart => exact ⟨0, Nat.zero_le _, rfl, fun j s hj => by omega⟩
  case round =>
    obtain ⟨k, hk, rfl, hall⟩ := hrel
    by_cases hlt : k < n
    · obtain ⟨s, hs⟩ : ∃ s, el.c[k]? = some s := ⟨_, List.getElem?_eq_getElem (by have := HN.out; omega)⟩
      obtain ⟨hz, q, o, rfl, hcell⟩ := HC.out (w.alloc (.cells #[.int .i64 kk, .int .i64 b, .int .i64 m, .slice A n cap] 34)) ((Below.refl w.heap.size w).alloc (Nat.le_refl _) _) k s hs
      have hki : (k : Int) < (n : Int) := by omega
      have HSS := Lib.hid hs
      clear hs
      by_cases h200 : 200 < s.size
      · have d6 : decide ((200 : Int) < (s.size : Int)) = true := decide_eq_true (by omega)
        go_wp2
        go_ret
        exact ⟨is_of (HX.out k s HSS.out h200), (Below.refl _ _).alloc (Nat.le_refl _) _⟩
      · have d6 : decide ((200 : Int) < (s.size : Int)) = false := decide_eq_false (by omega)
        go_wp2
        go_round
        case rel => exact ⟨k + 1, by omega, by go_num, fun j t hj ht => by
          by_cases e : j = k
          · subst e; rw [HSS.out] at ht; cases ht; omega
          · exact hall.out j t (by omega) ht⟩
        case measure => simp [intOf]; omega
    · have hki : ¬ (k : Int) < (n : Int) := by omega
      have HE := Lib.hid (HG.out (fun j s hj => hall.out j s (by have := (List.getElem?_eq_some_iff.1 hj).1; have := HN.out; omega) hj))
      clear HG HX HC
      have hend : ∀ z : Bool, lastOk kk n b m = z → Is (elemOk el) (.returned (.bool z)) := fun z hz => by rw [← hz, ← HE.out]; rfl
      have HZ := Lib.hid hend
      clear hend
      have HBW := Lib.hid (show ∀ o, Below w.heap.size w (w.alloc o) from fun o => (Below.refl _ _).alloc (Nat.le_refl _) _)
      cases k0 : (kk == 0)
      · cases k1 : (kk == 1)
        · cases k2 : (kk == 2)
          · have HL := Lib.hid (show lastOk kk n b m = false by unfold lastOk; rw [k0, k1]; simp at k2; simp [k2])
            go_wp2
            go_ret
            exact ⟨HZ.out _ HL.out, HBW.out _⟩
          · have HL := Lib.hid (show lastOk kk n b m = decide (0 < n) by unfold lastOk; rw [k0, k1]; simp at k2; simp [k2])
            go_wp2
            go_ret
            exact ⟨HZ.out _ (HL.out), HBW.out _⟩
        · cases n1 : decide (n = 1)
          · have HL := Lib.hid (show lastOk kk n b m = false by unfold lastOk; rw [k0, k1]; simp at n1; simp [n1])
            have n2 : ((n : Int) == 1) = false := by simp at n1; simp; omega
            clear n1
            go_wp2
            go_ret
            exact ⟨HZ.out _ HL.out, HBW.out _⟩
          · have n3 : n = 1 := by simpa using n1
            have n2 : ((n : Int) == 1) = true := by simp; omega
            clear n1
            cases b1 : (b == 0)
            · have HL := Lib.hid (show lastOk kk n b m = false by unfold lastOk; rw [k0, k1]; simp at b1; simp [b1])
              clear n3
              go_wp2
              go_ret
              exact ⟨HZ.out _ HL.out, HBW.out _⟩
            · have HL := Lib.hid (show lastOk kk n b m = (m == 0) by unfold lastOk; rw [k0, k1]; simp at b1; simp [b1, n3]; rfl)
              clear n3
              go_wp2
              go_ret
              exact ⟨HZ.out _ HL.out, HBW.out _⟩
      · have HL := Lib.hid (show lastOk kk n b m = decide (n ≤ 1) by unfold lastOk; rw [k0]; rfl)
        go_wp2
        go_ret
        exact ⟨HZ.out _ (by rw [HL.out, Bool.eq_iff_iff]; simp; omega), HBW.out _⟩
set_option maxHeartbeats 1000000 in
theorem element_any (el : El) (cv : Value) (w : World) (h : Strs w cv el.c) : Calls Try.prog 30 #[.agg #[.int .i64 el.k, .int .i64 el.b, .int .i64 el.n, cv]] w fun e w' => Is (elemOk el) e ∧ Below w.heap.size w w' := by
  by_cases hg : 0 ≤ el.b ∧ el.b ≤ 1000 ∧ 0 ≤ el.n ∧ el.n ≤ 1000 ∧ el.c.length ≤ 20
  · exact element_loop el cv w h hg.1 hg.2.1 hg.2.2.1 hg.2.2.2.1 hg.2.2.2.2
  · obtain ⟨A, cap, rfl⟩ := h.form
    have hcase : (el.b < 0) ∨ (0 ≤ el.b ∧ 1000 < el.b) ∨ (0 ≤ el.b ∧ el.b ≤ 1000 ∧ el.n < 0) ∨ (0 ≤ el.b ∧ el.b ≤ 1000 ∧ 0 ≤ el.n ∧ 1000 < el.n) ∨ (0 ≤ el.b ∧ el.b ≤ 1000 ∧ 0 ≤ el.n ∧ el.n ≤ 1000 ∧ 20 < el.c.length) := by omega
    have hno : elemOk el = false := by unfold elemOk; rw [decide_eq_false hg]; rfl
    have HN := Lib.hid hno
    clear hno
    clear hg h
    generalize el.c.length = n at *
    generalize el.b = b at *
    generalize el.n = m at *
    rcases hcase with h1 | ⟨h1, h2⟩ | ⟨h1, h2, h3⟩ | ⟨h1, h2, h3, h4⟩ | ⟨h1, h2, h3, h4, h5⟩
    · have d1 : decide (b < 0) = true := decide_eq_true h1
      go_enter Try.func30, Try.ntmps30
      go_wp2
      go_ret
      exact ⟨is_of HN.out, (Below.refl _ _).alloc (Nat.le_refl _) _⟩
    · have d1 : decide (b < 0) = false := decide_eq_false (by omega)
      have d2 : decide (1000 < b) = true := decide_eq_true h2
      go_enter Try.func30, Try.ntmps30
      go_wp2
      go_ret
      exact ⟨is_of HN.out, (Below.refl _ _).alloc (Nat.le_refl _) _⟩
    · have d1 : decide (b < 0) = false := decide_eq_false (by omega)
      have d2 : decide (1000 < b) = false := decide_eq_false (by omega)
      have d3 : decide (m < 0) = true := decide_eq_true h3
      go_enter Try.func30, Try.ntmps30
      go_wp2
      go_ret
      exact ⟨is_of HN.out, (Below.refl _ _).alloc (Nat.le_refl _) _⟩
    · have d1 : decide (b < 0) = false := decide_eq_false (by omega)
      have d2 : decide (1000 < b) = false := decide_eq_false (by omega)
      have d3 : decide (m < 0) = false := decide_eq_false (by omega)
      have d4 : decide (1000 < m) = true := decide_eq_true h4
      go_enter Try.func30, Try.ntmps30
      go_wp2
      go_ret
      exact ⟨is_of HN.out, (Below.refl _ _).alloc (Nat.le_refl _) _⟩
    · have d1 : decide (b < 0) = false := decide_eq_false (by omega)
      have d2 : decide (1000 < b) = false := decide_eq_false (by omega)
      have d3 : decide (m < 0) = false := decide_eq_false (by omega)
      have d4 : decide (1000 < m) = false := decide_eq_false (by omega)
      have d5 : decide ((20 : Int) < (n : Int)) = true := decide_eq_true (by omega)
      go_enter Try.func30, Try.ntmps30
      go_wp2
      go_ret
      exact ⟨is_of HN.out, (Below.refl _ _).alloc (Nat.le_refl _) _⟩
/-- An element may follow another one, by their kinds. -/
def follow (a b : Int) : Bool := if b == 0 then a == 1 else if b == 2 then a != 1 else true
theorem follows_any (a b : El) (va vb : Value) (w : World) (ha : Strs w va a.c) (hb : Strs w vb b.c) :
    Calls Try.prog 31 #[.agg #[.int .i64 a.k, .int .i64 a.b, .int .i64 a.n, va], .agg #[.int .i64 b.k, .int .i64 b.b, .int .i64 b.n, vb]] w fun e w' => e = .returned (.bool (follow a.k b.k)) ∧ Below w.heap.size w w' := by
  obtain ⟨A, cap, rfl⟩ := ha.form
  obtain ⟨B, cbp, rfl⟩ := hb.form
  clear ha hb
  generalize hf : follow a.k b.k = f
  have HF := Lib.hid hf
  unfold follow at hf
  generalize a.k = x at *
  generalize b.k = y at *
  have hbelow : ∀ o1 o2 : Obj, Below w.heap.size w ((w.alloc o1).alloc o2) := fun o1 o2 => ((Below.refl _ _).alloc (Nat.le_refl _) _).alloc (by simp) _
  have HB := Lib.hid hbelow
  clear hbelow
  cases h0 : (y == 0)
  · cases h2 : (y == 2)
    · rw [h0, h2] at hf
      have HH := Lib.hid hf
      clear hf
      go_enter Try.func31, Try.ntmps31
      go_wp2
      go_ret
      exact ⟨by rw [← HH.out]; rfl, HB.out _ _⟩
    · rw [h0, h2] at hf
      have HH := Lib.hid hf
      clear hf
      go_enter Try.func31, Try.ntmps31
      go_wp2
      go_ret
      exact ⟨by rw [← HH.out]; rfl, HB.out _ _⟩
  · rw [h0] at hf
    have HH := Lib.hid hf
    clear hf
    go_enter Try.func31, Try.ntmps31
    go_wp2
    go_ret
    exact ⟨by rw [← HH.out]; rfl, HB.out _ _⟩
end Go.Proofs.Ytfdkgaipakannaa.split

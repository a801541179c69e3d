/- FnStepsTwice: sameSeen7 by contract. -/
import Derived.Test.YtincgkolpicipaaDoorSt19
import Derived.Deep.RegionWith
namespace Go.Proofs.YtincgkolpicipaaDoor.twice
open Go.RowKit
theorem ints_cell {W : World} {A : Option Addr} {n c : Nat} {xs : List Int} (h : Ints W (.slice A n c) xs) {i : Nat} {z : Int} (hz : xs[i]? = some z) : ∃ q o, A = some ⟨q, o, none⟩ ∧ W.cell? ⟨q, o + i, none⟩ = some (.int .i64 z) := by
  obtain ⟨A', c', hv, _, hc⟩ := h
  injection hv with hA
  obtain ⟨q, o, e, hx⟩ := hc i z hz
  exact ⟨q, o, hA.trans e, hx⟩
theorem both_seen {W : World} {F : Vw} {ss ss2 : List (List UInt8)} {v1 v2 v3 v4 : Value} (hn1 : ss.Nodup) (hm1 : ∀ x, x ∈ ss ↔ (F x).isSome = true) (hn2 : ss2.Nodup) (hm2 : ∀ x, x ∈ ss2 ↔ (F x).isSome = true) (h1 : Strs W v1 (ss.mergeSort leB)) (h2 : Ints W v2 ((ss.mergeSort leB).map fun x => seenI ((F x).getD 0))) (h3 : Strs W v3 (ss2.mergeSort leB)) (h4 : Ints W v4 ((ss2.mergeSort leB).map fun x => seenI ((F x).getD 0))) :
    ∃ (ts : List (List UInt8)) (hs : List Int) (m : Nat), ts.length = m ∧ hs.length = m ∧ Strs W v1 ts ∧ Ints W v2 hs ∧ Strs W v3 ts ∧ Ints W v4 hs := by
  rw [← keys_same hn1 hm1 hn2 hm2] at h3 h4
  exact ⟨_, _, _, rfl, by simp, h1, h2, h3, h4⟩
set_option maxRecDepth 100000 in
set_option maxHeartbeats 8000000 in
theorem sameSeen_any (va vb : Value) (es fs : List Sp) (w : World) (ha : Sps w va es) (hb : Sps w vb fs) (h1 : Okay es) (h2 : Okay fs) (hF : objF es = objF fs) : Calls Tryd.prog 6 #[va, vb] w fun e w' => e = .returned (.bool true) ∧ Below w.heap.size w w' := by
  have HA := Lib.hid (visible_any va es w ha h1)
  have HB := Lib.hid (fun W (hw : Below w.heap.size w W) => visible_any vb fs W (hb.later hw) h2)
  rw [hF] at HA
  clear ha hb h1 h2 hF
  generalize objF fs = F at *
  go_enter Tryd.func6, Tryd.ntmps6
  go_wp2_with (first
    | (with_reducible refine HA.out.mono ?_; rintro e w1 ⟨vl, vh, rfl, hb1, ss, hn1, hm1, hs1, hi1⟩; have HB1 := Lib.hid hb1; have HX1 := Lib.hid (And.intro hn1 (And.intro hm1 (And.intro hs1 hi1))); clear hb1 hn1 hm1 hs1 hi1)
    | (with_reducible refine (HB.out _ HB1.out).mono ?_; rintro e w2 ⟨vl2, vh2, rfl, hb2, ss2, hn2, hm2, hs2, hi2⟩
       have HB2 := Lib.hid (step_after HB1.out hb2)
       obtain ⟨ts, hs, m, e1, e2, q1, q2, q3, q4⟩ := both_seen HX1.out.1 HX1.out.2.1 hn2 hm2 (HX1.out.2.2.1.later hb2) (HX1.out.2.2.2.later hb2) hs2 hi2
       obtain ⟨A1, c1, rfl⟩ := q1.form
       obtain ⟨A2, c2, rfl⟩ := q2.form
       obtain ⟨A3, c3, rfl⟩ := q3.form
       obtain ⟨A4, c4, rfl⟩ := q4.form
       have HNM := Lib.hid (names_any _ _ ts w2 q1 q3)
       have Q2 := Lib.hid q2
       have Q4 := Lib.hid q4
       have HTL := Lib.hid e1
       have HHL := Lib.hid e2
       rw [e1] at HNM ⊢
       rw [e2] at Q2 Q4 ⊢
       clear hb2 hn2 hm2 hs2 hi2 e1 e2 q1 q2 q3 q4)
    | (go_at_call 11; refine HNM.out.mono ?_; rintro e w3 ⟨rfl, hb3⟩; have HB3 := Lib.hid hb3; have R2 := Lib.hid (Q2.out.later hb3); have R4 := Lib.hid (Q4.out.later hb3); clear hb3))
  have g1 : m ≤ 9223372036854775807 := by
    obtain ⟨_, _, _, h, _⟩ := R2.out
    rw [HHL.out] at h; exact h
  go_loopw [11] (fun i wr => ∃ k q : Nat, k ≤ m ∧ i = .int .i64 k ∧ wr = w3.drewN q) (fun i _ => m - (intOf i).toNat)
  case atStart => exact ⟨0, 0, Nat.zero_le _, rfl, rfl⟩
  case round =>
    obtain ⟨k, nq, hk, rfl, rfl⟩ := hrel
    by_cases hlt : k < m
    · obtain ⟨z, hz⟩ : ∃ z, hs[k]? = some z := ⟨_, List.getElem?_eq_getElem (by have := HHL.out; omega)⟩
      obtain ⟨q, o, rfl, x1⟩ := ints_cell R2.out hz
      obtain ⟨q', o', rfl, x2⟩ := ints_cell R4.out hz
      have hki : (k : Int) < (m : Int) := by omega
      clear hz
      cases hz1 : (z == 1)
      · go_wp2
        go_quiet (fail)
        go_wp2
        exact ⟨⟨k + 1, _, by omega, by go_num, rfl⟩, by simp [intOf]; omega⟩
      · go_wp2
        go_quiet (fail)
        go_wp2
        exact ⟨⟨k + 1, _, by omega, by go_num, rfl⟩, by simp [intOf]; omega⟩
    · have hki : ¬ (k : Int) < (m : Int) := by omega
      go_wp2
      go_returns
      exact ⟨rfl, step_after (step_after HB2.out HB3.out) (drewN_below _ _)⟩
end Go.Proofs.YtincgkolpicipaaDoor.twice

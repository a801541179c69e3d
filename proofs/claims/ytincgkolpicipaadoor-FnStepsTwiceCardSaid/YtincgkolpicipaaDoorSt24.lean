/- FnStepsTwice: fewSteps by contract. -/
import Derived.Test.YtincgkolpicipaaDoorSt23
namespace Go.Proofs.YtincgkolpicipaaDoor.twice
open Go.RowKit
/-- A truth value; where it is true, the steps are few, and steps. -/
def FewD (es : List Sp) (e : Ending) : Prop := ∃ b : Bool, e = .returned (.bool b) ∧ (b = true → es.length ≤ 12 ∧ Okay es)
set_option maxRecDepth 100000 in
set_option maxHeartbeats 8000000 in
theorem fewSteps_any (v : Value) (es : List Sp) (w : World) (h : Sps w v es) (hT : Tabs w) : Calls Tryd.prog 5 #[v] w fun e w' => FewD es e ∧ Below w.heap.size w w' := by
  have HOK := Lib.hid (stepsOK_any v es w h hT)
  obtain ⟨A, cap, rfl, hcp, hl, hc⟩ := h
  have HC := Lib.hid hc
  clear hc hcp hT
  generalize hn : es.length = n at *
  have HN := Lib.hid hn
  clear hn
  go_enter Tryd.func5, Tryd.ntmps5
  go_wp2_with fail
  go_loop [3] (fun i => ∃ k : Nat, k ≤ n ∧ i = .int .i64 k ∧ Hid (∀ (i : Nat) (s : Sp), i < k → es[i]? = some s → s.names.length ≤ 12)) (fun i => n - (intOf i).toNat)
  case atStart => exact ⟨0, Nat.zero_le _, rfl, fun i s h => by omega⟩
  case round =>
    obtain ⟨k, hk, rfl, hall⟩ := hrel
    by_cases hlt : k < n
    · obtain ⟨s, hs⟩ : ∃ s, es[k]? = some s := ⟨_, List.getElem?_eq_getElem (by have := HN.out; omega)⟩
      obtain ⟨q, o, rfl, -, -, -, nv, hv, c2, -, hst, -⟩ := HC.out k s hs
      obtain ⟨A2, cap2, rfl⟩ := hst.form
      have hki : (k : Int) < (n : Int) := by omega
      have HSS := Lib.hid hs
      clear hs hst
      by_cases h12 : s.names.length ≤ 12
      · have d1 : decide ((12 : Int) < (s.names.length : Int)) = false := decide_eq_false (by omega)
        have HJ := Lib.hid (show ∀ (i : Nat) (s' : Sp), i < k + 1 → es[i]? = some s' → s'.names.length ≤ 12 from fun i s' hi hs' => by
          by_cases e : i = k
          · subst e; rw [HSS.out] at hs'; cases hs'; exact h12
          · exact hall.out i s' (by omega) hs')
        clear h12
        go_wp2
        go_round
        case rel => exact ⟨k + 1, by omega, by go_num, HJ.out⟩
        case measure => simp [intOf]; omega
      · have d1 : decide ((12 : Int) < (s.names.length : Int)) = true := decide_eq_true (by omega)
        clear h12
        go_wp2
        go_returns
        exact ⟨⟨false, rfl, fun h => by cases h⟩, Below.refl _ _⟩
    · have hki : ¬ (k : Int) < (n : Int) := by omega
      have HA := Lib.hid (show ∀ (i : Nat) (s : Sp), es[i]? = some s → s.names.length ≤ 12 from fun i s hs => hall.out i s (by have h1 := (List.getElem?_eq_some_iff.1 hs).1; have h2 := HN.out; omega) hs)
      by_cases h12 : n ≤ 12
      · have d1 : decide ((n : Int) ≤ 12) = true := decide_eq_true (by omega)
        have HL := Lib.hid h12
        clear h12
        go_wp2_with (go_at_call 9; refine HOK.out.mono ?_; rintro e w1 ⟨⟨b, rfl, hb⟩, hb1⟩; have HB := Lib.hid hb; have HB1 := Lib.hid hb1; clear hb hb1)
        go_returns
        exact ⟨⟨b, rfl, fun h => ⟨by rw [HN.out]; exact HL.out, by rw [HN.out]; have := HL.out; omega, fun i s hs => ⟨(HB.out h i s hs).1, HA.out i s hs, (HB.out h i s hs).2⟩⟩⟩, HB1.out⟩
      · have d1 : decide ((n : Int) ≤ 12) = false := decide_eq_false (by omega)
        clear h12
        go_wp2
        go_returns
        exact ⟨⟨false, rfl, fun h => by cases h⟩, Below.refl _ _⟩
end Go.Proofs.YtincgkolpicipaaDoor.twice

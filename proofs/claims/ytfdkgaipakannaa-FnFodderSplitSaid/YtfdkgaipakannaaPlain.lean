/- laws.plainComments says true only of good fodder. -/
import Derived.Test.YtfdkgaipakannaaFod
namespace Go.Proofs.Ytfdkgaipakannaa.split
open Go.RowKit
set_option maxHeartbeats 2000000 in
theorem plain_any (v : Value) (es : List El) (w : World) (h : Els w v es) : Calls Try.prog 11 #[v] w fun e w' => OnlyIf (Good es) e ∧ Below w.heap.size w w' := by
  have HF := Lib.hid (fodder_any v es w h)
  obtain ⟨A, cap, rfl, hl, hc⟩ := h
  have HC := Lib.hid hc
  clear hc
  generalize hn : es.length = n at hl HF ⊢
  have HN := Lib.hid hn
  clear hn
  go_enter Try.func11, Try.ntmps11
  go_wp2
  go_loop [3, 4] (fun i j => ∃ k : Nat, k ≤ n ∧ i = .int .i64 k) (fun i _ => n - (intOf i).toNat)
  case atStart => exact ⟨0, Nat.zero_le _, rfl⟩
  case round =>
    obtain ⟨k, hk, rfl⟩ := hrel
    by_cases hlt : k < n
    · obtain ⟨s, hs⟩ : ∃ s, es[k]? = some s := ⟨_, List.getElem?_eq_getElem (by have := HN.out; omega)⟩
      obtain ⟨q, o, rfl, hcell⟩ := HC.out k s hs
      obtain ⟨c0, c1, c2, cv, c3, hst⟩ := hcell
      obtain ⟨A2, cap2, rfl, hl2, hc2⟩ := hst
      have HC2 := Lib.hid hc2
      have hki : (k : Int) < (n : Int) := by omega
      clear hs hc2 c0 c1 c2
      generalize hm : s.c.length = m at *
      have HM := Lib.hid hm
      clear hm
      go_wp2
      go_loop [4] (fun j => ∃ l : Nat, l ≤ m ∧ j = .int .i64 l) (fun j => m - (intOf j).toNat)
      case atStart => exact ⟨0, Nat.zero_le _, rfl⟩
      case round =>
        obtain ⟨l, hlm, rfl⟩ := hrel
        by_cases hlt2 : l < m
        · obtain ⟨t, ht⟩ : ∃ t, s.c[l]? = some t := ⟨_, List.getElem?_eq_getElem (by have := HM.out; omega)⟩
          obtain ⟨hz, q2, o2, rfl, hcell2⟩ := HC2.out l t ht
          have hli : (l : Int) < (m : Int) := by omega
          have HFE := Lib.hid (feeds_any t hz w)
          clear ht hz
          cases he : t.toList.isEmpty
          · have he2 : (t.toList == []) = false := by cases h : t.toList with
              | nil => rw [h] at he; cases he
              | cons a r => rfl
            go_wp2_with (go_at_call 20; refine HFE.out.mono ?_; rintro e w' ⟨⟨z, rfl⟩, rfl⟩)
            · go_ret
              exact ⟨OnlyIf.no, Below.refl _ _⟩
            · exact ⟨⟨l + 1, by omega, by go_num⟩, by simp [intOf]; omega⟩
          · have he2 : (t.toList == []) = true := by cases h : t.toList with
              | nil => rfl
              | cons a r => rw [h] at he; cases he
            go_wp2
            go_ret
            exact ⟨OnlyIf.no, Below.refl _ _⟩
        · have hli : ¬ (l : Int) < (m : Int) := by omega
          go_wp2
          exact ⟨⟨k + 1, by omega, by go_num⟩, by simp [intOf]; omega⟩
    · have hki : ¬ (k : Int) < (n : Int) := by omega
      go_wp2_with (go_at_call 21; refine HF.out.mono ?_; rintro e w' ⟨⟨b, rfl, hb⟩, hbw⟩; have HB := Lib.hid hb; have HBW := Lib.hid hbw; clear hb hbw)
      go_ret
      exact ⟨⟨_, rfl, HB.out⟩, HBW.out⟩
end Go.Proofs.Ytfdkgaipakannaa.split

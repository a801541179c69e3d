/- FnJoinedExact: strings added one after the other, from the left or from the right, are their code points one behind the other, and have as many. -/
import Derived.Test.YtjnlgefcpmppmaaParts
import Derived.Test.YtjnlgefcpmppmaaLawKit
import Derived.SliceStrings
import Derived.ProofKit
import Derived.OpenShut
import Derived.Deep.DeepHandedRow
import Derived.SizedLaws
namespace Go.Proofs.Ytjnlgefcpmppmaa.joined
open Go.ChangeShapes Go.WideShapes Go.ChangeAt Go.RowKit Go.Proofs.Ytjnlgefcpmppmaa.utf
theorem scalars {ss : List ByteArray} {us : List (List Nat)} (h : Pts ss us) : ∀ r ∈ us.flatten, Scalar r := by
  intro r hr
  obtain ⟨l, hl, hrl⟩ := List.mem_flatten.1 hr
  obtain ⟨j, hj, e⟩ := List.getElem_of_mem hl
  have hc := h.2 j (by rw [← h.1]; exact hj)
  rw [show us.getD j [] = l by simp [List.getD, List.getElem?_eq_getElem hj, e]] at hc
  exact hc.scalar r hrl
set_option maxRecDepth 100000 in
theorem walk (arg : Value) (right : Bool) (ss : List ByteArray) (w : World) (hF : Calls Try.prog 5 #[arg] w (Looked w)) (hL : Calls Try.prog 6 #[arg] w (L9 ss w))
    (hJ : ∀ w' us, Below w.heap.size w w' → Pts ss us → us.flatten.length ≤ 8000 → ss.length ≤ 200 → Calls Try.prog 20 #[arg, .bool right] w' (Makes w'.heap.size w' us.flatten)) :
    Calls Try.prog 3 #[arg, .bool right] w (Just (.bool true) w) := by
  have HF := Lib.hid hF
  have HL := Lib.hid hL
  have HJ := Lib.hid hJ
  clear hF hL hJ
  go_enter Try.func3, Try.ntmps3
  go_wp2_with fail
  refine HF.out.mono ?_
  rintro e w' ⟨⟨b, rfl⟩, rfl⟩
  cases b
  · go_wp2_with fail
    go_ret
    exact ⟨rfl, Below.refl _ _⟩
  · go_wp2_with fail
    refine HL.out.mono ?_
    rintro e w1 ⟨hb1, h⟩
    have HB1 := Lib.hid hb1
    clear hb1
    rcases h with ⟨v, rfl⟩ | ⟨v, us, rfl, hp, hi, h8, h200⟩
    · go_wp2_with fail
      go_ret
      exact ⟨rfl, HB1.out⟩
    · have HS := Lib.hid (scalars hp)
      have HT := Lib.hid (text_any arg right us.flatten w1 (HJ.out w1 us HB1.out hp h8 h200) (by omega) HS.out)
      have HI := Lib.hid hi
      generalize us.flatten = u at *
      have hu : ∃ o n c, v = .slice o n c ∧ n = u.length := by
        rcases hi with ⟨h1, h2⟩ | ⟨g, n, c, h1, h2, _⟩
        · exact ⟨none, 0, 0, h1, by rw [h2]; rfl⟩
        · exact ⟨_, n, c, h1, h2⟩
      obtain ⟨o, n, c, rfl, hn⟩ := hu
      have HN := Lib.hid hn
      have h9 : u.length ≤ 1000000 := by omega
      have H9 := Lib.hid h9
      clear hi hn hp h8 h200 h9
      go_wp2_with fail
      refine HT.out.mono ?_
      rintro e w2 ⟨rfl, hb2⟩
      have HI2 := Lib.hid (HI.out.keep hb2)
      have HB2 := Lib.hid (HB1.out.trans (hb2.mono HB1.out.size))
      clear hb2 HI HB1 HT
      rw [← HN.out]
      go_wp2_with fail
      refine (of_units _ u w2 HI2.out HS.out H9.out).mono ?_
      rintro e w3 ⟨rfl, hb3⟩
      have HB3 := Lib.hid (HB2.out.trans (hb3.mono HB2.out.size))
      clear hb3 HB2 HI2
      generalize txt u = t
      go_wp2_with fail
      refine (text_eq w3).mono ?_
      rintro e w4 ⟨rfl, hb4⟩
      have HB4 := Lib.hid (HB3.out.trans (hb4.mono HB3.out.size))
      clear hb4 HB3
      go_wp2_with fail
      go_ret
      exact ⟨rfl, HB4.out⟩
theorem take_getD (ss : List ByteArray) (n j : Nat) (h : j < n) : (ss.take n).getD j ByteArray.empty = ss.getD j ByteArray.empty := by simp [List.getD, List.getElem?_take_of_lt h]
theorem own : ownKnob Try.prog.godebug = none := by kernel_rfl
theorem laidOut : laidOutB Try.prog = true := by kernel_rfl
theorem cells9 : Try.prog.cellsOf 9 = 1 := by kernel_rfl
/-- The law at every slice of strings. -/
theorem all (b off n c : Nat) (ss : List ByteArray) (right : Bool) (W : World) (hn : n = ss.length) (hS : Strs W b off ss) (hz : ∀ j, j < ss.length → (ss.getD j ByteArray.empty).size ≤ 9223372036854775807) (hn2 : n ≤ 9223372036854775807) :
    Calls Try.prog 3 #[.slice (some ⟨b, off, none⟩) n c, .bool right] W (Just (.bool true) W) := by
  refine walk _ right ss W (fits_some b off n c ss W hn hS hz hn2) ?_ ?_
  · by_cases h : n ≤ 200
    · exact lists_some b off n c ss W hn hS hz h
    · exact lists_many _ n c ss W (by omega) hn2
  · intro w' us hb hp h8 h200
    cases right
    · exact left_any b off n c ss us w' hn (hS.keep hb) hp (by omega) (by omega)
    · exact right_any b off n c ss us w' hn (hS.keep hb) hp (by omega) (by omega)
theorem all_none (o : Option Addr) (c : Nat) (right : Bool) (W : World) : Calls Try.prog 3 #[.slice o 0 c, .bool right] W (Just (.bool true) W) := by
  refine walk _ right [] W (fits_none o c W) (lists_none o c W) ?_
  intro w' us _ hp _ _
  obtain rfl : us = [] := List.eq_nil_of_length_eq_zero hp.1
  exact joined_none o c right w'
set_option maxRecDepth 100000 in
theorem lifted (os : Os) (started : os.Started) (H : Type) (enc : TypeId × Value → H) :
    ReturnsInHanded {} Try.checked os 3 .any (Rows.fnJoinedExactSpec.pre6 enc Try.prog Try.f3 [] false) (Rows.fnJoinedExactSpec.post enc Try.prog Try.f3 false true false false) := by
  refine LawKit.law_lifted (C := Try.checked) own started (by kernel_rfl) Try.func3
    (ChangeSpec.witness6 (enc := enc) (C := Try.checked) false ⟨#[], #[.slice none 0 0, .bool false], []⟩ 8 (by kernel_rfl) (by kernel_rfl) (by kernel_rfl) (by kernel_rfl))
    laidOut (by kernel_rfl) rfl (by kernel_rfl) Try.underlying4 ?_ ?_
  · intro ds hl
    have hl' : ds.length = 2 := hl
    obtain ⟨a, b, rfl⟩ : ∃ a b, ds = [a, b] := by
      match ds, hl' with
      | [a, b], _ => exact ⟨a, b, rfl⟩
    exact ⟨rfl, rfl, rfl⟩
  · intro W base args ds before hval0 hA0 _ _
    have hval : ∀ (j : Nat) t v, Try.f3.params[j]? = some t → args[j]? = some v → Value.okWide Try.prog W .any base t v := hval0
    have hA : DataW.TrodAll enc Try.prog W 0 (fun _ => true) true Try.f3.params.toList args.toList ds before := hA0
    rw [Try.params3] at hA hval
    obtain ⟨v0, v1, d0, d1, p0, p1, rfl, rfl, rfl, h0, h1⟩ := trodAll_two hA
    obtain ⟨right, rfl, rfl, rfl⟩ := open_bool Try.underlying4 (hval 1 4 v1 rfl rfl) h1
    obtain ⟨a0, len, cap, rfl⟩ := okWide_slice Try.underlying22 (hval 0 22 v0 rfl rfl)
    obtain ⟨fuel, hf⟩ := h0
    rcases open_strings Try.underlying22 Try.underlying9 cells9 hf with ⟨hcs, hx⟩ | ⟨a, len', cap', ss, hcs, _, hl, hm, hz, hx, hcell, hws⟩
    · simp [Value.cells] at hcs
      obtain ⟨rfl, rfl, rfl⟩ := hcs
      exact all_none none 0 right W
    · simp [Value.cells] at hcs
      obtain ⟨rfl, rfl, rfl⟩ := hcs
      simp only [if_true] at hz
      by_cases hl0 : len = 0
      · subst hl0
        exact all_none (some a) cap right W
      · obtain ⟨b, off, spot⟩ := a
        have hspot : spot = none := by simpa [Addr.add] using World.cell?_spot (hcell 0 (by omega))
        subst hspot
        have ht : (ss.take len).length = len := by rw [List.length_take]; omega
        refine all b off len cap (ss.take len) right W ht.symm (fun j hj => ?_) (fun j hj => ?_) (by unfold maxLen at hm; omega)
        · rw [ht] at hj
          rw [take_getD ss len j hj, ← Addr.add_lit]
          exact hcell j (by omega)
        · rw [ht] at hj
          rw [take_getD ss len j hj]
          have := hws (ss.getD j ByteArray.empty) (by rw [show ss.getD j ByteArray.empty = ss[j]'(by omega) by simp [List.getD, List.getElem?_eq_getElem (show j < ss.length by omega)]]; exact List.getElem_mem _)
          unfold maxLen at this
          omega
theorem holds : Rows.FnJoinedExactSaid :=
  OpenClaim.holds_of_wide 3 Try.f3 rfl rfl rfl rfl rfl rfl rfl ⟨rfl, rfl, rfl, rfl, rfl⟩ rfl rfl rfl rfl rfl (by kernel_rfl) Try.func3 (by kernel_rfl)
    (of_decide_eq_true (by kernel_rfl)) (by unfold Func.isWrapper; first | (rw [if_pos (by decide +kernel)]; kernel_rfl) | (rw [if_neg (by decide +kernel)]; exact ⟨rfl, rfl⟩))
    (fun os started H enc _ => lifted os started H enc)
end Go.Proofs.Ytjnlgefcpmppmaa.joined

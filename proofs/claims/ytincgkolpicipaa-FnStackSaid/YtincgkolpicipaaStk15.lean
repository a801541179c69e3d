/- FnStack: lookUpVar by contract. -/
import Derived.Test.YtincgkolpicipaaStk14
namespace Go.Proofs.Ytincgkolpicipaa.stack
open Go.RowKit
theorem ptrR_int {v : Value} {g : Nat} {ps : List MemPlace} (h : ptrR v = some (.lit (.int .i64 g), ps)) : v = .pointer (some ⟨g, 0, none⟩) := by
  unfold ptrR at h
  split at h
  · cases h
  · rename_i g'
    injection h with h
    injection h with h1 h2
    injection h1 with h1
    injection h1 with _ h1
    have : g' = g := by omega
    rw [this]
  · cases h
theorem map_look {W : World} {mb : Nat} {names : List ByteArray} {i : Int} (hm : MapOk W mb names i) (s : ByteArray) (hs : s.size ≤ maxLen) :
    ∃ v, (Instr.lookup 91 (.map (some mb)) (.string s) true).run Try.prog W = .ok (.tuple #[v, .bool (placeTo names s)]) W ∧ (placeTo names s = true → ∃ g, v = .pointer (some ⟨g, 0, none⟩) ∧ ThunkAt W g i) := by
  obtain ⟨D, d1, d2, d3⟩ := hm.own
  obtain ⟨v, q, h1, h2⟩ := World.ownsMap.look_ok d1 (Maps.string_keyed Try.underlying104) Try.underlying91 (z := .pointer none) (by kernel_rfl) (zd := .lit (.bool false)) (zp := []) rfl (key := .string s) (WideMaps.keyOf_string_mk Try.underlying104 hs)
  refine ⟨v, ?_, fun h => ?_⟩
  · rw [h1]
    have := d2 s
    unfold keyS at this
    rw [this]
  · obtain ⟨g, e, ht⟩ := d3 s h
    have e1 := e (.lit (.bool false))
    unfold keyS at e1
    rw [e1] at h2
    exact ⟨g, ptrR_int h2, ht⟩
/-- What a question is told. -/
def Told (W : World) (r : Int) (e : Ending) : Prop := (e = .returned (.pointer none) ∧ r = -1) ∨ ∃ g, e = .returned (.pointer (some ⟨g, 0, none⟩)) ∧ ThunkAt W g r
set_option maxRecDepth 100000 in
set_option maxHeartbeats 8000000 in
theorem lookUp_any (B g : Nat) (t0 t1 sl : Value) (n m : Int) (ps : List (Nat × Fr)) (s : ByteArray) (w : World) (h : Cs w g t0 t1 sl n m) (ho : StkO w B sl ps) (hl : ps.length ≤ 200) (hs : s.size ≤ maxLen) :
    Calls Try.prog 50 #[.pointer (some ⟨g, 0, none⟩), .string s] w fun e w' => Told w (lookTo (ps.map (·.2)) s ps.length) e ∧ w' = w := by
  obtain ⟨A, cap, rfl, hcap, -, hA⟩ := owns_form ho.own
  have c2 : w.cell? ⟨g, 2, none⟩ = some (.slice A ps.length cap) := h.at 2
  have HA := Lib.hid hA
  have H := Lib.hid h
  have HO := Lib.hid ho
  have HS := Lib.hid hs
  clear h ho hA hs
  generalize hr : lookTo (ps.map (·.2)) s ps.length = r
  have HRR := Lib.hid hr
  clear hr
  generalize hk : ps.length = k at *
  have HK := Lib.hid hk
  clear hk
  go_enter Try.func50, Try.ntmps50
  go_wp2_with fail
  go_loop [5, 6, 7] (fun i _ _ => ∃ j : Nat, j ≤ k ∧ i = .int .i64 ((j : Int) - 1) ∧ Hid (lookTo (ps.map (·.2)) s j = r)) (fun i _ _ => (intOf i + 1).toNat)
  case atStart => exact ⟨k, Nat.le_refl _, by go_num, HRR.out⟩
  case round =>
    obtain ⟨j, hj, rfl, hz⟩ := hrel
    rcases j with _ | j
    · have HR := Lib.hid (show (-1 : Int) = r from hz.out)
      go_wp2_with fail
      go_returns
      exact ⟨.inl ⟨rfl, HR.out.symm⟩, rfl⟩
    · obtain ⟨p, hp⟩ : ∃ p, ps[j]? = some p := ⟨_, List.getElem?_eq_getElem (by have := HK.out; omega)⟩
      obtain ⟨gs, rfl⟩ := HA.out (by omega)
      obtain ⟨-, d1, d5, -, mb, d2, hmo⟩ := frame_cells HK.out H.out HO.out hp
      have hki : (j : Int) < (k : Int) := by omega
      have hk1 : (((j + 1 : Nat) : Int) - 1) = (j : Int) := by omega
      rw [hk1]
      have HT := Lib.hid (show (if placeTo p.2.names s then p.2.step else if p.2.call then -1 else lookTo (ps.map (·.2)) s j) = r by
        have := hz.out
        rw [lookTo, List.getElem?_map, hp] at this; exact this)
      obtain ⟨v, hrun, hv⟩ := map_look hmo s HS.out
      clear hp hz hk1 hmo
      generalize placeTo p.2.names s = pb at hrun hv HT
      generalize p.2.call = cb at d5 HT
      cases pb
      · have HT2 := Lib.hid (show (if cb = true then -1 else lookTo (ps.map (·.2)) s j) = r from HT.out)
        clear HT hv
        cases cb
        · go_wp2_with fail
          go_round
          case rel => exact ⟨j, by omega, rfl, HT2.out⟩
          case measure => simp [intOf]
        · go_wp2_with fail
          go_returns
          exact ⟨.inl ⟨rfl, HT2.out.symm⟩, rfl⟩
      · obtain ⟨q, rfl, ht⟩ := hv rfl
        have HTH := Lib.hid ht
        have HT2 := Lib.hid (show p.2.step = r from HT.out)
        clear hv HT ht
        go_wp2_with fail
        go_returns
        exact ⟨.inr ⟨_, rfl, by rw [← HT2.out]; exact HTH.out⟩, rfl⟩
end Go.Proofs.Ytincgkolpicipaa.stack

/- FnStack: tailCallTrimStack by contract. -/
import Derived.Test.YtincgkolpicipaaStk13
namespace Go.Proofs.Ytincgkolpicipaa.stack
open Go.RowKit
/-- The cells that a look at frame k reads. -/
theorem frame_cells {W : World} {B g gs cap k n : Nat} {t0 t1 : Value} {c m : Int} {ps : List (Nat × Fr)} {p : Nat × Fr} (hn : ps.length = n) (h : Cs W g t0 t1 (.slice (some ⟨gs, 0, none⟩) n cap) c m) (ho : StkO W B (.slice (some ⟨gs, 0, none⟩) n cap) ps) (hp : ps[k]? = some p) :
    W.cell? ⟨g, 2, none⟩ = some (.slice (some ⟨gs, 0, none⟩) n cap) ∧ W.cell? ⟨gs, k, none⟩ = some (.pointer (some ⟨p.1, 0, none⟩)) ∧ W.cell? ⟨p.1, 5, none⟩ = some (.bool p.2.call) ∧ W.cell? ⟨p.1, 6, none⟩ = some (.bool p.2.trim) ∧ ∃ mb, W.cell? ⟨p.1, 2, none⟩ = some (.map (some mb)) ∧ MapOk W mb p.2.names p.2.step := by
  have hk : k < ps.length := (List.getElem?_eq_some_iff.1 hp).1
  obtain ⟨xa, xb, mb, zz, hfr, hmo⟩ := (ho.all p (List.mem_of_getElem? hp)).ex
  have h1 := ho.own
  rw [hn] at h1
  refine ⟨h.at 2, ?_, by simp [World.cell?, hfr], by simp [World.cell?, hfr], mb, by simp [World.cell?, hfr], hmo⟩
  rw [h1.cellAt _ (by omega)]
  simp [ptrs, List.getElem?_map, hp]
def trimTo (l : List Fr) : Bool := decide (0 ≤ topTo l l.length) && trimAt l (topTo l l.length)
/-- What a trim leaves. -/
structure TrimD (w W : World) (B g : Nat) (t0 t1 : Value) (n m : Int) (ps : List (Nat × Fr)) : Prop where
  ex : ∃ sl, Cs W g t0 t1 sl (if trimTo (ps.map (·.2)) then n - 1 else n) m ∧ StkO W B sl (if trimTo (ps.map (·.2)) then ps.take (topTo (ps.map (·.2)) ps.length).toNat else ps) ∧ Chg (fun k => k = g) w W
theorem trim_done {W : World} {B g gs cap k j : Nat} {t0 t1 : Value} {n m : Int} {ps : List (Nat × Fr)} {p : Nat × Fr} (hk : ps.length = k) (h : Cs W g t0 t1 (.slice (some ⟨gs, 0, none⟩) k cap) n m) (ho : StkO W B (.slice (some ⟨gs, 0, none⟩) k cap) ps) (hp : ps[j]? = some p) (ht : topTo (ps.map (·.2)) ps.length = j) (hf : p.2.trim = true) :
    TrimD W ((W.setCell ⟨g, 2, none⟩ (.slice (some ⟨gs, 0, none⟩) j cap)).setCell ⟨g, 3, none⟩ (.int .i64 (n - 1))) B g t0 t1 n m ps := by
  have hj : j < ps.length := (List.getElem?_eq_some_iff.1 hp).1
  have hb : trimTo (ps.map (·.2)) = true := by
    unfold trimTo trimAt
    rw [List.length_map, ht]
    simp [List.getElem?_map, hp, hf]
  have c5 : Chg (fun k => k = g) W (W.setCell ⟨g, 2, none⟩ (.slice (some ⟨gs, 0, none⟩) j cap)) := Chg.setCell (X := fun k => k = g) (p := ⟨g, 2, none⟩) (Chg.refl _ _) (fun _ => rfl) _
  have k5 := h.slice (.slice (some ⟨gs, 0, none⟩) j cap)
  have t5 := (StkO.take ho hk (by omega : j ≤ k)).chg c5 (soft_cs h) (cs_off h (StkO.take ho hk (by omega : j ≤ k)))
  have c6 : Chg (fun k => k = g) (W.setCell ⟨g, 2, none⟩ (.slice (some ⟨gs, 0, none⟩) j cap)) ((W.setCell ⟨g, 2, none⟩ (.slice (some ⟨gs, 0, none⟩) j cap)).setCell ⟨g, 3, none⟩ (.int .i64 (n - 1))) := Chg.setCell (X := fun k => k = g) (p := ⟨g, 3, none⟩) (Chg.refl _ _) (fun _ => rfl) _
  refine ⟨_, by rw [hb]; exact k5.count _, by rw [hb, ht]; exact t5.chg c6 (soft_cs k5) (cs_off k5 t5), c5.step c6 fun _ _ h => h⟩
theorem trim_none {W : World} {B g : Nat} {t0 t1 sl : Value} {n m : Int} {ps : List (Nat × Fr)} (h : Cs W g t0 t1 sl n m) (ho : StkO W B sl ps) (hb : trimTo (ps.map (·.2)) = false) : TrimD W W B g t0 t1 n m ps :=
  ⟨_, by rw [hb]; exact h, by rw [hb]; exact ho, Chg.refl _ _⟩
set_option maxRecDepth 100000 in
set_option maxHeartbeats 8000000 in
theorem trim_any (B g : Nat) (t0 t1 sl : Value) (n m : Int) (ps : List (Nat × Fr)) (w : World) (h : Cs w g t0 t1 sl n m) (ho : StkO w B sl ps) (hl : ps.length ≤ 200) (hn : 0 ≤ n ∧ n ≤ 201) :
    Calls Try.prog 49 #[.pointer (some ⟨g, 0, none⟩)] w fun e w' => e = .returned (.tuple #[]) ∧ TrimD w w' B g t0 t1 n m ps := by
  obtain ⟨A, cap, rfl, hcap, -, hA⟩ := owns_form ho.own
  have c2 : w.cell? ⟨g, 2, none⟩ = some (.slice A ps.length cap) := h.at 2
  have c3 : w.cell? ⟨g, 3, none⟩ = some (.int .i64 n) := h.at 3
  have f2 := h.free 2
  have f3 := h.free 3
  have HA := Lib.hid hA
  have H := Lib.hid h
  have HO := Lib.hid ho
  clear h ho hA
  generalize hk : ps.length = k at *
  have HK := Lib.hid hk
  clear hk
  go_enter Try.func49, Try.ntmps49
  go_wp2_with fail
  go_loop [2] (fun i => ∃ j : Nat, j ≤ k ∧ i = .int .i64 ((j : Int) - 1) ∧ Hid (topTo (ps.map (·.2)) k = topTo (ps.map (·.2)) j)) (fun i => (intOf i + 1).toNat)
  case atStart => exact ⟨k, Nat.le_refl _, by go_num, rfl⟩
  case round =>
    obtain ⟨j, hj, rfl, hz⟩ := hrel
    rcases j with _ | j
    · have HR := Lib.hid (trim_none H.out HO.out (by unfold trimTo; rw [List.length_map, HK.out, hz.out]; rfl))
      go_wp2_with fail
      go_returns
      exact ⟨rfl, HR.out⟩
    · obtain ⟨p, hp⟩ : ∃ p, ps[j]? = some p := ⟨_, List.getElem?_eq_getElem (by have := HK.out; omega)⟩
      obtain ⟨gs, rfl⟩ := HA.out (by omega)
      obtain ⟨-, d1, d5, d6, -⟩ := frame_cells HK.out H.out HO.out hp
      have hki : (j : Int) < (k : Int) := by omega
      have hk1 : (((j + 1 : Nat) : Int) - 1) = (j : Int) := by omega
      rw [hk1]
      have HT := Lib.hid (show topTo (ps.map (·.2)) k = (if p.2.call then (j : Int) else topTo (ps.map (·.2)) j) by
        rw [hz.out, topTo, List.getElem?_map, hp]; rfl)
      have HP := Lib.hid hp
      have HD := Lib.hid (fun (ht : topTo (ps.map (·.2)) k = j) (hf : p.2.trim = true) => trim_done HK.out H.out HO.out hp (by rw [HK.out]; exact ht) hf)
      have HE := Lib.hid (fun (ht : topTo (ps.map (·.2)) k = j) (hf : p.2.trim = false) => trim_none H.out HO.out (by
        unfold trimTo trimAt
        rw [List.length_map, HK.out, ht]
        simp [List.getElem?_map, hp, hf]))
      clear hp hz hk1
      have hjc : j ≤ cap := by omega
      generalize p.2.call = b at d5 HT
      generalize hf : p.2.trim = b2 at d6 HD HE
      have HFF := Lib.hid hf
      clear hf
      cases b
      · go_wp2_with fail
        go_round
        case rel => exact ⟨j, by omega, rfl, HT.out⟩
        case measure => simp [intOf]
      · have HT2 := Lib.hid (show topTo (ps.map (·.2)) k = j from HT.out)
        clear HT
        cases b2
        · have HR := Lib.hid (HE.out HT2.out rfl)
          clear HD HE
          go_wp2_with fail
          go_returns
          exact ⟨rfl, HR.out⟩
        · have HR := Lib.hid (HD.out HT2.out rfl)
          clear HD HE
          go_wp2_with fail
          go_returns
          exact ⟨rfl, HR.out⟩
end Go.Proofs.Ytincgkolpicipaa.stack

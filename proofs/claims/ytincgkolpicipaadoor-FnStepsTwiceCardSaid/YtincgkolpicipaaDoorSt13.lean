/- FnStepsTwice: PartVisibility by contract. -/
import Derived.Test.YtincgkolpicipaaDoorSt12
namespace Go.Proofs.YtincgkolpicipaaDoor.twice
open Go.RowKit
set_option maxRecDepth 100000 in
set_option maxHeartbeats 8000000 in
theorem partVis_any (v : Value) (es : List Sp) (w : World) (h : Css w v es) (hf : Few es) : Calls Tryd.prog 15 #[v] w fun e w' => Below w.heap.size w w' ∧ ∃ b, e = .returned (.map (some b)) ∧ MapV hR w' b (chainV es es.length) 200 := by
  have HBA := Lib.hid (show Below w.heap.size w (w.alloc (.map #[] 0)) from ba1 _ _)
  have HCH := Lib.hid (chain_any v es (w.alloc (.map #[] 0)) (by obtain ⟨A, cap, hv, hl, hc⟩ := h; exact ⟨A, cap, hv, hl, fun i e he => by obtain ⟨q, o, ha, hx⟩ := hc i e he; exact ⟨q, o, ha, hx.later HBA.out⟩⟩) hf)
  have HLN := Lib.hid hf.len
  have hmk : ∀ W : World, Sem.run Tryd.prog (Instr.makeMap 40 none) W = .ok (.map (some W.heap.size)) (W.alloc (.map #[] 0)) := fun W => run_makeMap 40 W
  obtain ⟨A, cap, rfl, -, -⟩ := h
  clear hf
  generalize hvw : chainV es es.length = vw at *
  have HVW := Lib.hid hvw
  clear hvw
  generalize es.length = n at *
  go_enter Tryd.func15, Tryd.ntmps15
  go_wp2_with (first
    | (go_at_call 21; refine HCH.out.mono ?_; rintro e w1 ⟨v', rfl, ⟨⟨g, o, rfl, hvo, hview, hcnt⟩, hb1⟩⟩; have HB1 := Lib.hid (step_after HBA.out hb1); have HVO := Lib.hid hvo; have HV := Lib.hid hview; have HC := Lib.hid (show o.cnt ≤ 156 by have := HLN.out; omega); have HM1 := Lib.hid ((mapV_made hR w).later hb1); clear hvo hview hcnt hb1)
    | (go_at_call 20; refine (objVis_any g o _ HVO.out (by have := HC.out; omega)).mono ?_; rintro e w2 ⟨hb2, b2, rfl, hle2, D, hown, hD⟩; have HB2 := Lib.hid (step_after HB1.out hb2); have HM2 := Lib.hid (HM1.out.later hb2); have HO := Lib.hid hown; have HD := Lib.hid hD; have HE2 := Lib.hid (show w.heap.size < b2 ∧ b2 < w2.heap.size from ⟨Nat.lt_of_lt_of_le (HM1.out.lt) hle2, hown.lt⟩); clear hb2 hle2 hown hD)
    | (at_range; refine wpList_range_own _ rfl _ 56 rfl 9 44 keyed9 Tryd.underlying56 hR b2 o.cnt D rfl HO.out ?_; intro w0 hrg0 hg0 hs0; have HST := Lib.hid (lrel_start (f := fun _ => none) (h := o.view) HB2.out HM2.out HO.out HD.out (fun s h => h) hrg0 hg0); clear hrg0 hg0 hs0)
    | go_in)
  rw [Nat.zero_add] at HST
  go_frame
  clear hmk
  go_loopw [4, 5] (fun _ _ wr => LRel hR w w.heap.size b2 w2.heap.size o.cnt o.cnt D (fun _ => none) o.view wr) (fun _ _ wr => wr.rangeLeft b2 w2.heap.size)
  case atStart => exact HST.out
  case round =>
    obtain ⟨⟨left, cnt, m, hrg, hm, hle⟩, hbel⟩ := hrel
    go_wp2_with (first
      | (at_next; refine wpList_next_ranges _ rfl _ rfl 9 keyed9 hR encStr (Value.int .i64) invK9 invH b2 w2.heap.size o.cnt _ _ _ rfl hrg ?_ ?_)
      | go_in)
    · intro hc0 hl0
      have HE := Lib.hid (lrel_end hm hle hl0)
      have HB := Lib.hid hbel
      clear hrg hm hle hbel hc0 hl0
      go_wp2
      go_returns
      exact ⟨HB.out, _, rfl, by rw [← HVW.out, ← HV.out]; exact HE.out.mono (by have := HC.out; omega)⟩
    · intro x c kl yd yp w1 cnt1 hkey hlk hv hat hrg1 hlt hg1 hs1 hen
      obtain ⟨x', ex, rfl, hxl⟩ := Maps.keyOf_str Tryd.underlying9 hkey
      obtain rfl := encStr_inj ex
      have hy : yd = .lit (.int .i64 c) := by
        have h0 : hR (.int .i64 c) = some (.lit (.int .i64 c), []) := rfl
        rw [h0] at hv
        injection hv with hv
        injection hv with hv _
        exact hv.symm
      subst hy
      have hx : o.view x = some c := HD.out.val hat
      have hn1 : w.heap.size ≠ w2.heap.size := by have := HE2.out; omega
      have hn2 : w.heap.size ≠ b2 := by have := HE2.out; omega
      have hwr : w.heap.size ≤ w2.heap.size := HB2.out.size
      have hm1 := hm.grown hg1 (by simp; omega)
      obtain ⟨w3, hrun, hm2, hg2⟩ := hm1.update Tryd.underlying40 (by have := HC.out; omega) x (by rw [← maxLen_eq]; exact hxl) (.int .i64 c) c rfl
      have HN := Lib.hid (lrel_put hbel hwr (Nat.le_refl _) hn1 hn2 hle hlt hrg1 hg1 (World.grownBy.refl _ _) hm2 hg2 hx)
      have HM := Lib.hid (show w3.rangeLeft b2 w2.heap.size < wr.rangeLeft b2 w2.heap.size by rw [HN.out.2.left_eq, hrg.left_eq]; exact hlt)
      clear hkey hlk hat hrg1 hlt hg1 hs1 hm hm1 hm2 hg2 hx hrg hle hbel hv hn1 hn2 hwr
      go_wp2_with fail
      exact ⟨HN.out.1, HM.out⟩
end Go.Proofs.YtincgkolpicipaaDoor.twice

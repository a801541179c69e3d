/- FnStepsTwice: how the fields of an object are seen, walked: simple objects. -/
import Derived.Test.YtincgkolpicipaaDoorSt6
namespace Go.Proofs.YtincgkolpicipaaDoor.twice
open Go.RowKit
set_option maxRecDepth 100000 in
set_option maxHeartbeats 8000000 in
theorem vis_sim (p b : Nat) (f : Vw) (n : Nat) : VisC (.sim p b f n) := by
  intro w h hc
  obtain ⟨h1, D, hown, hD⟩ := h
  have hc : n ≤ 1000000 := hc
  have c1 : w.cell? ⟨p, 1, none⟩ = some (.map (some b)) := cell_of_row w _ 1 _ _ _ h1
  have c2 : ∀ ob, (w.alloc ob).cell? ⟨p, 1, none⟩ = some (.map (some b)) := fun ob => cell_later ((Below.refl _ _).alloc (Nat.le_refl _) ob) c1
  have hbl := hown.lt
  have hmk := hmk56
  have ta1 := ta82_79
  have ta2 := ta82_75
  have ta3 := ta82_82
  have HO := Lib.hid hown
  have HD := Lib.hid hD
  have HSZ := Lib.hid hown.size_le
  clear h1 hown hD
  show Calls Tryd.prog 23 #[.iface 82 (.pointer (some ⟨p, 0, none⟩))] w _
  go_enter Tryd.func23, Tryd.ntmps23
  go_wp2_with (first
    | (at_range; refine wpList_range_own _ rfl _ 86 rfl 9 94 keyed9 Tryd.underlying86 fR b n D rfl (HO.out.alloc _) ?_; intro w0 hrg0 hg0 hs0; have HST := Lib.hid (lrel_start (f := fun _ => none) (h := f) ((Below.refl _ _).alloc (Nat.le_refl _) _) (mapV_made hR w) (HO.out.alloc _) HD.out (fun s h => h) hrg0 hg0); clear hrg0 hg0 hs0)
    | go_in)
  have e1 : (w.alloc (.map #[] 0)).heap.size = w.heap.size + 1 := by simp
  rw [e1, Nat.zero_add] at HST
  rw [e1]
  go_frame
  clear ta1 ta2 ta3 hmk c1 c2 e1
  go_loopw [14, 15] (fun _ _ wr => LRel fR w w.heap.size b (w.heap.size + 1) n n D (fun _ => none) f wr) (fun _ _ wr => wr.rangeLeft b (w.heap.size + 1))
  case atStart => exact HST.out
  case round =>
    obtain ⟨⟨left, cnt, m, hrg, hm, hle⟩, hbel⟩ := hrel
    go_wp2_with (first
      | (at_next; refine wpList_next_ranges _ rfl _ rfl 9 keyed9 fR encStr (fun c : Int => Value.agg #[.nilIface, .int .i64 c]) invK9 invF b (w.heap.size + 1) n _ _ _ rfl hrg ?_ ?_)
      | go_in)
    · intro hc0 hl0
      have HE := Lib.hid (lrel_end hm hle hl0)
      have HB := Lib.hid hbel
      clear hrg hm hle hbel hc0 hl0
      go_wp2
      go_returns
      exact ⟨HB.out, _, rfl, Nat.le_refl _, HE.out⟩
    · intro x c kl yd yp w1 cnt1 hkey hlk hv hat hrg1 hlt hg1 hs1 hen
      obtain ⟨x', ex, rfl, hxl⟩ := Maps.keyOf_str Tryd.underlying9 hkey
      obtain rfl := encStr_inj ex
      have hy : yd = .lit (.int .i64 c) := by
        have h0 : fR (.agg #[.nilIface, .int .i64 c]) = some (.lit (.int .i64 c), []) := rfl
        rw [h0] at hv
        injection hv with hv
        injection hv with hv _
        exact hv.symm
      subst hy
      have hx : f x = some c := HD.out.val hat
      have hgA := World.grownBy_alloc w1 (.cells #[.nilIface, .int .i64 c] 94) none
      have hm1 := (hm.grown hg1 (by simp)).grown hgA (by simp)
      obtain ⟨w2, hrun, hm2, hg2⟩ := hm1.update Tryd.underlying56 (by omega) x (by rw [← maxLen_eq]; exact hxl) (.int .i64 c) c rfl
      have HN := Lib.hid (lrel_put hbel (Nat.le_succ _) (Nat.le_refl _) (by omega) (by omega) hle hlt hrg1 hg1 hgA hm2 hg2 hx)
      have HM := Lib.hid (show w2.rangeLeft b (w.heap.size + 1) < wr.rangeLeft b (w.heap.size + 1) by rw [HN.out.2.left_eq, hrg.left_eq]; exact hlt)
      clear hkey hlk hat hrg1 hlt hg1 hs1 hm hm1 hm2 hg2 hx hrg hle hbel hv hgA
      go_wp2_with fail
      exact ⟨HN.out.1, HM.out⟩
end Go.Proofs.YtincgkolpicipaaDoor.twice

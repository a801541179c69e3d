/- FnStepsTwice: how the fields of an object are seen, walked: an object and, to its right, another. -/
import Derived.Test.YtincgkolpicipaaDoorSt7
import Derived.Deep.RegionWith
namespace Go.Proofs.YtincgkolpicipaaDoor.twice
open Go.RowKit
/-- 'v, ok := m[k]'. -/
theorem MapV.look {W : World} {b n : Nat} {f : Vw} (h : MapV hR W b f n) (k : List UInt8) (hk : k.length ≤ maxLen) : ∃ v, (Instr.lookup 56 (.map (some b)) (.string ⟨k.toArray⟩) true).run Tryd.prog W = .ok (.tuple #[v, .bool (f k).isSome]) W := by
  obtain ⟨D, h1, h2⟩ := h
  obtain ⟨v, q, r1, r2⟩ := World.ownsMap.look_ok h1 keyed9 Tryd.underlying56 (z := .int .i64 0) (by kernel_rfl) (zd := .lit (.int .i64 0)) (zp := []) rfl (key := .string ⟨k.toArray⟩) (WideMaps.keyOf_string_mk Tryd.underlying9 hk)
  rw [h2.has] at r1
  exact ⟨v, r1⟩
theorem ext_one {f g : Vw} {x : List UInt8} (hg : g x = some 1) : (f x = none → extV f g x = some 1) ∧ ((f x).isSome = true → extV f g x = f x) := by
  unfold extV
  rw [hg]
  cases hf : f x <;> simp
theorem ext_other {f g : Vw} {x : List UInt8} {c : Int} (hg : g x = some c) (hc : c ≠ 1) : extV f g x = some c := by
  unfold extV
  rw [hg]
  simp [hc]
theorem ext_none {f g : Vw} (s : List UInt8) (hg : g s = none) : extV f g s = f s := by
  unfold extV
  rw [hg]
set_option maxRecDepth 100000 in
set_option maxHeartbeats 8000000 in
theorem vis_ext (p : Nat) (z : Int) (l r : Ob) (hl : VisC l) (hr : VisC r) : VisC (.ext p z l r) := by
  intro w h hc
  obtain ⟨h1, hal, har⟩ := h
  have hc : l.cnt + r.cnt ≤ 1000000 := hc
  have HC := Lib.hid hc
  have c0 : w.cell? ⟨p, 0, none⟩ = some l.val := cell_of_row w _ 0 _ _ _ h1
  have c1 : w.cell? ⟨p, 1, none⟩ = some r.val := cell_of_row w _ 1 _ _ _ h1
  have HCC := Lib.hid (show ∀ W, Below w.heap.size w W → W.cell? ⟨p, 0, none⟩ = some l.val ∧ W.cell? ⟨p, 1, none⟩ = some r.val from fun W hb => ⟨cell_later hb c0, cell_later hb c1⟩)
  have d0 := (HCC.out _ ((Below.refl _ _).alloc (Nat.le_refl _) (.map #[] 0))).1
  have HL := Lib.hid (hl _ (hal.later ((Below.refl _ _).alloc (Nat.le_refl _) (.map #[] 0))) (by omega))
  have HR := Lib.hid (fun W (hb : Below w.heap.size w W) => hr _ (har.later hb) (by omega))
  have hmk := hmk56
  have ta1 := ta79_79
  have HBA := Lib.hid (show Below w.heap.size w (w.alloc (.map #[] 0)) from (Below.refl _ _).alloc (Nat.le_refl _) _)
  clear h1 hal har hl hr c0 c1
  show Calls Tryd.prog 23 #[.iface 79 (.pointer (some ⟨p, 0, none⟩))] w _
  generalize hvl : l.val = vl at *
  generalize hvr : r.val = vr at *
  clear hvl hvr
  go_enter Tryd.func23, Tryd.ntmps23
  go_wp2_with (first
    | (go_at_call_of 23 vl; refine HL.out.mono ?_; rintro e w1 ⟨hb1, b1, rfl, hle1, hm1⟩; have HB1 := Lib.hid (step_after HBA.out hb1); have d1 := (HCC.out _ HB1.out).2; have HM1 := Lib.hid hm1; have HE1 := Lib.hid (show w.heap.size ≤ b1 from Nat.le_trans HBA.out.size hle1); clear hb1 hle1 hm1)
    | (go_at_call_of 23 vr; refine (HR.out _ HB1.out).mono ?_; rintro e w2 ⟨hb2, b2, rfl, hle2, D, hown, hD⟩; have HB2 := Lib.hid (step_after HB1.out hb2); have HM2 := Lib.hid (HM1.out.later hb2); have HO := Lib.hid hown; have HD := Lib.hid hD; have HE2 := Lib.hid (show b1 < b2 ∧ b2 < w2.heap.size from ⟨Nat.lt_of_lt_of_le HM1.out.lt hle2, hown.lt⟩); clear hb2 hle2 hown hD)
    | (at_range; refine wpList_range_own _ rfl _ 56 rfl 9 44 keyed9 Tryd.underlying56 hR b2 r.cnt D rfl HO.out ?_; intro w0 hrg0 hg0 hs0; have HST := Lib.hid (lrel_start (f := l.view) (h := extV l.view r.view) HB2.out HM2.out HO.out HD.out ext_none hrg0 hg0); clear hrg0 hg0 hs0)
    | go_in)
  go_frame
  clear ta1 hmk d0 d1
  go_loopw [6, 7, 8, 9] (fun _ _ _ _ wr => LRel hR w b1 b2 w2.heap.size r.cnt (l.cnt + r.cnt) D l.view (extV l.view r.view) wr) (fun _ _ _ _ wr => wr.rangeLeft b2 w2.heap.size)
  case atStart => exact HST.out
  case round =>
    obtain ⟨⟨left, cnt, m, hrg, hm, hle⟩, hbel⟩ := hrel
    go_wp2_with (first
      | (at_next; refine wpList_next_ranges _ rfl _ rfl 9 keyed9 hR encStr (Value.int .i64) invK9 invH b2 w2.heap.size r.cnt _ _ _ rfl hrg ?_ ?_)
      | go_in)
    · intro hc0 hl0
      have HE := Lib.hid (lrel_end hm hle hl0)
      have HB := Lib.hid hbel
      clear hrg hm hle hbel hc0 hl0
      go_wp2
      go_returns
      exact ⟨HB.out, _, rfl, HE1.out, HE.out⟩
    · intro x c kl yd yp w1 cnt1 hkey hlk hv hat hrg1 hlt hg1 hs1 hen
      obtain ⟨x', ex, rfl, hxl⟩ := Maps.keyOf_str Tryd.underlying9 hkey
      obtain rfl := encStr_inj ex
      have hy : yd = .lit (.int .i64 c) := by
        have h0 : hR (.int .i64 c) = some (.lit (.int .i64 c), []) := rfl
        rw [h0] at hv
        injection hv with hv
        injection hv with hv _
        exact hv.symm
      subst hy
      have hx := HD.out.val hat
      have hn1 : b1 ≠ w2.heap.size := by have := HE2.out; omega
      have hn2 : b1 ≠ b2 := by have := HE2.out; omega
      have hwr : w.heap.size ≤ w2.heap.size := HB2.out.size
      have hm1 := hm.grown hg1 (by simp; omega)
      obtain ⟨w3, hrun, hm2, hg2⟩ := hm1.update Tryd.underlying56 (by have := HC.out; omega) x (by rw [← maxLen_eq]; exact hxl) (.int .i64 c) c rfl
      have HN := Lib.hid (fun (hh : extV l.view r.view x = some c) => lrel_put hbel hwr HE1.out hn1 hn2 hle hlt hrg1 hg1 (World.grownBy.refl _ _) hm2 hg2 hh)
      have HK := Lib.hid (fun (hh : extV l.view r.view x = l.view x) => lrel_keep hbel hwr hn1 hle hlt hrg1 hg1 hm hlk hh)
      have HM := Lib.hid (fun (hh : extV l.view r.view x = some c) => show w3.rangeLeft b2 w2.heap.size < wr.rangeLeft b2 w2.heap.size by rw [(HN.out hh).2.left_eq, hrg.left_eq]; exact hlt)
      have HMK := Lib.hid (show w1.rangeLeft b2 w2.heap.size < wr.rangeLeft b2 w2.heap.size by rw [hrg1.left_eq, hrg.left_eq]; exact hlt)
      obtain ⟨lv, hlook⟩ := hm1.look x hxl
      have hcur : curV l.view (extV l.view r.view) left x = l.view x := by unfold curV; rw [if_pos hlk]
      rw [hcur] at hlook
      have HX := Lib.hid hx
      clear hkey hlk hat hrg1 hlt hg1 hs1 hm hm1 hm2 hg2 hx hrg hle hbel hv hn1 hn2 hwr hcur
      by_cases hc1 : c = 1
      · subst hc1
        obtain ⟨e1, e2⟩ := ext_one (f := l.view) HX.out
        have E1 := Lib.hid e1
        have E2 := Lib.hid e2
        clear e1 e2
        cases hf : (l.view x).isSome
        · rw [hf] at hlook
          have HF := Lib.hid (E1.out (by cases h : l.view x with | none => rfl | some v => rw [h] at hf; cases hf))
          clear hf
          go_wp2_with fail
          exact ⟨(HN.out HF.out).1, HM.out HF.out⟩
        · rw [hf] at hlook
          have HF := Lib.hid (E2.out hf)
          clear hf
          go_wp2_with fail
          exact ⟨HK.out HF.out, HMK.out⟩
      · have hb1 : (c == 1) = false := by simpa using hc1
        have HF := Lib.hid (ext_other (f := l.view) HX.out hc1)
        clear hc1
        go_wp2_with fail
        exact ⟨(HN.out HF.out).1, HM.out HF.out⟩
theorem vis_any : ∀ o : Ob, VisC o
  | .sim p b f n => vis_sim p b f n
  | .res p b f n o => vis_res p b f n o
  | .ext p z l r => vis_ext p z l r (vis_any l) (vis_any r)
end Go.Proofs.YtincgkolpicipaaDoor.twice

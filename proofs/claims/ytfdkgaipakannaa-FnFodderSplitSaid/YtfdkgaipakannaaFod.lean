/- laws.fodder says true only of good fodder. -/
import Derived.Test.YtfdkgaipakannaaElem
namespace Go.Proofs.Ytfdkgaipakannaa.split
open Go.RowKit Go.Sort
structure GoodTo (k : Nat) (es : List El) : Prop where
  el : ∀ (i : Nat) (e : El), i < k → es[i]? = some e → GoodEl e
  fol : ∀ (i : Nat) (a b : El), i + 1 < k → es[i]? = some a → es[i + 1]? = some b → follow a.k b.k = true
structure Good (es : List El) : Prop where
  len : es.length ≤ 100
  all : GoodTo es.length es
/-- True only if P. -/
def OnlyIf (P : Prop) (e : Ending) : Prop := ∃ b : Bool, e = .returned (.bool b) ∧ (b = true → P)
theorem OnlyIf.no {P : Prop} : OnlyIf P (.returned (.bool false)) := ⟨false, rfl, fun h => by cases h⟩
theorem OnlyIf.yes {P : Prop} (h : P) : OnlyIf P (.returned (.bool true)) := ⟨true, rfl, fun _ => h⟩
theorem elem_b (el : El) (cv : Value) (w : World) (h : Strs w cv el.c) (z : Bool) (hz : elemOk el = z) : Calls Try.prog 30 #[.agg #[.int .i64 el.k, .int .i64 el.b, .int .i64 el.n, cv]] w fun e w' => e = .returned (.bool z) ∧ Below w.heap.size w w' :=
  (element_any el cv w h).mono fun e w' ⟨he, hb⟩ => ⟨by subst hz; exact he, hb⟩
theorem foll_b (a b : El) (va vb : Value) (w : World) (ha : Strs w va a.c) (hb : Strs w vb b.c) (z : Bool) (hz : follow a.k b.k = z) :
    Calls Try.prog 31 #[.agg #[.int .i64 a.k, .int .i64 a.b, .int .i64 a.n, va], .agg #[.int .i64 b.k, .int .i64 b.b, .int .i64 b.n, vb]] w fun e w' => e = .returned (.bool z) ∧ Below w.heap.size w w' :=
  hz ▸ follows_any a b va vb w ha hb
set_option maxHeartbeats 2000000 in
theorem fodder_any (v : Value) (es : List El) (w : World) (h : Els w v es) : Calls Try.prog 21 #[v] w fun e w' => OnlyIf (Good es) e ∧ Below w.heap.size w w' := by
  obtain ⟨A, cap, rfl, hl, hc⟩ := h
  have HC := Lib.hid hc
  clear hc
  by_cases hbig : es.length ≤ 100
  · have hnb : decide ((100 : Int) < (es.length : Int)) = false := decide_eq_false (by omega)
    have HG := Lib.hid (show GoodTo es.length es → Good es from fun h => ⟨hbig, h⟩)
    generalize hn : es.length = n at hl hbig hnb HG ⊢
    have HN := Lib.hid hn
    clear hn
    go_enter Try.func21, Try.ntmps21
    go_wp2
    go_loopw [3] (fun i wr => ∃ k : Nat, k ≤ n ∧ i = .int .i64 k ∧ Below w.heap.size w wr ∧ Hid (GoodTo k es)) (fun i _ => n - (intOf i).toNat)
    case atStart => exact ⟨0, Nat.zero_le _, rfl, Below.refl _ _, ⟨fun _ _ h => by omega, fun _ _ _ h => by omega⟩⟩
    case round =>
      obtain ⟨k, hk, rfl, hb, hgk⟩ := hrel
      by_cases hlt : k < n
      · obtain ⟨s, hs⟩ : ∃ s, es[k]? = some s := ⟨_, List.getElem?_eq_getElem (by have := HN.out; omega)⟩
        obtain ⟨q, o, rfl, hcell⟩ := HC.out k s hs
        obtain ⟨c0, c1, c2, cv, c3, hst⟩ := hcell.later hb
        obtain ⟨A2, cap2, rfl⟩ := hst.form
        have HST := Lib.hid (fun w' (hb : Below wr.heap.size wr w') => hst.later hb)
        have HB := Lib.hid hb
        have HS := Lib.hid hs
        have hki : (k : Int) < (n : Int) := by omega
        have k0 := fun d os => cell_regrown c0 d os
        have k1 := fun d os => cell_regrown c1 d os
        have k2 := fun d os => cell_regrown c2 d os
        have k3 := fun d os => cell_regrown c3 d os
        clear hs hst hb hcell c0 c1 c2 c3
        cases hz : elemOk s
        · have HE := Lib.hid (fun d os => Calls.regrown_of (elem_b s _ (grow (redrawn wr d) os) (HST.out _ (below_regrown wr d os)) false hz))
          clear hz
          go_wp2_with fail
          refine wp_region_quiet_below (by kernel_rfl) (by kernel_rfl) ?_
          repeat (go_big_quiet_step (exact HE.out _ _))
          refine wpQuiet_nil ?_
          intro _ hw'
          obtain ⟨⟨dq, osq⟩, hw''⟩ := hw'
          subst hw''
          go_wp2
          go_ret
          exact ⟨OnlyIf.no, HB.out.trans ((below_regrown wr dq osq).mono HB.out.size)⟩
        · have HE := Lib.hid (fun d os => Calls.regrown_of (elem_b s _ (grow (redrawn wr d) os) (HST.out _ (below_regrown wr d os)) true hz))
          have HZ := Lib.hid hz
          clear hz
          by_cases hk0 : k = 0
          · have hd0 : decide (0 < k) = false := decide_eq_false (by omega)
            have HK0 := Lib.hid hk0
            clear hk0
            go_wp2_with fail
            refine wp_region_quiet_below (by kernel_rfl) (by kernel_rfl) ?_
            repeat (go_big_quiet_step (exact HE.out _ _))
            refine wpQuiet_nil ?_
            intro _ hw'
            obtain ⟨⟨dq, osq⟩, hw''⟩ := hw'
            subst hw''
            go_wp2
            go_roundw
            case rel => exact ⟨k + 1, by omega, by go_num, HB.out.trans ((below_regrown wr dq osq).mono HB.out.size), ⟨fun i e hi he => by
              obtain rfl : i = k := by have := HK0.out; omega
              rw [HS.out] at he; cases he; exact good_of HZ.out, fun i a b hi => by have := HK0.out; omega⟩⟩
            case measure => simp [intOf]; omega
          · obtain ⟨j, hj⟩ : ∃ j, k = j + 1 := ⟨k - 1, by omega⟩
            obtain ⟨p, hp⟩ : ∃ p, es[j]? = some p := ⟨_, List.getElem?_eq_getElem (by have := HN.out; omega)⟩
            obtain ⟨q', o', hqo, hcell'⟩ := HC.out j p hp
            cases hqo
            obtain ⟨e0, e1, e2, dv, e3, hst'⟩ := hcell'.later HB.out
            obtain ⟨A3, cap3, rfl⟩ := hst'.form
            have HST' := Lib.hid (fun w' (hb : Below wr.heap.size wr w') => hst'.later hb)
            have HP := Lib.hid hp
            have l0 := fun d os => cell_regrown e0 d os
            have l1 := fun d os => cell_regrown e1 d os
            have l2 := fun d os => cell_regrown e2 d os
            have l3 := fun d os => cell_regrown e3 d os
            have hwr : IntKind.i64.wrap ((k : Int) - 1) = (j : Int) := by rw [IntWalk.i64_in _ (by omega)]; omega
            have hj0 : (j : Int) < (n : Int) := by omega
            have hk1 : decide (0 < k) = true := decide_eq_true (by omega)
            have HJ := Lib.hid hj
            clear hp hst' hcell' e0 e1 e2 e3 hj hk0
            cases hf : follow p.k s.k
            · have HF := Lib.hid (fun d os => Calls.regrown_of (foll_b p s _ _ (grow (redrawn wr d) os) (HST'.out _ (below_regrown wr d os)) (HST.out _ (below_regrown wr d os)) false hf))
              clear hf
              go_wp2_with fail
              refine wp_region_quiet_below (by kernel_rfl) (by kernel_rfl) ?_
              repeat (go_big_quiet_step (first | exact HE.out _ _ | exact HF.out _ _))
              refine wpQuiet_nil ?_
              intro _ hw'
              obtain ⟨⟨dq, osq⟩, hw''⟩ := hw'
              subst hw''
              go_wp2
              go_ret
              exact ⟨OnlyIf.no, HB.out.trans ((below_regrown wr dq osq).mono HB.out.size)⟩
            · have HF := Lib.hid (fun d os => Calls.regrown_of (foll_b p s _ _ (grow (redrawn wr d) os) (HST'.out _ (below_regrown wr d os)) (HST.out _ (below_regrown wr d os)) true hf))
              have HFF := Lib.hid hf
              clear hf
              go_wp2_with fail
              refine wp_region_quiet_below (by kernel_rfl) (by kernel_rfl) ?_
              repeat (go_big_quiet_step (first | exact HE.out _ _ | exact HF.out _ _))
              refine wpQuiet_nil ?_
              intro _ hw'
              obtain ⟨⟨dq, osq⟩, hw''⟩ := hw'
              subst hw''
              go_wp2
              go_roundw
              case rel => exact ⟨k + 1, by omega, by go_num, HB.out.trans ((below_regrown wr dq osq).mono HB.out.size), ⟨fun i e hi he => by
                by_cases e1 : i = k
                · subst e1; rw [HS.out] at he; cases he; exact good_of HZ.out
                · exact hgk.out.el i e (by omega) he, fun i a b hi ha hb => by
                by_cases e1 : i = j
                · subst e1
                  rw [HP.out] at ha; cases ha
                  rw [← HJ.out, HS.out] at hb; cases hb
                  exact HFF.out
                · exact hgk.out.fol i a b (by have := HJ.out; omega) ha hb⟩⟩
              case measure => simp [intOf]; omega
      · have hki : ¬ (k : Int) < (n : Int) := by omega
        have HB := Lib.hid hb
        have HE := Lib.hid (show n = k by omega)
        clear hb
        go_wp2
        go_ret
        exact ⟨OnlyIf.yes (HG.out (by rw [HE.out]; exact hgk.out)), HB.out⟩
  · have hnb : decide ((100 : Int) < (es.length : Int)) = true := decide_eq_true (by omega)
    go_enter Try.func21, Try.ntmps21
    go_wp2
    go_ret
    exact ⟨OnlyIf.no, Below.refl _ _⟩
end Go.Proofs.Ytfdkgaipakannaa.split

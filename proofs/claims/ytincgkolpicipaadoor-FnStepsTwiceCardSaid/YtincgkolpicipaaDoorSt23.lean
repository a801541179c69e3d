/- FnStepsTwice: spec.StepsOK by contract. -/
import Derived.Test.YtincgkolpicipaaDoorSt16
import Derived.Lib.QuietBelow
import Derived.Deep.RegionWith
namespace Go.Proofs.YtincgkolpicipaaDoor.twice
open Go.RowKit Go.Sort
def OkE (e : Sp) : Prop := e.names.length = e.hides.length ∧ ∀ (j : Nat) (h : Int), e.hides[j]? = some h → h = 0 ∨ h = 1 ∨ h = 2
/-- A truth value; where it is true, the steps are steps. -/
def OkD (es : List Sp) (e : Ending) : Prop := ∃ b : Bool, e = .returned (.bool b) ∧ (b = true → ∀ (i : Nat) (s : Sp), es[i]? = some s → OkE s)
theorem okD_false (es : List Sp) : OkD es (.returned (.bool false)) := ⟨false, rfl, fun h => by cases h⟩
theorem valid_list (s : List UInt8) (w : World) (hs : s.length ≤ 9223372036854775807) (hT : Tabs w) : Calls Tryd.prog 13 #[.string ⟨s.toArray⟩] w fun e w' => e = .returned (.bool (Lib.validD s)) ∧ Below w.heap.size w w' := valid_any ⟨s.toArray⟩ w hs hT
set_option maxRecDepth 100000 in
set_option maxHeartbeats 8000000 in
theorem stepsOK_any (v : Value) (es : List Sp) (w : World) (h : Sps w v es) (hT : Tabs w) : Calls Tryd.prog 9 #[v] w fun e w' => OkD es e ∧ Below w.heap.size w w' := by
  obtain ⟨A, cap, rfl, hcp, hl, hc⟩ := h
  have HC := Lib.hid hc
  have HT := Lib.hid hT
  clear hc hT hcp
  generalize hn : es.length = n at *
  have HN := Lib.hid hn
  clear hn
  go_enter Tryd.func9, Tryd.ntmps9
  go_wp2_with fail
  go_loopw [3, 4, 5, 6] (fun i _ _ _ wr => ∃ k : Nat, k ≤ n ∧ i = .int .i64 k ∧ Hid (∀ (i : Nat) (s : Sp), i < k → es[i]? = some s → OkE s) ∧ Below w.heap.size w wr) (fun i _ _ _ _ => n - (intOf i).toNat)
  case atStart => exact ⟨0, Nat.zero_le _, rfl, fun i s h => by omega, Below.refl _ _⟩
  case round =>
    obtain ⟨k, hk, rfl, hok, hbel⟩ := hrel
    by_cases hlt : k < n
    · obtain ⟨s, hs⟩ : ∃ s, es[k]? = some s := ⟨_, List.getElem?_eq_getElem (by have := HN.out; omega)⟩
      obtain ⟨q, o, rfl, hel⟩ := HC.out k s hs
      obtain ⟨g0, g1, hrl, nv, hv, g2, g3, hst, hin⟩ := hel
      obtain ⟨A2, cap2, hv2, hn63, hsc⟩ := id hst
      subst hv2
      obtain ⟨A3, cap3, hv3, -, hic⟩ := id hin
      subst hv3
      have c0 := cell_later hbel g0
      have c1 := cell_later hbel g1
      have c2 := cell_later hbel g2
      have c3 := cell_later hbel g3
      have hki : (k : Int) < (n : Int) := by omega
      have HB := Lib.hid hbel
      have HSS := Lib.hid hs
      have HV := Lib.hid (fun d os => valid_list s.rem (grow (redrawn wr d) os) hrl (tabs_below (tabs_below HT.out hbel) (below_regrown wr d os)))
      have r0 := fun d os => cell_regrown c0 d os
      have r1 := fun d os => cell_regrown c1 d os
      have r2 := fun d os => cell_regrown c2 d os
      have r3 := fun d os => cell_regrown c3 d os
      have HEL := Lib.hid (show ∀ W, Below w.heap.size w W → W.cell? ⟨q, o + k * 4 + 2, none⟩ = some (.slice A2 s.names.length cap2) ∧ W.cell? ⟨q, o + k * 4 + 3, none⟩ = some (.slice A3 s.hides.length cap3) from fun W hb => ⟨cell_later hb g2, cell_later hb g3⟩)
      have HST := Lib.hid (show ∀ W, Below w.heap.size w W → ∀ (j : Nat) t, s.names[j]? = some t → t.length ≤ 9223372036854775807 ∧ ∃ q o, A2 = some ⟨q, o, none⟩ ∧ W.cell? ⟨q, o + j, none⟩ = some (.string ⟨t.toArray⟩) from fun W hb j t ht => by
        obtain ⟨h1, q1, o1, h2, h3⟩ := hsc j t ht
        exact ⟨h1, q1, o1, h2, cell_later hb h3⟩)
      have HIN := Lib.hid (show ∀ W, Below w.heap.size w W → ∀ (j : Nat) z, s.hides[j]? = some z → ∃ q o, A3 = some ⟨q, o, none⟩ ∧ W.cell? ⟨q, o + j, none⟩ = some (.int .i64 z) from fun W hb j z hz => by
        obtain ⟨q1, o1, h2, h3⟩ := hic j z hz
        exact ⟨q1, o1, h2, cell_later hb h3⟩)
      clear hs hbel hst hin hsc hic hrl g0 g1 g2 g3
      obtain ⟨b0, hb0⟩ : ∃ b, ((s.names.length : Int) != (s.hides.length : Int)) = b := ⟨_, rfl⟩
      have HB0 := Lib.hid hb0
      generalize hm : s.names.length = m at *
      have HM := Lib.hid hm
      generalize hm3 : s.hides.length = m3 at *
      have HM3 := Lib.hid hm3
      clear hm hm3
      generalize hr : (⟨s.rem.toArray⟩ : ByteArray) = r at *
      have HRR := Lib.hid hr
      clear hr
      cases b0
      · have hmm : m3 = m := by simp at hb0; omega
        rw [hmm] at HM3 c3 r3 hb0 HEL
        clear hmm
        obtain ⟨b2, hb2⟩ : ∃ b, decide (0 < m) = b := ⟨_, rfl⟩
        obtain ⟨b3, hb3⟩ : ∃ b, r.toList.isEmpty = b := ⟨_, rfl⟩
        obtain ⟨vb, hvb⟩ : ∃ b, Lib.validD s.rem = b := ⟨_, rfl⟩
        rw [hvb] at HV
        clear hvb
        have hD : (s.is = false ∧ b3 = false) ∨ (s.is = true ∧ b2 = true) ∨ (s.is = false ∧ b3 = true) ∨ (s.is = true ∧ b2 = false) := by
          cases s.is <;> cases b2 <;> cases b3 <;> simp
        rcases hD with ⟨his, e⟩ | ⟨his, e⟩ | ⟨his, e⟩ | ⟨his, e⟩
        · subst e
          rw [his] at c0 r0
          go_wp2_with fail
          refine wp_region_quiet_below (by kernel_rfl) (by kernel_rfl) ?_
          repeat (go_big_quiet_step (exact Calls.regrown_of (HV.out _ _)))
          refine wpQuiet_nil ?_
          intro _ hw'
          obtain ⟨⟨dq, osq⟩, hw''⟩ := hw'
          subst hw''
          go_wp2
          go_returns
          exact ⟨okD_false _, step_after HB.out (below_regrown wr dq osq)⟩
        · subst e
          rw [his] at c0 r0
          go_wp2_with fail
          refine wp_region_quiet_below (by kernel_rfl) (by kernel_rfl) ?_
          repeat (go_big_quiet_step (exact Calls.regrown_of (HV.out _ _)))
          refine wpQuiet_nil ?_
          intro _ hw'
          obtain ⟨⟨dq, osq⟩, hw''⟩ := hw'
          subst hw''
          go_wp2
          go_returns
          exact ⟨okD_false _, step_after HB.out (below_regrown wr dq osq)⟩
        all_goals
          subst e
          rw [his] at c0 r0
          cases vb
          · go_wp2_with fail
            refine wp_region_quiet_below (by kernel_rfl) (by kernel_rfl) ?_
            repeat (go_big_quiet_step (exact Calls.regrown_of (HV.out _ _)))
            refine wpQuiet_nil ?_
            intro _ hw'
            obtain ⟨⟨dq, osq⟩, hw''⟩ := hw'
            subst hw''
            go_wp2
            go_returns
            exact ⟨okD_false _, step_after HB.out (below_regrown wr dq osq)⟩
          · go_wp2_with fail
            refine wp_region_quiet_below (by kernel_rfl) (by kernel_rfl) ?_
            repeat (go_big_quiet_step (exact Calls.regrown_of (HV.out _ _)))
            refine wpQuiet_nil ?_
            intro _ hw'
            obtain ⟨⟨dq, osq⟩, hw''⟩ := hw'
            subst hw''
            have HQ := Lib.hid (step_after HB.out (below_regrown wr dq osq))
            clear c0 c1 c2 c3 r0 r1 r2 r3 HV HB
            generalize grow (redrawn wr dq) osq = WQ at HQ ⊢
            go_wp2_with fail
            go_loopw [4, 5, 6] (fun x _ _ W => ∃ j : Nat, j ≤ m ∧ x = .int .i64 j ∧ Hid (∀ (j' : Nat) (h : Int), j' < j → s.hides[j']? = some h → h = 0 ∨ h = 1 ∨ h = 2) ∧ Below w.heap.size w W) (fun x _ _ _ => m - (intOf x).toNat)
            case atStart => exact ⟨0, Nat.zero_le _, rfl, fun j h hj => by omega, HQ.out⟩
            case round =>
              obtain ⟨j, hj, rfl, hjk, hbj⟩ := hrel
              obtain ⟨x2, x3⟩ := HEL.out _ hbj
              by_cases hjm : j < m
              · have hji : (j : Int) < (m : Int) := by omega
                obtain ⟨h, hh⟩ : ∃ h, s.hides[j]? = some h := ⟨_, List.getElem?_eq_getElem (by have := HM3.out; omega)⟩
                obtain ⟨t, ht⟩ : ∃ t, s.names[j]? = some t := ⟨_, List.getElem?_eq_getElem (by have := HM.out; omega)⟩
                obtain ⟨q3, o3, rfl, xh⟩ := HIN.out _ hbj j h hh
                obtain ⟨htl, q4, o4, rfl, xt⟩ := HST.out _ hbj j t ht
                have HVT := Lib.hid (valid_list t wr htl (tabs_below HT.out hbj))
                have HBJ := Lib.hid hbj
                have HHH := Lib.hid hh
                clear hh ht hbj htl
                by_cases hbad : h = 0 ∨ h = 1 ∨ h = 2
                · have HJN := Lib.hid (show ∀ (j' : Nat) (h : Int), j' < j + 1 → s.hides[j']? = some h → h = 0 ∨ h = 1 ∨ h = 2 from fun j' h' hj' hh' => by
                    by_cases e : j' = j
                    · subst e; rw [HHH.out] at hh'; cases hh'; exact hbad
                    · exact hjk.out j' h' (by omega) hh')
                  have hne : ((h != 0) = false) ∨ ((h != 0) = true ∧ (h != 1) = false) ∨ ((h != 0) = true ∧ (h != 1) = true ∧ (h != 2) = false) := by
                    rcases hbad with e | e | e <;> subst e <;> simp
                  clear hbad
                  generalize Lib.validD t = vt at HVT
                  rcases hne with h0 | ⟨h0, h1⟩ | ⟨h0, h1, h2⟩
                  all_goals
                    cases vt
                    · go_wp2_with (go_at_call 13; refine HVT.out.mono ?_; rintro e w5 ⟨rfl, hb5⟩; have HB5 := Lib.hid (step_after HBJ.out hb5); clear hb5)
                      go_returns
                      exact ⟨okD_false _, HB5.out⟩
                    · go_wp2_with (go_at_call 13; refine HVT.out.mono ?_; rintro e w5 ⟨rfl, hb5⟩; have HB5 := Lib.hid (step_after HBJ.out hb5); clear hb5)
                      clear x2 x3 xh xt
                      go_loopw [6] (fun x W => ∃ l : Nat, l ≤ j ∧ x = .int .i64 l ∧ Below w.heap.size w W) (fun x _ => j - (intOf x).toNat)
                      case atStart => exact ⟨0, Nat.zero_le _, rfl, HB5.out⟩
                      case round =>
                        obtain ⟨l, hl, rfl, hbl⟩ := hrel
                        by_cases hlj : l < j
                        · have hli : (l : Int) < (j : Int) := by omega
                          have hlm : (l : Int) < (m : Int) := by omega
                          obtain ⟨y2, -⟩ := HEL.out _ hbl
                          obtain ⟨t1, ht1⟩ : ∃ t, s.names[l]? = some t := ⟨_, List.getElem?_eq_getElem (by have := HM.out; omega)⟩
                          obtain ⟨t2, ht2⟩ : ∃ t, s.names[j]? = some t := ⟨_, List.getElem?_eq_getElem (by have := HM.out; omega)⟩
                          obtain ⟨-, q5, o5, e5, z1⟩ := HST.out _ hbl l t1 ht1
                          obtain ⟨-, q6, o6, e6, z2⟩ := HST.out _ hbl j t2 ht2
                          cases e5
                          cases e6
                          generalize (⟨t1.toArray⟩ : ByteArray) = u1 at z1
                          generalize (⟨t2.toArray⟩ : ByteArray) = u2 at z2
                          obtain ⟨bb, hbb⟩ : ∃ b, (u1.toList == u2.toList) = b := ⟨_, rfl⟩
                          have HBL := Lib.hid hbl
                          clear ht1 ht2 hbl
                          cases bb
                          · go_wp2
                            go_quiet (fail)
                            go_wp2
                            go_roundw
                            case rel => exact ⟨l + 1, by omega, by go_num, step_after HBL.out (drewN_below _ _)⟩
                            case measure => simp [intOf]; omega
                          · go_wp2
                            go_quiet (fail)
                            go_wp2
                            go_returns
                            exact ⟨okD_false _, step_after HBL.out (drewN_below _ _)⟩
                        · have hli : ¬ (l : Int) < (j : Int) := by omega
                          have HBL := Lib.hid hbl
                          clear hbl
                          go_wp2
                          go_roundw
                          case rel => exact ⟨j + 1, by omega, by go_num, HJN.out, HBL.out⟩
                          case measure => simp [intOf]; omega
                · have h0 : (h != 0) = true := by simp; omega
                  have h1 : (h != 1) = true := by simp; omega
                  have h2 : (h != 2) = true := by simp; omega
                  clear hbad
                  go_wp2_with fail
                  go_returns
                  exact ⟨okD_false _, HBJ.out⟩
              · have hji : ¬ (j : Int) < (m : Int) := by omega
                have HBJ := Lib.hid hbj
                have HE := Lib.hid (show ∀ (i : Nat) (s' : Sp), i < k + 1 → es[i]? = some s' → OkE s' from fun i s' hi hs' => by
                  by_cases e : i = k
                  · subst e
                    rw [HSS.out] at hs'; cases hs'
                    exact ⟨by rw [HM.out, HM3.out], fun j' h' hh' => hjk.out j' h' (by have h1 := (List.getElem?_eq_some_iff.1 hh').1; have h2 := HM3.out; omega) hh'⟩
                  · exact hok.out i s' (by omega) hs')
                clear hbj hjk
                go_wp2
                go_roundw
                case rel => exact ⟨k + 1, by omega, by go_num, HE.out, HBJ.out⟩
                case measure => simp [intOf]; omega
      · go_wp2_with fail
        refine wp_region_quiet_below (by kernel_rfl) (by kernel_rfl) ?_
        repeat (go_big_quiet_step (exact Calls.regrown_of (HV.out _ _)))
        refine wpQuiet_nil ?_
        intro _ hw'
        obtain ⟨⟨dq, osq⟩, hw''⟩ := hw'
        subst hw''
        go_wp2
        go_returns
        exact ⟨okD_false _, step_after HB.out (below_regrown wr dq osq)⟩
    · have hki : ¬ (k : Int) < (n : Int) := by omega
      have HR := Lib.hid (show ∀ (i : Nat) (s : Sp), es[i]? = some s → OkE s from fun i s hi => hok.out i s (by have := (List.getElem?_eq_some_iff.1 hi).1; have := HN.out; omega) hi)
      have HB := Lib.hid hbel
      clear hbel
      go_wp2
      go_returns
      exact ⟨⟨true, rfl, fun _ => HR.out⟩, HB.out⟩
end Go.Proofs.YtincgkolpicipaaDoor.twice

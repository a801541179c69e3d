/- FnChildren: spec.shapedGreat by contract: fields without a computed name. -/
import Derived.Test.YtincgkolpicipaaC01
set_option linter.unusedVariables false
set_option linter.unusedSimpArgs false
namespace Go.Proofs.Ytincgkolpicipaa.kin
open Go.RowKit
open Go.Proofs.Ytincgkolpicipaa.stack (step_after AnyBool AnyInt add_off owns_form)
set_option maxRecDepth 100000 in
set_option maxHeartbeats 2000000 in
theorem great_35a (q o cap : Nat) (ns : List Nd) (v : Value) (ks : List Nat) (hks : ∀ k ∈ ks, k < ns.length) (B : Nat) (w : World) (hrow : Row w q o ns) (hp : Plc B w v ks) (a : Nat) (n : Nd) (hn : ns[a]? = some n) (hk : n.k = 35) (hm1 : n.m = 0 ∨ n.m = 1 ∨ n.m = 4 ∨ n.m = 5) :
    Calls Try.prog 75 (greatArgs q o cap ns a v) w fun r w' => Says r (Shp ns n ks) ∧ Below w.heap.size w w' := by
  obtain ⟨c0, c1, c2, c3, c4, -⟩ := hrow a n hn
  have hal : (a : Int) < (ns.length : Int) := by have := (List.getElem?_eq_some_iff.1 hn).1; omega
  have HB0 := Lib.hid (fun (o1 : Obj) => (Below.refl w.heap.size w).alloc (Nat.le_refl _) o1)
  have HN := Lib.hid hk
  rw [hk] at c0
  rcases List.eq_nil_or_concat ks with rfl | ⟨ps, b, rfl⟩
  · obtain ⟨A, pc, rfl, -, -⟩ := hp.form
    clear hp hrow hn hks hk
    rcases hm1 with hm1 | hm1 | hm1 | hm1
    all_goals
      rw [hm1] at c3
      go_enter Try.func75, Try.ntmps75
      go_wp2
      all_goals
        go_ret
        refine ⟨.no, ?_⟩
        exact HB0.out _
  · rw [List.concat_eq_append] at hp hks ⊢
    obtain ⟨p, po, pc, rfl, hpc, hl, hBp, hpw, cb⟩ := hp.at (j := ps.length) (k := b) (by rw [List.getElem?_append_right (Nat.le_refl _)]; simp)
    obtain ⟨nb, hnb⟩ := getElem?_lt (hks b (by simp))
    have htake := hp.take rfl
    have HK := Lib.hid (fun w' cv (hb : Below w.heap.size w w') (hc : Cs w' cv [33]) => (kinds_says q o cap ns _ cv ps [33] (fun j hj => hks j (by simp [hj])) B w' (hrow.later hb) (htake.later hb) hc).mono (R' := fun r' w1 => ((r' = .returned (.bool false)) ∨ (r' = .returned (.bool true) ∧ Kd ns [33] ps)) ∧ Below w.heap.size w w1 ∧ w1.cell? ⟨p, po + ps.length, none⟩ = some (.int .i64 b)) fun r' w1 h => ⟨h.1.cases, step_after hb h.2, cell_later (step_after hb h.2) cb⟩)
    have HE := Lib.hid (fun w' (hb : Below w.heap.size w w') => expr_says q o cap ns b nb hnb w' (hrow.later hb))
    rw [List.length_append] at hpc hl ⊢
    simp only [List.length_cons, List.length_nil, Nat.zero_add] at hpc hl ⊢
    clear hp hrow hn hks hk hnb htake cb
    generalize hm : ps.length = m at hpc hl HK ⊢
    have HM := Lib.hid hm
    have w1 : IntKind.i64.wrap ((m : Int) + 1 - 1) = (m : Int) := by rw [IntWalk.i64_in _ (by omega)]; omega
    have w2 : IntKind.i64.wrap (m : Int) = (m : Int) := IntWalk.i64_in _ (by omega)
    have hml : (m : Int) < (m : Int) + 1 := by omega
    have t2 : decide ((m : Int) + 1 < 1) = false := decide_eq_false (by omega)
    clear hm
    have HM1 := Lib.hid hm1
    by_cases h0 : m = 0
    rotate_left
    · have t3 : ((m : Int) + 1 != 1) = true := by simp; omega
      clear h0
      rcases hm1 with hm1 | hm1 | hm1 | hm1
      all_goals
        rw [hm1] at c3
        go_enter Try.func75, Try.ntmps75
        go_wp2
        all_goals
          go_ret
          refine ⟨.no, ?_⟩
          exact HB0.out _
    have t3 : ((m : Int) + 1 != 1) = false := by simp; omega
    have HM0 := Lib.hid h0
    clear h0
    rcases hm1 with hm1 | hm1 | hm1 | hm1
    all_goals
      rw [hm1] at c3
      clear hm1
      cases hex : ex ns b
      · simp only [hex] at HE
        clear hex
        go_enter Try.func75, Try.ntmps75
        go_wp2_with (first | (go_at_call 74; refine (HK.out _ _ (below_two w _ _) (cs_new2 w _ [33] 3 (by decide))).mono ?_; rintro r' w1 ⟨rfl | ⟨rfl, hkd⟩, hb, cb⟩; all_goals (have HB := Lib.hid hb; clear hb); try (have HKD := Lib.hid hkd; clear hkd)) | (go_at_call 37; refine (HE.out _ HB.out).mono ?_; rintro r1 w2 ⟨rfl, rfl⟩))
        all_goals
          go_ret
          refine ⟨.no, ?_⟩
          exact HB.out
      · have HX := Lib.hid (ex_iff.1 hex)
        simp only [hex] at HE
        clear hex
        go_enter Try.func75, Try.ntmps75
        go_wp2_with (first | (go_at_call 74; refine (HK.out _ _ (below_two w _ _) (cs_new2 w _ [33] 3 (by decide))).mono ?_; rintro r' w1 ⟨rfl | ⟨rfl, hkd⟩, hb, cb⟩; all_goals (have HB := Lib.hid hb; clear hb); try (have HKD := Lib.hid hkd; clear hkd)) | (go_at_call 37; refine (HE.out _ HB.out).mono ?_; rintro r1 w2 ⟨rfl, rfl⟩))
        · go_ret
          refine ⟨.no, ?_⟩
          exact HB.out
        · go_ret
          refine ⟨.yes ?_, ?_⟩
          · have h0 := HM.out; rw [HM0.out] at h0; rw [List.length_eq_zero_iff.1 h0]; exact .field0 HN.out HM1.out HX.out
          · exact HB.out
set_option maxRecDepth 100000 in
set_option maxHeartbeats 2000000 in
theorem great_35b (q o cap : Nat) (ns : List Nd) (v : Value) (ks : List Nat) (hks : ∀ k ∈ ks, k < ns.length) (B : Nat) (w : World) (hrow : Row w q o ns) (hp : Plc B w v ks) (a : Nat) (n : Nd) (hn : ns[a]? = some n) (hk : n.k = 35) (hm1 : n.m = 8 ∨ n.m = 9) :
    Calls Try.prog 75 (greatArgs q o cap ns a v) w fun r w' => Says r (Shp ns n ks) ∧ Below w.heap.size w w' := by
  obtain ⟨c0, c1, c2, c3, c4, -⟩ := hrow a n hn
  have hal : (a : Int) < (ns.length : Int) := by have := (List.getElem?_eq_some_iff.1 hn).1; omega
  have HB0 := Lib.hid (fun (o1 : Obj) => (Below.refl w.heap.size w).alloc (Nat.le_refl _) o1)
  have HN := Lib.hid hk
  rw [hk] at c0
  rcases List.eq_nil_or_concat ks with rfl | ⟨ps, b, rfl⟩
  · obtain ⟨A, pc, rfl, -, -⟩ := hp.form
    clear hp hrow hn hks hk
    rcases hm1 with hm1 | hm1
    all_goals
      rw [hm1] at c3
      go_enter Try.func75, Try.ntmps75
      go_wp2
      all_goals
        go_ret
        refine ⟨.no, ?_⟩
        exact HB0.out _
  · rw [List.concat_eq_append] at hp hks ⊢
    obtain ⟨p, po, pc, rfl, hpc, hl, hBp, hpw, cb⟩ := hp.at (j := ps.length) (k := b) (by rw [List.getElem?_append_right (Nat.le_refl _)]; simp)
    obtain ⟨nb, hnb⟩ := getElem?_lt (hks b (by simp))
    have htake := hp.take rfl
    have HK := Lib.hid (fun w' cv (hb : Below w.heap.size w w') (hc : Cs w' cv [33]) => (kinds_says q o cap ns _ cv ps [33] (fun j hj => hks j (by simp [hj])) B w' (hrow.later hb) (htake.later hb) hc).mono (R' := fun r' w1 => ((r' = .returned (.bool false)) ∨ (r' = .returned (.bool true) ∧ Kd ns [33] ps)) ∧ Below w.heap.size w w1 ∧ w1.cell? ⟨p, po + ps.length, none⟩ = some (.int .i64 b)) fun r' w1 h => ⟨h.1.cases, step_after hb h.2, cell_later (step_after hb h.2) cb⟩)
    have HE := Lib.hid (fun w' (hb : Below w.heap.size w w') => expr_says q o cap ns b nb hnb w' (hrow.later hb))
    rw [List.length_append] at hpc hl ⊢
    simp only [List.length_cons, List.length_nil, Nat.zero_add] at hpc hl ⊢
    clear hp hrow hn hks hk hnb htake cb
    generalize hm : ps.length = m at hpc hl HK ⊢
    have HM := Lib.hid hm
    have w1 : IntKind.i64.wrap ((m : Int) + 1 - 1) = (m : Int) := by rw [IntWalk.i64_in _ (by omega)]; omega
    have w2 : IntKind.i64.wrap (m : Int) = (m : Int) := IntWalk.i64_in _ (by omega)
    have hml : (m : Int) < (m : Int) + 1 := by omega
    have t2 : decide ((m : Int) + 1 < 1) = false := decide_eq_false (by omega)
    clear hm
    have HM1 := Lib.hid hm1
    rcases hm1 with hm1 | hm1
    all_goals
      rw [hm1] at c3
      clear hm1
      cases hex : ex ns b
      · simp only [hex] at HE
        clear hex
        go_enter Try.func75, Try.ntmps75
        go_wp2_with (first | (go_at_call 74; refine (HK.out _ _ (below_two w _ _) (cs_new2 w _ [33] 3 (by decide))).mono ?_; rintro r' w1 ⟨rfl | ⟨rfl, hkd⟩, hb, cb⟩; all_goals (have HB := Lib.hid hb; clear hb); try (have HKD := Lib.hid hkd; clear hkd)) | (go_at_call 37; refine (HE.out _ HB.out).mono ?_; rintro r1 w2 ⟨rfl, rfl⟩))
        all_goals
          go_ret
          refine ⟨.no, ?_⟩
          exact HB.out
      · have HX := Lib.hid (ex_iff.1 hex)
        simp only [hex] at HE
        clear hex
        go_enter Try.func75, Try.ntmps75
        go_wp2_with (first | (go_at_call 74; refine (HK.out _ _ (below_two w _ _) (cs_new2 w _ [33] 3 (by decide))).mono ?_; rintro r' w1 ⟨rfl | ⟨rfl, hkd⟩, hb, cb⟩; all_goals (have HB := Lib.hid hb; clear hb); try (have HKD := Lib.hid hkd; clear hkd)) | (go_at_call 37; refine (HE.out _ HB.out).mono ?_; rintro r1 w2 ⟨rfl, rfl⟩))
        · go_ret
          refine ⟨.no, ?_⟩
          exact HB.out
        · go_ret
          refine ⟨.yes ?_, ?_⟩
          · exact .field2 HN.out HM1.out HKD.out HX.out
          · exact HB.out
end Go.Proofs.Ytincgkolpicipaa.kin

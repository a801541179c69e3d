/- sameElement and sameFodder of what is the same. -/
import Derived.Test.YtfdkgaipakannaaFod
import Derived.Deep.QuietTactic
namespace Go.Proofs.Ytfdkgaipakannaa.split
open Go.RowKit Go.Sort
set_option maxRecDepth 100000 in
set_option maxHeartbeats 2000000 in
theorem sameEl_any (el : El) (va vb : Value) (w : World) (ha : Strs w va el.c) (hb : Strs w vb el.c) :
    Calls Try.prog 25 #[.agg #[.int .i64 el.k, .int .i64 el.b, .int .i64 el.n, va], .agg #[.int .i64 el.k, .int .i64 el.b, .int .i64 el.n, vb]] w fun e w' => e = .returned (.bool true) ∧ Below w.heap.size w w' := by
  have HA := Lib.hid (fun w' (h : Below w.heap.size w w') => ha.later h)
  have HB := Lib.hid (fun w' (h : Below w.heap.size w w') => hb.later h)
  obtain ⟨A, cap, rfl, hl, -⟩ := ha
  obtain ⟨A', cap', rfl, -, -⟩ := hb
  generalize el.b = b at *
  generalize el.n = m at *
  generalize el.k = kk at *
  go_enter Try.func25, Try.ntmps25
  go_wp2
  have hbW : Below w.heap.size w ((w.alloc (.cells #[.int .i64 kk, .int .i64 b, .int .i64 m, .slice A el.c.length cap] 34)).alloc (.cells #[.int .i64 kk, .int .i64 b, .int .i64 m, .slice A' el.c.length cap'] 34)) := ((Below.refl _ _).alloc (Nat.le_refl _) _).alloc (by simp) _
  have c3 : ((w.alloc (.cells #[.int .i64 kk, .int .i64 b, .int .i64 m, .slice A el.c.length cap] 34)).alloc (.cells #[.int .i64 kk, .int .i64 b, .int .i64 m, .slice A' el.c.length cap'] 34)).cell? ⟨w.heap.size, 3, none⟩ = some (.slice A el.c.length cap) := by simp [go_sem]
  have c4 : ((w.alloc (.cells #[.int .i64 kk, .int .i64 b, .int .i64 m, .slice A el.c.length cap] 34)).alloc (.cells #[.int .i64 kk, .int .i64 b, .int .i64 m, .slice A' el.c.length cap'] 34)).cell? ⟨w.heap.size + 1, 3, none⟩ = some (.slice A' el.c.length cap') := by simp [go_sem]
  have HBW := Lib.hid hbW
  clear hbW
  generalize ((w.alloc (.cells #[.int .i64 kk, .int .i64 b, .int .i64 m, .slice A el.c.length cap] 34)).alloc (.cells #[.int .i64 kk, .int .i64 b, .int .i64 m, .slice A' el.c.length cap'] 34)) = W at c3 c4 HBW ⊢
  go_loopw [5] (fun i wr => ∃ k q : Nat, k ≤ el.c.length ∧ i = .int .i64 k ∧ wr = W.drewN q) (fun i _ => el.c.length - (intOf i).toNat)
  case atStart => exact ⟨0, 0, Nat.zero_le _, rfl, rfl⟩
  case round =>
    obtain ⟨k, nq, hk, rfl, rfl⟩ := hrel
    by_cases hlt : k < el.c.length
    · obtain ⟨s, hs⟩ : ∃ s, el.c[k]? = some s := ⟨_, List.getElem?_eq_getElem hlt⟩
      obtain ⟨X1, e1, t1, -, t2⟩ := HA.out W HBW.out
      cases t1
      obtain ⟨-, q, o, rfl, d1⟩ := t2 k s hs
      obtain ⟨X2, e2, t3, -, t4⟩ := HB.out W HBW.out
      cases t3
      obtain ⟨-, q', o', rfl, d2⟩ := t4 k s hs
      have hki : (k : Int) < (el.c.length : Int) := by omega
      clear hs t2 t4
      go_wp2
      go_quiet (fail)
      go_wp2
      exact ⟨⟨k + 1, _, by omega, by go_num, rfl⟩, by simp [intOf]; omega⟩
    · have hki : ¬ (k : Int) < (el.c.length : Int) := by omega
      go_wp2
      go_ret
      exact ⟨rfl, HBW.out.os, HBW.out.tape, HBW.out.output, HBW.out.size, HBW.out.block⟩
set_option maxRecDepth 100000 in
set_option maxHeartbeats 2000000 in
theorem same_any (va vb : Value) (es : List El) (w : World) (ha : Els w va es) (hb : Els w vb es) : Calls Try.prog 13 #[va, vb] w fun e w' => e = .returned (.bool true) ∧ Below w.heap.size w w' := by
  obtain ⟨A, cap, rfl, hl, h1⟩ := ha
  obtain ⟨A', cap', rfl, -, h2⟩ := hb
  have H1 := Lib.hid h1
  have H2 := Lib.hid h2
  clear h1 h2
  go_enter Try.func13, Try.ntmps13
  go_wp2
  go_loopw [5] (fun i wr => ∃ k : Nat, k ≤ es.length ∧ i = .int .i64 k ∧ Below w.heap.size w wr) (fun i _ => es.length - (intOf i).toNat)
  case atStart => exact ⟨0, Nat.zero_le _, rfl, Below.refl _ _⟩
  case round =>
    obtain ⟨k, hk, rfl, hb⟩ := hrel
    by_cases hlt : k < es.length
    · obtain ⟨s, hs⟩ : ∃ s, es[k]? = some s := ⟨_, List.getElem?_eq_getElem hlt⟩
      obtain ⟨q, o, rfl, hc⟩ := H1.out k s hs
      obtain ⟨q', o', rfl, hc'⟩ := H2.out k s hs
      obtain ⟨c0, c1, c2, cv, c3, hst⟩ := hc.later hb
      obtain ⟨e0, e1, e2, dv, e3, hst'⟩ := hc'.later hb
      obtain ⟨A3, cap3, rfl⟩ := hst.form
      obtain ⟨A4, cap4, rfl⟩ := hst'.form
      have HE := Lib.hid (fun d os => Calls.regrown_of (sameEl_any s _ _ (grow (redrawn wr d) os) (hst.later (below_regrown wr d os)) (hst'.later (below_regrown wr d os))))
      have HB := Lib.hid hb
      have hki : (k : Int) < (es.length : Int) := by omega
      have k0 := fun d os => cell_regrown c0 d os
      have k1 := fun d os => cell_regrown c1 d os
      have k2 := fun d os => cell_regrown c2 d os
      have k3 := fun d os => cell_regrown c3 d os
      have l0 := fun d os => cell_regrown e0 d os
      have l1 := fun d os => cell_regrown e1 d os
      have l2 := fun d os => cell_regrown e2 d os
      have l3 := fun d os => cell_regrown e3 d os
      clear hs hst hst' hb hc hc' c0 c1 c2 c3 e0 e1 e2 e3
      go_wp2_with fail
      refine wp_region_quiet_below (by kernel_rfl) (by kernel_rfl) ?_
      repeat (go_big_quiet_step (exact HE.out _ _))
      refine wpQuiet_nil ?_
      intro _ hw'
      obtain ⟨⟨dq, osq⟩, hw''⟩ := hw'
      subst hw''
      go_wp2
      exact ⟨⟨k + 1, by omega, by go_num, HB.out.trans ((below_regrown wr dq osq).mono HB.out.size)⟩, by simp [intOf]; omega⟩
    · have hki : ¬ (k : Int) < (es.length : Int) := by omega
      have HB := Lib.hid hb
      clear hb
      go_wp2
      go_ret
      exact ⟨rfl, HB.out⟩
end Go.Proofs.Ytfdkgaipakannaa.split

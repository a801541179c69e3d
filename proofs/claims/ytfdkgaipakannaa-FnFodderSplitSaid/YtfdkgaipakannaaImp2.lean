/- impl.FodderAppend by contract. -/
import Derived.Test.YtfdkgaipakannaaImp
namespace Go.Proofs.Ytfdkgaipakannaa.split
open Go.RowKit
theorem els_one {W : World} {q : Nat} {e : El} {cv : Value} (h : W.heap[q]? = some (.cells #[.int .i64 e.k, .int .i64 e.b, .int .i64 e.n, cv] 34 (0, 0))) (hs : Strs W cv e.c) : Els W (.slice (some ⟨q, 0, none⟩) 1 1) [e] := by
  obtain ⟨c0, c1, c2, c3⟩ := four_cells h
  refine ⟨some ⟨q, 0, none⟩, 1, rfl, by simp, fun i x hx => ?_⟩
  have hi : i = 0 := by have := (List.getElem?_eq_some_iff.1 hx).1; simp at this; exact this
  subst hi
  have : e = x := by simpa using hx
  subst this
  exact ⟨q, 0, rfl, c0, c1, c2, cv, c3, hs⟩
theorem owna_one {W : World} {base B : Nat} {v : Value} {ps : List (Value × El)} {e : El} (h : OwnA W base B v ps) (hm : ps.map (·.2) = [e]) : ∃ g cap A c, v = .slice (some ⟨g, 0, none⟩) 1 cap ∧ W.cell? ⟨g, 0, none⟩ = some (.slice A e.c.length c) ∧ W.cell? ⟨g, 1, none⟩ = some (.int .i64 e.k) ∧ W.cell? ⟨g, 2, none⟩ = some (.int .i64 e.b) ∧ W.cell? ⟨g, 3, none⟩ = some (.int .i64 e.n) ∧ Cmt B W (.slice A e.c.length c) e.c := by
  match ps, hm with
  | [p], hm =>
    have hp : p.2 = e := by simpa using hm
    obtain ⟨A, cap, rfl, -, -, hg⟩ := owns_form h.1
    obtain ⟨g, rfl⟩ := hg (show 0 < 1 by decide)
    have hc := h.2 p (by simp)
    rw [hp] at hc
    obtain ⟨A2, c2, hv⟩ := hc.1.form
    refine ⟨g, cap, A2, c2, rfl, ?_, ?_, ?_, ?_, by rw [← hv]; exact hc⟩
    · rw [h.1.cellAt 0 (show 0 < 4 by decide)]; simp [rowA, hv]
    · rw [h.1.cellAt 1 (show 1 < 4 by decide)]; simp [rowA, hp]
    · rw [h.1.cellAt 2 (show 2 < 4 by decide)]; simp [rowA, hp]
    · rw [h.1.cellAt 3 (show 3 < 4 by decide)]; simp [rowA, hp]
set_option maxRecDepth 100000 in
set_option maxHeartbeats 2000000 in
theorem fodderAppend_any (v : Value) (es : List El) (e : El) (A : Option Addr) (cap : Nat) (w : World) (h : Els w v es) (hs : Strs w (.slice A e.c.length cap) e.c) (hk : ∀ x ∈ es, KindOk x) (hke : KindOk e) (hno : clean es = true → e.k ≠ 0) (hl : es.length ≤ 500) :
    Calls Try.prog 14 #[v, .agg #[.int .i64 e.k, .int .i64 e.b, .int .i64 e.n, .slice A e.c.length cap]] w fun e' w' => ∃ v', e' = .returned (.tuple #[v', .bool true]) ∧ Els w' v' (appF es e) ∧ Below w.heap.size w w' := by
  have hapl := appF_len es e
  have hapc : ∀ x ∈ appF es e, x.c.length ≤ 1000 := fun x hx => by
    unfold appF at hx
    split at hx
    · simp at hx
      rcases hx with hx | rfl | rfl
      · exact (hk x hx).c
      · simp
      · exact hke.c
    · simp at hx
      rcases hx with hx | rfl
      · exact (hk x hx).c
      · exact hke.c
  have H1 := Lib.hid (fun w' (hb : Below w.heap.size w w') => fodder_made w.heap.size v es w' hb.size (h.later hb) hk (by omega))
  have H2 := Lib.hid (fun q w' (hb : Below w.heap.size w w') (hq : w'.heap[q]? = some (.cells #[.int .i64 e.k, .int .i64 e.b, .int .i64 e.n, .slice A e.c.length cap] 34 (0, 0))) => fodder_made w.heap.size (.slice (some ⟨q, 0, none⟩) 1 1) [e] w' hb.size (els_one hq (hs.later hb)) (fun x hx => by obtain rfl := List.mem_singleton.1 hx; exact hke) (by simp))
  have H3 := Lib.hid (fun base pb v1 ps A1 c1 w' (hB : w.heap.size ≤ base) (hpb : w.heap.size ≤ pb) (hbase : base ≤ w'.heap.size) hslot hown (hm : ps.map (·.2) = es) hcm => append_any w.heap.size base pb v1 ps e A1 c1 w' hB hpb hbase hslot hown hcm (by have := congrArg List.length hm; simp at this; omega) (by rw [hm]; exact hno))
  have H4 := Lib.hid (fun v' w' (hb : Below w.heap.size w w') (h' : AEls w.heap.size w' v' (appF es e)) => elements_made w.heap.size v' (appF es e) w' hb.size h' hapc (by omega))
  clear h hs hk hke hno hl hapl hapc
  go_enter Try.func14, Try.ntmps14
  go_wp2_with fail
  have hbA : Below w.heap.size w (w.alloc (.cells #[.int .i64 e.k, .int .i64 e.b, .int .i64 e.n, .slice A e.c.length cap] 34)) := (Below.refl _ _).alloc (Nat.le_refl _) _
  have hnew := heap_alloc_new w (.cells #[.int .i64 e.k, .int .i64 e.b, .int .i64 e.n, .slice A e.c.length cap] 34)
  have HBA := Lib.hid hbA
  have HNEW := Lib.hid hnew
  clear hbA hnew
  generalize (w.alloc (.cells #[.int .i64 e.k, .int .i64 e.b, .int .i64 e.n, .slice A e.c.length cap] 34)) = wA at HBA HNEW ⊢
  refine (H1.out wA HBA.out).mono ?_
  rintro e' w1 ⟨v1, rfl, ps, hps, hown, hb1⟩
  rw [List.take_of_length_le (Nat.le_refl _)] at hps
  obtain ⟨A1, cap1, hv1, -, -, -⟩ := owns_form hown.1
  subst hv1
  have HPS := Lib.hid hps
  have HOWN := Lib.hid hown
  have HB1 := Lib.hid hb1
  have hrow1 := (hb1.block _ (Array.getElem?_eq_some_iff.1 HNEW.out).1).trans HNEW.out
  have hb1' : Below w1.heap.size w1 (w1.alloc (.cells #[.slice A1 ps.length cap1] 44)) := (Below.refl _ _).alloc (Nat.le_refl _) _
  have hrow2 := (hb1'.block _ (Array.getElem?_eq_some_iff.1 hrow1).1).trans hrow1
  obtain ⟨c0, c1, c2, c3⟩ := four_cells hrow2
  have HB1' := Lib.hid hb1'
  clear hps hown hb1 hrow1 hrow2 hb1'
  go_wp2_with fail
  have hbX : Below w.heap.size w ((w1.alloc (.cells #[.slice A1 ps.length cap1] 44)).alloc (.cells #[.int .i64 e.k, .int .i64 e.b, .int .i64 e.n, .slice A e.c.length cap] 34)) := step_after (step_after (step_after HBA.out HB1.out) HB1'.out) ((Below.refl _ _).alloc (Nat.le_refl _) _)
  have hbY : Below w1.heap.size w1 ((w1.alloc (.cells #[.slice A1 ps.length cap1] 44)).alloc (.cells #[.int .i64 e.k, .int .i64 e.b, .int .i64 e.n, .slice A e.c.length cap] 34)) := step_after HB1'.out ((Below.refl _ _).alloc (Nat.le_refl _) _)
  have hsl0 : ((w1.alloc (.cells #[.slice A1 ps.length cap1] 44)).alloc (.cells #[.int .i64 e.k, .int .i64 e.b, .int .i64 e.n, .slice A e.c.length cap] 34)).heap[w1.heap.size]? = some (.cells #[.slice A1 ps.length cap1] 44 (0, 0)) := by
    rw [Below.heap_alloc _ _ _ (by simp)]; exact heap_alloc_new w1 _
  have hel0 : ((w1.alloc (.cells #[.slice A1 ps.length cap1] 44)).alloc (.cells #[.int .i64 e.k, .int .i64 e.b, .int .i64 e.n, .slice A e.c.length cap] 34)).heap[w1.heap.size + 1]? = some (.cells #[.int .i64 e.k, .int .i64 e.b, .int .i64 e.n, .slice A e.c.length cap] 34 (0, 0)) := by
    have := heap_alloc_new (w1.alloc (.cells #[.slice A1 ps.length cap1] 44)) (.cells #[.int .i64 e.k, .int .i64 e.b, .int .i64 e.n, .slice A e.c.length cap] 34)
    simpa using this
  have HBX := Lib.hid hbX
  have HBY := Lib.hid hbY
  have HSL0 := Lib.hid hsl0
  have HEL0 := Lib.hid hel0
  clear hbX hbY hsl0 hel0 c0 c1 c2 c3
  generalize ((w1.alloc (.cells #[.slice A1 ps.length cap1] 44)).alloc (.cells #[.int .i64 e.k, .int .i64 e.b, .int .i64 e.n, .slice A e.c.length cap] 34)) = wX at HBX HBY HSL0 HEL0 ⊢
  refine (H2.out _ wX HBX.out HEL0.out).mono ?_
  rintro e' w2 ⟨v2, rfl, ps2, hps2, hown2, hb2⟩
  rw [List.take_of_length_le (Nat.le_refl _)] at hps2
  obtain ⟨g, capg, A3, c3, rfl, d0, d1, d2, d3, hcm2⟩ := owna_one hown2 hps2
  have HCM2 := Lib.hid hcm2
  have HB2 := Lib.hid (step_after HBX.out hb2)
  have HSL2 := Lib.hid ((hb2.block _ (Array.getElem?_eq_some_iff.1 HSL0.out).1).trans HSL0.out)
  have HOWN2 := Lib.hid (HOWN.out.later (step_after HBY.out hb2))
  have HBASE := Lib.hid (Nat.le_trans (Nat.le_trans HB1.out.size HBY.out.size) hb2.size)
  have HPB := Lib.hid (step_after HBA.out HB1.out).size
  clear hps2 hown2 hb2 hcm2
  go_wp2_with fail
  refine (H3.out wA.heap.size w1.heap.size _ ps A3 c3 w2 HBA.out.size HPB.out HBASE.out HSL2.out HOWN2.out HPS.out HCM2.out).mono ?_
  rintro e' w3 ⟨rfl, ⟨v4, ps4, hs4, ho4, hm4, -⟩, hx4⟩
  have hp4 := cell_of_one hs4
  have HB4 := Lib.hid (show Below w.heap.size w w3 from HB2.out.trans (hx4.toBelow HB2.out.size (fun i hi => by
    rcases hi with rfl | hi
    · exact HPB.out
    · exact Nat.le_trans HBA.out.size (HOWN2.out.1.lt i hi).1)))
  have HR4 : Hid (AEls w.heap.size w3 v4 (appF es e)) := by have := ho4.reads; rw [hm4, HPS.out] at this; exact this
  clear hs4 ho4 hm4 hx4 d0 d1 d2 d3
  go_wp2_with fail
  refine (H4.out _ _ HB4.out HR4.out).mono ?_
  rintro e' w5 ⟨v5, rfl, ps5, hps5, hown5, hb5⟩
  have HR5 : Hid (Els w5 v5 (appF es e)) := by have := hown5.reads; rw [hps5, List.take_of_length_le (Nat.le_refl _)] at this; exact this
  have HB5 := Lib.hid (step_after HB4.out hb5)
  clear hps5 hown5 hb5
  go_wp2
  go_ret2
  exact ⟨v5, rfl, HR5.out, HB5.out⟩
end Go.Proofs.Ytfdkgaipakannaa.split

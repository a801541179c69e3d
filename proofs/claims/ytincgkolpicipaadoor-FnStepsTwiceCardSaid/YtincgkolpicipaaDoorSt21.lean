/- FnStepsTwice: put7 by contract, walked. -/
import Derived.Test.YtincgkolpicipaaDoorSt20
import Derived.Deep.RegionLaw
namespace Go.Proofs.YtincgkolpicipaaDoor.twice
open Go.RowKit Go.Deep
theorem run_append_zero {w : World} {e : TypeId} {i : TypeInfo} (t ty : TypeId) (ht : Tryd.prog.underlying t = some (.slice e)) (hi : Tryd.prog.info? e = some i) (b off n cap : Nat) (A : Addr) (c : Nat) (hn : n ≤ cap) : (Builtin.append_ #[t, t] ty #[.slice (some ⟨b, off, none⟩) n cap, .slice (some A) 0 c]).run Tryd.prog w = .ok (.slice (some ⟨b, off, none⟩) n cap) w := by
  have h := run_append_room_src (P := Tryd.prog) w t t ty e i ht hi b off n cap (.slice (some A) 0 c) 0 [] (Src.ofSlice w ht A 0 c [] (by simp) (fun j u h => by simp at h) (fun u h => by cases h)) (by omega) (fun j h => by simp at h) (fun j h => by simp at h)
  have e : w.setCells b (off + n * i.size) [] = w := rfl
  rw [e] at h
  simpa using h
theorem wpList_append_zero {w : World} {ops : Array Oper} {rest : List Oper} {o : Oper} {a : Act} {Q : Exit → Act → World → Prop} {e : TypeId} {i : TypeInfo} (hgd : o.guard = none) (s x : Operand) (t : TypeId) (ho : o.op = .call { callee := .builtin .append, args := #[s, x], argTypes := #[t, t] })
    (ht : Tryd.prog.underlying t = some (.slice e)) (hi : Tryd.prog.info? e = some i) (b off n cap : Nat) (hs : a.eval s = .slice (some ⟨b, off, none⟩) n cap) (A : Addr) (m c : Nat) (hm : m = 0) (hx : a.eval x = .slice (some A) m c) (hn : n ≤ cap) (h : wpList Tryd.prog ops Q rest (a.put o.dst (.slice (some ⟨b, off, none⟩) (n + m) cap)) w) : wpList Tryd.prog ops Q (o :: rest) a w := by
  subst hm
  refine wpList_plain hgd fun K' hK' => ?_
  unfold Oper.wp
  simp [execOp, ho, resolve, invoke, builtin, hs, hx, run_append_zero t o.type ht hi b off n cap A c hn, Result.andThen]
  exact hK' _ _ h
set_option maxRecDepth 100000 in
set_option maxHeartbeats 8000000 in
theorem put7_any (v mv : Value) (es : List Sp) (i : Nat) (s : Sp) (w : World) (h : Sps w v es) (hs : es[i]? = some s) (hl : es.length ≤ 12) (hm : Sps w mv [s]) : Calls Tryd.prog 7 #[v, .int .i64 i, mv] w fun e w' => Below w.heap.size w w' ∧ ∃ v', e = .returned v' ∧ Sps w' v' (put es i) := by
  obtain ⟨A, cap, ps, rfl, hcp, hC⟩ := h.cells
  obtain ⟨Am, capm, pm, rfl, hcpm, hCm⟩ := hm.cells
  have hi : i < es.length := (List.getElem?_eq_some_iff.1 hs).1
  have hpl : ps.length = es.length := by rw [← hC.es]; simp
  have hpml : pm.length = 1 := by have := congrArg List.length hCm.es; simpa using this
  obtain ⟨p0, hp0⟩ : ∃ p, ps[0]? = some p := ⟨_, List.getElem?_eq_getElem (by omega)⟩
  obtain ⟨q, o, rfl, -⟩ := hC.cell 0 p0 hp0
  obtain ⟨m0, hm0⟩ : ∃ p, pm[0]? = some p := ⟨_, List.getElem?_eq_getElem (by omega)⟩
  obtain ⟨qm, om, rfl, -⟩ := hCm.cell 0 m0 hm0
  have HC := Lib.hid (hC.at rfl)
  have HCM := Lib.hid (hCm.at rfl)
  have HONE := Lib.hid hC.one
  have HONM := Lib.hid hCm.one
  have HPL := Lib.hid hpl
  have HPM := Lib.hid hpml
  have HFIN := Lib.hid (fun W v' (h1 : W.ownsRow w.heap.size 29 4 v' (ps.take i ++ pm ++ ps.drop i).length (rowP (ps.take i ++ pm ++ ps.drop i))) (hb : Below w.heap.size w W) => (by
    have h2 := sps_of_row h1 hb (fun p hp => by
      rcases List.mem_append.1 hp with hp | hp
      · rcases List.mem_append.1 hp with hp | hp
        · exact hC.more p (List.mem_of_mem_take hp)
        · exact hCm.more p hp
      · exact hC.more p (List.mem_of_mem_drop hp))
    rw [List.map_append, List.map_append, List.map_take, List.map_drop, hC.es, hCm.es] at h2
    rw [put_eq hs]
    simpa using h2 : Sps W v' (put es i)))
  obtain ⟨i29, hi9, hz0, hz1, hz2⟩ := info_parts' Tryd.info29
  have HI : Hid (Tryd.prog.info? 29 = some i29 ∧ i29.zero = some (.agg #[.bool false, .string { data := #[] }, .slice none 0 0, .slice none 0 0]) ∧ i29.size = 4 ∧ i29.bytes = 72) := ⟨hi9, hz0, hz1, hz2⟩
  clear hi9 hz0 hz1 hz2 h hm hC hCm hp0 hm0 hpl hpml hs
  have hE : (w.alloc (.cells #[] 29)).ownsRow w.heap.size 29 4 (.slice (some ⟨w.heap.size, 0, none⟩) 0 0) 0 [] := ⟨rfl, .inr ⟨w.heap.size, 0, #[], rfl, Nat.le_refl _, heap_alloc_new _ _, Nat.le_refl _, by simp [maxLen], rfl, rfl⟩⟩
  have HE := Lib.hid hE
  clear hE
  generalize es.length = n at *
  have g1 : (i : Int) ≤ (n : Int) := by omega
  have g2 : (i : Int) ≤ (cap : Int) := by omega
  have g3 : (0 : Int) ≤ (i : Int) := by omega
  have g5 : ¬ cap = i := by omega
  have g4 : (n : Int) ≤ (cap : Int) := by omega
  have HS0 := Lib.hid (show Below w.heap.size w (w.alloc (.cells #[] 29)) from ba1 _ _)
  have HCL := Lib.hid (fun W (hb : Below w.heap.size w W) j u hu => cell_later hb (HC.out j u hu))
  have HML := Lib.hid (fun W (hb : Below w.heap.size w W) j u hu => cell_later hb (HCM.out j u hu))
  have HTK := Lib.hid (show (rowP (ps.take i)).length = i * 4 by rw [rowP_len]; have := HPL.out; simp; omega)
  have HPT := Lib.hid (show rowP ps = rowP (ps.take i) ++ rowP (ps.drop i) by rw [← rowP_append, List.take_append_drop])
  have HLEN := Lib.hid (show (ps.take i ++ pm ++ ps.drop i).length = i + 1 + (n - i) by have h1 := HPL.out; have h2 := HPM.out; simp; omega)
  by_cases hi0 : i = 0
  · have HI0 := Lib.hid hi0
    clear hi0
    go_enter Tryd.func7, Tryd.ntmps7
    go_wp2_with (at_builtin; refine wpList_append_zero rfl (.tmp 8) (.tmp 11) 22 rfl Tryd.underlying22 HI.out.1 w.heap.size 0 0 0 rfl ⟨q, o, none⟩ i cap HI0.out rfl (Nat.le_refl _) ?_)
    obtain ⟨w1, hw1⟩ : ∃ w1, w1 = w.alloc (.cells #[] 29) := ⟨_, rfl⟩
    have HO1 := Lib.hid (show w1.ownsRow w.heap.size 29 4 (.slice (some ⟨w.heap.size, 0, none⟩) i 0) i (rowP (ps.take i)) by rw [hw1, HI0.out]; exact HE.out)
    have HB1 := Lib.hid (show Below w.heap.size w w1 by rw [hw1]; exact HS0.out)
    rw [← hw1]
    clear hw1
    have HO1' := Lib.hid (show ∀ W', Below w1.heap.size w1 W' → W'.ownsRow w.heap.size 29 4 (.slice (some ⟨w.heap.size, 0, none⟩) i 0) i (rowP (ps.take i)) from fun W' hb => owns_chg HO1.out (Chg.below (X := fun _ => False) hb) fun _ _ h => h)
    clear HO1
    go_region_law
      (first
        | (refine step_append_lies _ rfl (.tmp 13) (.tmp 14) 22 rfl w.heap.size 29 i29 _ 4 72 Tryd.underlying22 HI.out.1 HI.out.2.1 HI.out.2.2.1 HI.out.2.2.2 rfl (by decide) (.slice (some ⟨w.heap.size, 0, none⟩) i 0) i (rowP (ps.take i)) rfl (HO1'.out _ (Below.refl _ _).drew) ⟨qm, om, none⟩ 1 capm (rowP pm) rfl (by rw [rowP_len, HPM.out]) (fun j u hu => by rw [add_off]; exact HML.out _ HB1.out.drew j u hu) HONM.out (by decide) (by rw [maxLen_eq]; omega) (by omega) HB1.out.drew.size _ rfl ?_
           intro g2 cp2 w2 ho2 hg2 hat2 hl2
           have HO2 := Lib.hid ho2
           have HB2 := Lib.hid (show Below w.heap.size w w2 from HB1.out.drew.trans (((Chg.refl (fun k => k = w.heap.size) _).grown hg2 fun k hk _ => by injection hk with e; exact e.symm).toBelow HB1.out.drew.size fun k hk => by have := (World.ownsRow.lt (HO1'.out _ (Below.refl _ _)) w.heap.size rfl).1; omega))
           have HG2 := Lib.hid (World.ownsRow.lt ho2 g2 rfl).1
           clear ho2 hg2 hat2 hl2)
        | (refine step_append_lies _ rfl (.tmp 15) (.tmp 18) 22 rfl w.heap.size 29 i29 _ 4 72 Tryd.underlying22 HI.out.1 HI.out.2.1 HI.out.2.2.1 HI.out.2.2.2 rfl (by decide) (.slice (some ⟨g2, 0, none⟩) (i + 1) cp2) (i + 1) (rowP (ps.take i) ++ rowP pm) rfl HO2.out ⟨q, o + i * 4, none⟩ (n - i) (cap - i) (rowP (ps.drop i)) rfl (by rw [rowP_len]; have := HPL.out; simp; omega) (fun j u hu => by rw [add_off, Nat.add_assoc]; exact HCL.out _ HB2.out (i * 4 + j) u (by rw [HPT.out, List.getElem?_append_right (by rw [HTK.out]; omega), HTK.out, Nat.add_sub_cancel_left]; exact hu)) (fun u hu => HONE.out u (by rw [HPT.out]; exact List.mem_append_right _ hu)) (by omega) (by rw [maxLen_eq]; omega) (by omega) HB2.out.size _ rfl ?_
           intro g3 cp3 w3 ho3 hg3 hat3 hl3
           have HO3 := Lib.hid ho3
           have HB3 := Lib.hid (show Below w.heap.size w w3 from HB2.out.trans (((Chg.refl (fun k => k = g2) _).grown hg3 fun k hk _ => by injection hk with e; exact e.symm).toBelow HB2.out.size fun k hk => by have := HG2.out; omega))
           clear ho3 hg3 hat3 hl3))
    go_wp2_with fail
    go_returns
    exact ⟨HB3.out, _, rfl, HFIN.out _ _ (by rw [HLEN.out, rowP_append, rowP_append]; exact HO3.out) HB3.out⟩
  · have HI0 := Lib.hid hi0
    go_enter Tryd.func7, Tryd.ntmps7
    go_wp2_with (at_builtin; refine wpList_append_lies _ rfl (.tmp 8) (.tmp 11) 22 rfl w.heap.size 29 i29 _ 4 72 Tryd.underlying22 HI.out.1 HI.out.2.1 HI.out.2.2.1 HI.out.2.2.2 rfl (by decide) (.slice (some ⟨w.heap.size, 0, none⟩) 0 0) 0 [] rfl HE.out ⟨q, o, none⟩ i cap (rowP (ps.take i)) rfl HTK.out (fun j u hu => by rw [add_off]; exact HCL.out _ HS0.out j u (by rw [HPT.out, List.getElem?_append_left (List.getElem?_eq_some_iff.1 hu).1]; exact hu)) (fun u hu => HONE.out u (by rw [HPT.out]; exact List.mem_append_left _ hu)) (by have := HI0.out; omega) (by rw [maxLen_eq]; omega) (by omega) HS0.out.size _ rfl ?_; intro g1 cp1 w1 ho1 hg1 hat1 hl1; have HO1 := Lib.hid (show w1.ownsRow w.heap.size 29 4 (.slice (some ⟨g1, 0, none⟩) i cp1) i (rowP (ps.take i)) by simpa using ho1); have HB1 := Lib.hid (show Below w.heap.size w w1 from HS0.out.trans (((Chg.refl (fun k => k = w.heap.size) _).grown hg1 fun k hk _ => by injection hk with e; exact e.symm).toBelow HS0.out.size fun k hk => by omega)); clear ho1 hg1 hat1 hl1)
    have HO1' := Lib.hid (show ∀ W', Below w1.heap.size w1 W' → W'.ownsRow w.heap.size 29 4 (.slice (some ⟨g1, 0, none⟩) i cp1) i (rowP (ps.take i)) from fun W' hb => owns_chg HO1.out (Chg.below (X := fun _ => False) hb) fun _ _ h => h)
    clear HO1
    go_region_law
      (first
        | (refine step_append_lies _ rfl (.tmp 13) (.tmp 14) 22 rfl w.heap.size 29 i29 _ 4 72 Tryd.underlying22 HI.out.1 HI.out.2.1 HI.out.2.2.1 HI.out.2.2.2 rfl (by decide) (.slice (some ⟨g1, 0, none⟩) i cp1) i (rowP (ps.take i)) rfl (HO1'.out _ (Below.refl _ _).drew) ⟨qm, om, none⟩ 1 capm (rowP pm) rfl (by rw [rowP_len, HPM.out]) (fun j u hu => by rw [add_off]; exact HML.out _ HB1.out.drew j u hu) HONM.out (by decide) (by rw [maxLen_eq]; omega) (by omega) HB1.out.drew.size _ rfl ?_
           intro g2 cp2 w2 ho2 hg2 hat2 hl2
           have HO2 := Lib.hid ho2
           have HB2 := Lib.hid (show Below w.heap.size w w2 from HB1.out.drew.trans (((Chg.refl (fun k => k = g1) _).grown hg2 fun k hk _ => by injection hk with e; exact e.symm).toBelow HB1.out.drew.size fun k hk => by have := (World.ownsRow.lt (HO1'.out _ (Below.refl _ _)) g1 rfl).1; omega))
           have HG2 := Lib.hid (World.ownsRow.lt ho2 g2 rfl).1
           clear ho2 hg2 hat2 hl2)
        | (refine step_append_lies _ rfl (.tmp 15) (.tmp 18) 22 rfl w.heap.size 29 i29 _ 4 72 Tryd.underlying22 HI.out.1 HI.out.2.1 HI.out.2.2.1 HI.out.2.2.2 rfl (by decide) (.slice (some ⟨g2, 0, none⟩) (i + 1) cp2) (i + 1) (rowP (ps.take i) ++ rowP pm) rfl HO2.out ⟨q, o + i * 4, none⟩ (n - i) (cap - i) (rowP (ps.drop i)) rfl (by rw [rowP_len]; have := HPL.out; simp; omega) (fun j u hu => by rw [add_off, Nat.add_assoc]; exact HCL.out _ HB2.out (i * 4 + j) u (by rw [HPT.out, List.getElem?_append_right (by rw [HTK.out]; omega), HTK.out, Nat.add_sub_cancel_left]; exact hu)) (fun u hu => HONE.out u (by rw [HPT.out]; exact List.mem_append_right _ hu)) (by omega) (by rw [maxLen_eq]; omega) (by omega) HB2.out.size _ rfl ?_
           intro g3 cp3 w3 ho3 hg3 hat3 hl3
           have HO3 := Lib.hid ho3
           have HB3 := Lib.hid (show Below w.heap.size w w3 from HB2.out.trans (((Chg.refl (fun k => k = g2) _).grown hg3 fun k hk _ => by injection hk with e; exact e.symm).toBelow HB2.out.size fun k hk => by have := HG2.out; omega))
           clear ho3 hg3 hat3 hl3))
    go_wp2_with fail
    go_returns
    exact ⟨HB3.out, _, rfl, HFIN.out _ _ (by rw [HLEN.out, rowP_append, rowP_append]; exact HO3.out) HB3.out⟩
end Go.Proofs.YtincgkolpicipaaDoor.twice

/- FnStepsTwice: impl.Visible by contract. -/
import Derived.Test.YtincgkolpicipaaDoorSt18
namespace Go.Proofs.YtincgkolpicipaaDoor.twice
open Go.RowKit
theorem few_cv {es : List Sp} (h : Okay es) : Few (es.map cv) := by
  refine ⟨by simpa using h.len, fun i e he => ?_⟩
  rw [List.getElem?_map] at he
  obtain ⟨e0, h0, rfl⟩ := Option.map_eq_some_iff.1 he
  obtain ⟨h1, h2, -⟩ := h.all i e0 h0
  exact ⟨by show e0.names.length = (e0.hides.map hideJ).length; simpa using h1, h2⟩
def objF (es : List Sp) : Vw := chainV (es.map cv) (es.map cv).length
/-- What impl.Visible tells. -/
structure VisD (w w' : World) (f : Vw) (vl vh : Value) : Prop where
  bel : Below w.heap.size w w'
  ex : ∃ ss : List (List UInt8), ss.Nodup ∧ (∀ x, x ∈ ss ↔ (f x).isSome = true) ∧ Strs w' vl (ss.mergeSort leB) ∧ Ints w' vh ((ss.mergeSort leB).map fun x => seenI ((f x).getD 0))
theorem oneS (s : ByteArray) : ∀ u ∈ [Value.string s], u.oneCell' = true := fun u hu => by
  obtain rfl := List.mem_singleton.1 hu
  rfl
set_option maxRecDepth 100000 in
set_option maxHeartbeats 8000000 in
theorem visible_any (v : Value) (es : List Sp) (w : World) (h : Sps w v es) (hk : Okay es) : Calls Tryd.prog 10 #[v] w fun e w' => ∃ vl vh, e = .returned (.tuple #[vl, vh, .bool true]) ∧ VisD w w' (objF es) vl vh := by
  have HIC := Lib.hid (implChain_any v es w h hk)
  have HFC := Lib.hid (few_cv hk)
  have HF := Lib.hid (show ∀ b W, MapV hR W b (chainV (es.map cv) (es.map cv).length) 200 → MapV hR W b (objF es) 200 from fun b W h => h)
  obtain ⟨A, cap, rfl, -, -, -⟩ := h
  obtain ⟨i9, hi, hz0, hz1, hz2⟩ := info_parts' Tryd.info9
  have HI : Hid (Tryd.prog.info? 9 = some i9 ∧ i9.zero = some (.string { data := #[] }) ∧ i9.size = 1 ∧ i9.bytes = 16) := ⟨hi, hz0, hz1, hz2⟩
  clear hi hz0 hz1 hz2
  obtain ⟨i3, hi, hz0, hz1, hz2⟩ := info_parts' Tryd.info3
  have HJ : Hid (Tryd.prog.info? 3 = some i3 ∧ i3.zero = some (.int .i64 0) ∧ i3.size = 1 ∧ i3.bytes = 8) := ⟨hi, hz0, hz1, hz2⟩
  clear hi hz0 hz1 hz2 hk
  generalize objF es = F at *
  generalize hn : es.length = n at *
  have HN := Lib.hid hn
  clear hn
  go_enter Tryd.func10, Tryd.ntmps10
  go_wp2_with (first
    | (go_at_call 14; refine HIC.out.mono ?_; rintro e w1 ⟨v', rfl, ⟨ps, hps, hco⟩⟩; have hcss := hco.reads; rw [hps, show es.take n = es by rw [← HN.out]; exact List.take_length] at hcss; have HCS := Lib.hid hcss; have HB1 := Lib.hid hco.bel; clear hps hco hcss)
    | (go_at_call 15; refine (partVis_any _ _ _ HCS.out HFC.out).mono ?_; rintro e w2 ⟨hb2, b, rfl, hm2⟩; have HB2 := Lib.hid (step_after HB1.out hb2); obtain ⟨D, hown, hD⟩ := HF.out _ _ hm2; have HO := Lib.hid hown; have HD := Lib.hid hD; clear hb2 hm2 hown hD)
    | (at_range; refine wpList_range_own _ rfl _ 40 rfl 9 3 keyed9 Tryd.underlying40 hR b 200 D rfl HO.out ?_; intro w0 hrg0 hg0 hs0; have HST := Lib.hid (krel_start HB2.out HO.out hrg0 hg0); clear hrg0 hg0 hs0)
    | go_in)
  go_frame
  go_loopw [2, 8] (fun v2 _ wr => KRel w b w2.heap.size 200 200 D v2 wr) (fun _ _ wr => wr.rangeLeft b w2.heap.size)
  case atStart => exact HST.out
  case round =>
    obtain ⟨⟨left, cnt, ss, hrg, hC, hrow, hnil, hle, hall⟩, hbel⟩ := hrel
    obtain ⟨A2, cap2, hv2, -, -, -⟩ := owns_form hrow
    subst hv2
    go_wp2_with (first
      | (at_next; refine wpList_next_ranges _ rfl _ rfl 9 keyed9 hR encStr (Value.int .i64) invK9 invH b w2.heap.size 200 _ _ _ rfl hrg ?_ ?_)
      | go_in)
    · intro hc0 hl0
      have hlen : ss.length ≤ 200 := by omega
      have HND := Lib.hid hC.1
      have HMEM := Lib.hid (show ∀ x, x ∈ ss ↔ (F x).isSome = true from fun x => by rw [hC.2 x, HD.out.has, hl0]; simp)
      have HALL := Lib.hid hall
      have HSRT := Lib.hid (sorted_any _ _ _ _ hrow hnil (by omega))
      have HST2 := Lib.hid (fun W' (h1 : StrsO W' w.heap.size (.slice A2 ss.length cap2) (ss.mergeSort leB)) h2 => hrel_start (w' := W') (Nat.le_refl _) hrow hrg.owns HD.out hbel h1 h2)
      obtain ⟨ts, hts⟩ : ∃ ts, ts = ss.mergeSort leB := ⟨_, rfl⟩
      have HTS := Lib.hid hts
      have HTL := Lib.hid (show ts.length = ss.length by rw [hts]; exact List.length_mergeSort _)
      have HTM := Lib.hid (show ∀ x, x ∈ ts ↔ x ∈ ss from fun x => by rw [hts]; exact List.mem_mergeSort)
      rw [← hts] at HSRT HST2
      clear hts hrg hC hrow hnil hle hall hbel hc0 hl0
      generalize hm : ss.length = m at *
      have HM := Lib.hid hm
      clear hm
      go_wp2_with (go_at_call 16; refine HSRT.out.mono ?_; rintro e w4 ⟨rfl, hso, hg⟩; have HH := Lib.hid (HST2.out w4 hso hg); clear hso hg)
      go_loopw [3, 10, 34] (fun v3 _ i W => ∃ k : Nat, k ≤ m ∧ i = .int .i64 k ∧ HRel w b F (.slice A2 m cap2) ts k v3 W) (fun _ _ i _ => m - (intOf i).toNat)
      case atStart => exact ⟨0, Nat.zero_le _, rfl, HH.out⟩
      case round =>
        obtain ⟨k, hk, rfl, hh⟩ := hrel
        by_cases hkm : k < m
        · obtain ⟨x, hx⟩ : ∃ x, ts[k]? = some x := ⟨_, List.getElem?_eq_getElem (by have := HTL.out; omega)⟩
          have hxm : x ∈ ss := (HTM.out x).1 (List.mem_of_getElem? hx)
          obtain ⟨c, hc⟩ := Option.isSome_iff_exists.1 ((HMEM.out x).1 hxm)
          have hxl := HALL.out x hxm
          have hlook := hh.map.get x (by rw [maxLen_eq]; exact hxl) hc
          have hcell : ∃ g, A2 = some ⟨g, 0, none⟩ ∧ wr.cell? ⟨g, k, none⟩ = some (.string ⟨x.toArray⟩) := by
            obtain ⟨A', c', hv', -, -, hg⟩ := owns_form hh.names
            injection hv' with hA
            obtain ⟨g, hg⟩ := hg (by have := HTL.out; omega)
            have hAA := hA.trans hg
            subst hAA
            refine ⟨g, rfl, ?_⟩
            have h1 := hh.names
            unfold StrsO at h1
            rw [HTL.out] at h1
            rw [h1.cellAt k (by omega), List.getElem?_map, hx]; rfl
          obtain ⟨g, rfl, ck⟩ := hcell
          obtain ⟨A3, cap3, hv3, -, -, -⟩ := owns_form hh.hides
          subst hv3
          have hki : (k : Int) < (m : Int) := by omega
          have hlj : ((ts.take k).map fun x => seenI ((F x).getD 0)).length = k := by have := HTL.out; simp; omega
          have HLJ := Lib.hid hlj
          have HNX := Lib.hid (fun W' q cap ob ho hg => hrel_step (w2 := W') (q := q) (cap := cap) (ob := ob) hh hx hc ho hg)
          have HRW := Lib.hid (show ∀ ob, IntsO (wr.alloc ob) w.heap.size _ _ from fun ob => owns_chg hh.hides (Chg.below (X := fun _ => False) (ba1 wr ob)) fun _ _ h => h)
          have HSZ := Lib.hid hh.bel.size
          have HSE := Lib.hid (seen_any c wr)
          clear hx hxm hc hxl hh hlj
          generalize ((ts.take k).map fun x => seenI ((F x).getD 0)) = xs at *
          go_wp2_with (first
            | (go_at_call 17; refine HSE.out.mono ?_; rintro e w1 ⟨rfl, hw⟩; have hw2 := hw.symm; subst hw2)
            | (at_builtin; refine wpList_append_lies _ rfl (.tmp 38) (.tmp 43) 27 rfl w.heap.size 3 i3 _ 1 8 Tryd.underlying27 HJ.out.1 HJ.out.2.1 HJ.out.2.2.1 HJ.out.2.2.2 rfl (by decide) (.slice A3 xs.length cap3) xs.length (xs.map (Value.int .i64)) rfl (HRW.out _) ⟨wr.heap.size, 0, none⟩ 1 1 [.int .i64 (seenI c)] rfl rfl (World.news_of_block (heap_alloc_new wr _)) (oneI _) (by decide) (by rw [maxLen_eq, HLJ.out]; omega) (by rw [HLJ.out]; omega) (Nat.le_trans HSZ.out (by simp)) _ rfl ?_; intro q1 cp1 w5 ho2 hg2 hat2 hl2; have HP := Lib.hid (HNX.out w5 q1 cp1 _ ho2 hg2); clear ho2 hg2 hat2 hl2))
          exact ⟨⟨k + 1, by omega, by go_num, HP.out⟩, by simp [intOf]; omega⟩
        · have hki : ¬ (k : Int) < (m : Int) := by omega
          have HR := Lib.hid hh
          have HKM := Lib.hid (show k = m by omega)
          clear hh
          go_wp2
          go_returns
          refine ⟨_, _, rfl, HR.out.bel, ss, HND.out, HMEM.out, ?_, ?_⟩
          · rw [← HTS.out]
            have h1 := StrsO.reads HR.out.names fun s hs => HALL.out s ((HTM.out s).1 hs)
            exact h1
          · rw [← HTS.out]
            have h1 := HR.out.hides.reads
            rw [List.take_of_length_le (by have := HTL.out; have := HKM.out; omega)] at h1
            exact h1
    · intro x c kl yd yp w3 cnt1 hkey hlk hv hat hrg1 hlt hg1 hs1 hen
      obtain ⟨x', ex, rfl, hxl⟩ := Maps.keyOf_str Tryd.underlying9 hkey
      obtain rfl := encStr_inj ex
      have hwr : w.heap.size ≤ w2.heap.size := HB2.out.size
      have HRW := Lib.hid (show ∀ ob, (w3.alloc ob).ownsRow w.heap.size 9 1 (.slice A2 ss.length cap2) ss.length (ss.map encStr) from fun ob => by
        have c1 : Chg (fun k => k = w2.heap.size) wr w3 := (Chg.refl _ _).grown hg1 fun k hk _ => by injection hk with e; exact e.symm
        have e0 := row_ne_iter hrow hrg
        exact owns_chg (owns_chg hrow c1 fun k hk hX => e0 (by rw [hk, hX])) (Chg.below (X := fun _ => False) (ba1 w3 ob)) fun _ _ h => h)
      have HSZ := Lib.hid (Nat.le_trans hbel.size (Nat.le_of_eq hs1.symm))
      have HST2 := Lib.hid (fun W' q cap ob ho hg => krel_step (w2 := W') (q := q) (cap := cap) (ob := ob) hbel hwr hC hrow hle hall hlt hrg hrg1 hg1 hlk hat (by rw [← maxLen_eq]; exact hxl) ho hg)
      have HM := Lib.hid (fun (W' : World) (h : W'.ranges Tryd.prog 9 hR b w2.heap.size 200 D (fun z => left z && !z.sameKey (.string x)) cnt1) => show W'.rangeLeft b w2.heap.size < wr.rangeLeft b w2.heap.size by rw [h.left_eq, hrg.left_eq]; exact hlt)
      have HLE := Lib.hid (show ss.length ≤ 200 by omega)
      clear hkey hlk hv hat hrg1 hlt hg1 hs1 hwr hrg hC hrow hnil hle hall hbel
      go_wp2_with (at_builtin; refine wpList_append_lies _ rfl (.tmp 26) (.tmp 28) 26 rfl w.heap.size 9 i9 _ 1 16 Tryd.underlying26 HI.out.1 HI.out.2.1 HI.out.2.2.1 HI.out.2.2.2 rfl (by decide) (.slice A2 ss.length cap2) ss.length (ss.map encStr) rfl (HRW.out _) ⟨w3.heap.size, 0, none⟩ 1 1 [.string ⟨x.toArray⟩] rfl rfl (World.news_of_block (heap_alloc_new w3 _)) (oneS _) (by decide) (by rw [maxLen_eq]; have := HLE.out; omega) (by have := HLE.out; omega) (Nat.le_trans HSZ.out (by simp)) _ rfl ?_; intro q1 cp1 w4 ho2 hg2 hat2 hl2; have HP := Lib.hid (HST2.out w4 q1 cp1 _ ho2 hg2); clear ho2 hg2 hat2 hl2)
      exact ⟨HP.out.1, HM.out _ HP.out.2⟩
end Go.Proofs.YtincgkolpicipaaDoor.twice

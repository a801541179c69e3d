/- FnStepsTwice: impl.chain by contract. -/
import Derived.Test.YtincgkolpicipaaDoorSt14
namespace Go.Proofs.YtincgkolpicipaaDoor.twice
open Go.RowKit
theorem info_parts' {P : Program} {t : TypeId} {z : Option Value} {s b : Nat} (h : (P.info? t).map (fun i => (i.zero, i.size, i.bytes)) = some (z, s, b)) : ∃ i, P.info? t = some i ∧ i.zero = z ∧ i.size = s ∧ i.bytes = b := by
  cases hi : P.info? t with
  | none => rw [hi] at h; cases h
  | some i => rw [hi] at h; cases h; exact ⟨i, rfl, rfl, rfl, rfl⟩
theorem Tryd.info3 : (Tryd.prog.info? 3).map (fun i => (i.zero, i.size, i.bytes)) = some (some (.int .i64 0), 1, 8) := by kernel_rfl
theorem Tryd.info52 : (Tryd.prog.info? 52).map (fun i => (i.zero, i.size, i.bytes)) = some (some (.agg #[.string { data := #[] }, .slice none 0 0, .slice none 0 0, .bool false]), 4, 72) := by kernel_rfl
/-- Steps that are steps, and few. -/
structure Okay (es : List Sp) : Prop where
  len : es.length ≤ 13
  all : ∀ (i : Nat) (e : Sp), es[i]? = some e → e.names.length = e.hides.length ∧ e.names.length ≤ 12 ∧ ∀ (j : Nat) (h : Int), e.hides[j]? = some h → h = 0 ∨ h = 1 ∨ h = 2
theorem oneI (z : Int) : ∀ u ∈ [Value.int .i64 z], u.oneCell' = true := fun u hu => by
  obtain rfl := List.mem_singleton.1 hu
  rfl
theorem oneC (s : ByteArray) (A A' : Option Addr) (n c n' c' : Nat) (b : Bool) : ∀ u ∈ [Value.string s, .slice A n c, .slice A' n' c', .bool b], u.oneCell' = true := fun u hu => by
  simp only [List.mem_cons, List.mem_nil_iff, or_false] at hu
  rcases hu with rfl | rfl | rfl | rfl <;> rfl
theorem inr_start (wr : World) (s : Sp) (nv : Value) (o1 : Obj) : InR wr (wr.heap.size + 1) s nv (.slice none 0 0) [] ((wr.alloc o1).alloc (.cells #[.string ⟨s.rem.toArray⟩, nv, .slice none 0 0, .bool s.is] 52)) :=
  ⟨nw1 _ _ _, IntsO.none_, ba2 _ _ _, Nat.le_succ _⟩
/-- What a round leaves. -/
structure IRel (w : World) (es : List Sp) (k : Nat) (v : Value) (wr : World) : Prop where
  ex : ∃ ps, ps.map (·.e) = (es.take k).map cv ∧ CO w wr v ps
theorem irel_next {w wr W W' : World} {es : List Sp} {k : Nat} {v nv hv : Value} {ps : List Pc} {s : Sp} {q cap : Nat} {b : Nat} {ob : Obj} (hs : es[k]? = some s) (hps : ps.map (·.e) = (es.take k).map cv) (h : CO w wr v ps) (hst : Strs w nv s.names) (hz : s.rem.length ≤ 9223372036854775807) (hin : InR wr b s nv hv (s.hides.map hideJ) W)
    (ho : W'.ownsRow w.heap.size 52 4 (.slice (some ⟨q, 0, none⟩) (ps.length + 1) cap) (ps.length + 1) (rowC ps ++ [.string ⟨s.rem.toArray⟩, nv, hv, .bool s.is])) (hg : (W.alloc ob).grownBy W' v.ownBlock) : IRel w es (k + 1) (.slice (some ⟨q, 0, none⟩) (ps.length + 1) cap) W' := by
  refine ⟨ps ++ [⟨nv, hv, cv s⟩], ?_, CO.app (p := ⟨nv, hv, cv s⟩) h (hin.bel.alloc hin.bel.size ob) hst hz ?_ ho hg⟩
  · rw [List.map_append, hps, List.take_add_one, hs]; simp
  · exact owns_chg (owns_base hin.row h.bel.size) (Chg.below (X := fun _ => False) (ba1 W ob)) fun _ _ h => h
set_option maxRecDepth 100000 in
set_option maxHeartbeats 8000000 in
theorem implChain_any (v : Value) (es : List Sp) (w : World) (h : Sps w v es) (hk : Okay es) : Calls Tryd.prog 14 #[v] w fun e w' => ∃ v', e = .returned (.tuple #[v', .bool true]) ∧ IRel w es es.length v' w' := by
  obtain ⟨A, cap, rfl, hcp, hl, hc⟩ := h
  have HC := Lib.hid hc
  have HK := Lib.hid hk
  clear hc hk hcp
  generalize hn : es.length = n at *
  have HN := Lib.hid hn
  clear hn
  obtain ⟨i3, hi, hz0, hz1, hz2⟩ := info_parts' Tryd.info3
  have HI : Hid (Tryd.prog.info? 3 = some i3 ∧ i3.zero = some (.int .i64 0) ∧ i3.size = 1 ∧ i3.bytes = 8) := ⟨hi, hz0, hz1, hz2⟩
  clear hi hz0 hz1 hz2
  obtain ⟨i52, hi, hz0, hz1, hz2⟩ := info_parts' Tryd.info52
  have HJ : Hid (Tryd.prog.info? 52 = some i52 ∧ i52.zero = some (.agg #[.string { data := #[] }, .slice none 0 0, .slice none 0 0, .bool false]) ∧ i52.size = 4 ∧ i52.bytes = 72) := ⟨hi, hz0, hz1, hz2⟩
  clear hi hz0 hz1 hz2
  go_enter Tryd.func14, Tryd.ntmps14
  go_wp2_with fail
  go_loopw [4, 6, 7, 9, 10, 11, 14] (fun v4 _ _ _ _ _ i wr => ∃ k : Nat, k ≤ n ∧ i = .int .i64 k ∧ IRel w es k v4 wr) (fun _ _ _ _ _ _ i _ => n - (intOf i).toNat)
  case atStart => exact ⟨0, Nat.zero_le _, rfl, [], rfl, CO.none_ w⟩
  case round =>
    rename World => wo
    obtain ⟨k, hk, rfl, ⟨ps, hps, hco⟩⟩ := hrel
    by_cases hlt : k < n
    · obtain ⟨s, hs⟩ : ∃ s, es[k]? = some s := ⟨_, List.getElem?_eq_getElem (by have := HN.out; omega)⟩
      obtain ⟨q, o, rfl, hel⟩ := HC.out k s hs
      obtain ⟨c0, c1, hrl, nv, hv, c2, c3, hst, hin⟩ := hel
      have c0 := cell_later hco.bel c0
      have c1 := cell_later hco.bel c1
      have c2 := cell_later hco.bel c2
      have c3 := cell_later hco.bel c3
      obtain ⟨A3, cap3, hv3, -, hin3⟩ := id hin
      have HIN := Lib.hid hin3
      obtain ⟨A2, cap2, rfl⟩ := hst.form
      subst hv3
      obtain ⟨hl1, hl2, hl3⟩ := HK.out.all k s hs
      have hki : (k : Int) < (n : Int) := by omega
      have hneq : ((s.names.length : Int) != (s.hides.length : Int)) = false := by rw [hl1]; simp
      have HSS := Lib.hid hs
      have HCO := Lib.hid hco
      have HPS := Lib.hid hps
      have HST := Lib.hid hst
      have HRL := Lib.hid hrl
      have HL3 := Lib.hid hl3
      have HL12 := Lib.hid (show s.hides.length ≤ 12 by omega)
      have HPL := Lib.hid (show ps.length ≤ 13 by have h1 := congrArg List.length hps; have h2 := HK.out.len; have h3 := HN.out; simp at h1; omega)
      clear hs hco hps hst hin hin3 hrl hl1 hl2 hl3
      go_wp2_with fail
      clear c0 c1 c2 c3
      generalize hm : s.hides.length = m at *
      have HM := Lib.hid hm
      clear hm
      have hm12 : m ≤ 12 := HL12.out
      go_loopw [9, 10, 11, 35] (fun _ _ _ i W => ∃ (j : Nat) (hv : Value), j ≤ m ∧ i = .int .i64 j ∧ InR wo (wo.heap.size + 1) s (.slice A2 s.names.length cap2) hv ((s.hides.take j).map hideJ) W) (fun _ _ _ i _ => m - (intOf i).toNat)
      case atStart => exact ⟨0, _, Nat.zero_le _, rfl, inr_start _ _ _ _⟩
      case round =>
        obtain ⟨j, hv, hj, rfl, hin⟩ := hrel
        obtain ⟨A9, cap9, hv9, -, -, -⟩ := owns_form hin.row
        subst hv9
        by_cases hjm : j < m
        · obtain ⟨h, hh⟩ : ∃ h, s.hides[j]? = some h := ⟨_, List.getElem?_eq_getElem (by have := HM.out; omega)⟩
          obtain ⟨q3, o3, rfl, ch⟩ := HIN.out j h hh
          have ch := cell_later (step_after HCO.out.bel hin.bel) ch
          have hji : (j : Int) < (m : Int) := by omega
          have HHJ := Lib.hid (hides_any h wr (HL3.out j h hh))
          have hlj : ((s.hides.take j).map hideJ).length = j := by have h1 := HM.out; simp; omega
          have htk : (s.hides.take (j + 1)).map hideJ = (s.hides.take j).map hideJ ++ [hideJ h] := by rw [List.take_add_one, hh]; simp
          generalize (s.hides.take j).map hideJ = xs at *
          have HLJ := Lib.hid hlj
          have HTK := Lib.hid htk
          have x2 : wr.cell? ⟨wo.heap.size + 1, 2, none⟩ = some (.slice A9 xs.length cap9) := hin.cell 2
          have HAP := Lib.hid (fun W' q cap ob ho hg => hin.app (W' := W') (z := hideJ h) (q := q) (cap := cap) (ob := ob) ho hg)
          have HRW := Lib.hid (show ∀ ob, (wr.alloc ob).ownsRow wo.heap.size 3 1 (.slice A9 xs.length cap9) xs.length (xs.map (Value.int .i64)) from fun ob => owns_chg hin.row (Chg.below (X := fun _ => False) (ba1 wr ob)) fun _ _ h => h)
          have HSZ := Lib.hid hin.bel.size
          clear hh hin hlj htk
          go_wp2_with (first
            | (go_at_call 19; refine HHJ.out.mono ?_; rintro e w1 ⟨rfl, hw⟩; have hw2 := hw.symm; subst hw2)
            | (at_builtin; refine wpList_append_lies _ rfl (.tmp 47) (.tmp 49) 27 rfl wo.heap.size 3 i3 _ 1 8 Tryd.underlying27 HI.out.1 HI.out.2.1 HI.out.2.2.1 HI.out.2.2.2 rfl (by decide) (.slice A9 xs.length cap9) xs.length (xs.map (Value.int .i64)) rfl (HRW.out _) ⟨wr.heap.size, 0, none⟩ 1 1 [.int .i64 (hideJ h)] rfl rfl (World.news_of_block (heap_alloc_new wr _)) (oneI _) (by decide) (by rw [maxLen_eq, HLJ.out]; have := HL12.out; omega) (by rw [HLJ.out]; have := HL12.out; omega) (Nat.le_trans HSZ.out (by simp)) _ rfl ?_; intro q1 cp1 w2 ho2 hg2 hat2 hl2; have HP := Lib.hid (HAP.out w2 q1 cp1 _ ho2 hg2); obtain ⟨y2, f2⟩ := HP.out.1; clear ho2 hg2 hat2 hl2))
          go_roundw
          case rel => exact ⟨j + 1, _, by omega, by go_num, by rw [HTK.out]; exact HP.out.2⟩
          case measure => simp [intOf]; omega
        · have hji : ¬ (j : Int) < (m : Int) := by omega
          have hall : (s.hides.take j).map hideJ = s.hides.map hideJ := by
            have h1 : s.hides.length ≤ j := by have := HM.out; omega
            rw [List.take_of_length_le h1]
          rw [hall] at hin
          have x0 : wr.cell? ⟨wo.heap.size + 1, 0, none⟩ = some (.string ⟨s.rem.toArray⟩) := hin.cell 0
          have x1 : wr.cell? ⟨wo.heap.size + 1, 1, none⟩ = some (.slice A2 s.names.length cap2) := hin.cell 1
          have x2 : wr.cell? ⟨wo.heap.size + 1, 2, none⟩ = some (.slice A9 (s.hides.map hideJ).length cap9) := hin.cell 2
          have x3 : wr.cell? ⟨wo.heap.size + 1, 3, none⟩ = some (.bool s.is) := hin.cell 3
          have HNX := Lib.hid (fun W' q cap ob ho hg => irel_next (W' := W') (q := q) (cap := cap) (ob := ob) HSS.out HPS.out HCO.out HST.out HRL.out hin ho hg)
          have HOW := Lib.hid (show ∀ ob, (wr.alloc ob).ownsRow w.heap.size 52 4 u4 ps.length (rowC ps) from fun ob => owns_chg HCO.out.own (Chg.below (X := fun _ => False) (hin.bel.alloc hin.bel.size ob)) fun _ _ h => h)
          have HSZ := Lib.hid (Nat.le_trans HCO.out.bel.size hin.bel.size)
          clear hin hall
          generalize s.hides.map hideJ = ys at *
          go_wp2_with (at_builtin; refine wpList_append_lies _ rfl (.tmp 53) (.tmp 55) 37 rfl w.heap.size 52 i52 _ 4 72 Tryd.underlying37 HJ.out.1 HJ.out.2.1 HJ.out.2.2.1 HJ.out.2.2.2 rfl (by decide) u4 ps.length (rowC ps) rfl (HOW.out _) ⟨wr.heap.size, 0, none⟩ 1 1 [.string ⟨s.rem.toArray⟩, .slice A2 s.names.length cap2, .slice A9 ys.length cap9, .bool s.is] rfl rfl (World.news_of_block (heap_alloc_new wr _)) (oneC _ _ _ _ _ _ _ _) (by decide) (by rw [maxLen_eq]; have := HPL.out; omega) (by have := HPL.out; omega) (Nat.le_trans HSZ.out (by simp)) _ rfl ?_; intro q1 cp1 w2 ho2 hg2 hat2 hl2; have HP := Lib.hid (HNX.out w2 q1 cp1 _ ho2 hg2); clear ho2 hg2 hat2 hl2)
          exact ⟨⟨k + 1, by omega, by go_num, HP.out⟩, by simp [intOf]; omega⟩
    · have hki : ¬ (k : Int) < (n : Int) := by omega
      have HR := Lib.hid (show IRel w es n u4 wo by rw [show n = k by omega]; exact ⟨ps, hps, hco⟩)
      clear hps hco
      go_wp2
      go_returns
      exact ⟨_, rfl, HR.out⟩
end Go.Proofs.YtincgkolpicipaaDoor.twice

/- FnChildren: builder.arguments by contract, the walk; builder.both by contract: locals, calls; builder.specs by contract. -/
import Derived.Test.YtincgkolpicipaaC08
set_option linter.unusedVariables false
set_option linter.unusedSimpArgs false
namespace Go.Proofs.Ytincgkolpicipaa.kin
open Go.RowKit
open Go.Proofs.Ytincgkolpicipaa.stack (step_after Chg owns_chg owns_form)
set_option maxRecDepth 100000 in
set_option maxHeartbeats 8000000 in
theorem arguments_does {e : Env} (hg : Good e.ns) (hL : e.ns.length ≤ 400) (ks : List Nat) (ha : Args e.ns ks) (hno : ∀ k ∈ ks, ∀ a ∈ kids e.ns k, NodeC e a) (hs : Sep e.ns ks) (w : World) (cs : Pl) (U : Nat → Prop) (hst : St e w cs U) (hfr : Free e.ns cs ks) (B : Nat) (hB : e.N < B) (v : Value) (hp : Plc B w v ks) :
    Calls Try.prog 98 #[.pointer (some ⟨e.b, 0, none⟩), v] w (ArgsR e w cs U ks) := by
  obtain ⟨i226, hi1, hi2, hi3, hi4⟩ := info_parts Try.info226
  obtain ⟨i228, hj1, hj2, hj3, hj4⟩ := info_parts Try.info228
  have HI226 := Lib.hid (And.intro hi1 (And.intro hi2 (And.intro hi3 hi4)))
  have HI228 := Lib.hid (And.intro hj1 (And.intro hj2 (And.intro hj3 hj4)))
  obtain ⟨A, pc, rfl, -, hl⟩ := hp.form
  have hb1 := (Below.refl w.heap.size w).alloc (Nat.le_refl _) (.cells #[.slice none 0 0, .slice none 0 0] 169)
  have hb2 := (Below.refl (w.alloc (.cells #[.slice none 0 0, .slice none 0 0] 169)).heap.size (w.alloc (.cells #[.slice none 0 0, .slice none 0 0] 169))).alloc (Nat.le_refl _) (.cells #[.slice none 0 0, .slice none 0 0] 169)
  have HAR0 := Lib.hid (show ArS e w cs U [] [] [] [] ((w.alloc (.cells #[.slice none 0 0, .slice none 0 0] 169)).alloc (.cells #[.slice none 0 0, .slice none 0 0] 169)) cs U (.slice none 0 0) (.slice none 0 0) from
    ⟨Done.none hst (step_after hb1 hb2), hkeep hb2 (heap_alloc_new w _), by have := heap_alloc_new (w.alloc (.cells #[.slice none 0 0, .slice none 0 0] 169)) (.cells #[.slice none 0 0, .slice none 0 0] 169); simpa using this, Mine.nil _ _ _ _ _, Mine.nil _ _ _ _ _, rfl, fun h => absurd (hst.lt _ h) (Nat.lt_irrefl _), fun h => by have := hst.lt _ h; omega⟩)
  have HP := Lib.hid hp
  have HG := Lib.hid hg
  have HL := Lib.hid hL
  have HARG := Lib.hid ha
  have HNO := Lib.hid hno
  have HS := Lib.hid hs
  have HFR := Lib.hid hfr
  have HN := Lib.hid hst.nlt
  have HB := Lib.hid hB
  clear hi1 hi2 hi3 hi4 hj1 hj2 hj3 hj4 hb1 hb2 hp hg hL ha hno hs hst hfr hB
  generalize hm : ks.length = m at hl HP ⊢
  have HM := Lib.hid hm
  clear hm
  go_enter Try.func98, Try.ntmps98
  go_wp2
  go_loopw [12] (fun i wr => ∃ (k : Nat) (l l1 l2 : List Nat) (rs : List (ByteArray × Value)) (cs1 : Pl) (U1 : Nat → Prop) (u v : Value), k ≤ m ∧ i = .int .i64 k ∧ Hid (l = ks.take k) ∧ Hid (l = l1 ++ l2) ∧ Hid (ArS e w cs U l l1 l2 rs wr cs1 U1 u v) ∧ Hid (∀ x ∈ l2, Named e.ns x)) (fun i _ => m - (intOf i).toNat)
  case atStart => exact ⟨0, [], [], [], [], cs, U, _, _, Nat.zero_le _, rfl, Lib.hid (by simp), Lib.hid rfl, HAR0, Lib.hid fun x h => by simp at h⟩
  case round =>
    obtain ⟨k, l, l1, l2, rs, cs1, U1, u, v, hk, rfl, HLL, HL12, HD0, HNM⟩ := hrel
    by_cases hlt : k < m
    · obtain ⟨j, hj⟩ := getElem?_lt (show k < ks.length by have := HM.out; omega)
      obtain ⟨p, po, rfl, hpB, hpw, cx⟩ := HP.out.here hj
      have cx1 := HD0.out.done.chg.cell cx (show ¬ p = e.N by have := HB.out; omega)
      have hki : (k : Int) < (m : Int) := by omega
      have hjm := List.mem_of_getElem? hj
      obtain ⟨n, hn, hk34⟩ := HARG.out.1 j hjm
      have hk34 : n.k = 34 := by simpa using hk34
      have hjl : (j : Int) < (e.ns.length : Int) := by have := (List.getElem?_eq_some_iff.1 hn).1; omega
      obtain ⟨a, hka, hax, hbo⟩ := arg_kids HG.out hn hk34
      have HAP := Lib.hid (apt_at HS.out HLL.out hj)
      have HLS := Lib.hid (show l ++ [j] = ks.take (k + 1) by rw [HLL.out, List.take_add_one, hj]; rfl)
      have HLEN := Lib.hid (show l1.length ≤ 400 ∧ rs.length ≤ 400 by
        have h1 : l.length ≤ 400 := by rw [HLL.out, List.length_take]; omega
        have h2 := congrArg List.length HD0.out.vals
        rw [HL12.out, List.length_append] at h1
        simp at h2; omega)
      have HNJ2 := Lib.hid (show ¬ Named e.ns j → l2 = [] from fun hnn => by
        cases l2 with
        | nil => rfl
        | cons x r =>
          have hsp := split_at HLL.out hj
          have hpw := HARG.out.2
          rw [hsp, HL12.out] at hpw
          have := (List.pairwise_append.1 hpw).2.2 x (by simp) j (by simp)
          exact absurd (this (HNM.out x (by simp))) hnn)
      have HIN := Lib.hid (show ∀ x ∈ l1 ++ l2, Rs e.ns l (bodyOf e.ns x) from fun x hx => by
        rw [← HL12.out] at hx
        have hxk : x ∈ ks := by rw [HLL.out] at hx; exact List.mem_of_mem_take hx
        obtain ⟨nx, hnx, hx34⟩ := HARG.out.1 x hxk
        obtain ⟨y, hy, -, hby⟩ := arg_kids HG.out hnx (by simpa using hx34)
        have := HG.out.fit.kid hnx (show y ∈ kids e.ns x by rw [hy]; simp)
        rw [hby]
        exact ⟨x, hx, by omega, by omega⟩)
      have HNA := Lib.hid (HNO.out j hjm a (by rw [hka]; simp))
      have HKA := Lib.hid hka
      have HBO := Lib.hid hbo
      have HFJ := Lib.hid (HFR.out.sub (l := [j]) fun x hx => by rw [List.mem_singleton] at hx; rw [hx]; exact hjm)
      obtain ⟨k0, o0, t0, m0, z0⟩ := n
      dsimp only at hk34
      subst hk34
      clear cx hj hpB hpw hjm hka hbo hax
      go_upto_region 5 with fail
      have hbase := HD0.out.done.st.base
      have S1 := Lib.hid (nodeS hbase hn)
      have HK := Lib.hid (kidsB HL.out HG.out.fit hbase hn)
      have SA := Lib.hid (show ∀ (w' : World) (o1 : Obj), (w'.cell? ⟨e.b, 0, none⟩ = some (.slice (some ⟨e.q, e.o, none⟩) e.ns.length e.cap) ∧ w'.cell? ⟨e.q, e.o + j * 5, none⟩ = some (.int .i64 34) ∧ w'.cell? ⟨e.q, e.o + j * 5 + 1, none⟩ = some (.int .i64 o0) ∧ w'.cell? ⟨e.q, e.o + j * 5 + 2, none⟩ = some (.string t0) ∧ w'.cell? ⟨e.q, e.o + j * 5 + 3, none⟩ = some (.int .i64 m0) ∧ w'.cell? ⟨e.q, e.o + j * 5 + 4, none⟩ = some (.int .i64 z0)) ∧ Below wr.heap.size wr w' → _ from fun w' o1 hh => S1.out (w'.alloc o1) (hh.2.alloc hh.2.size o1))
      have SB := Lib.hid (show ∀ (o1 : Obj), _ from fun o1 => S1.out (wr.alloc o1).drew ((Below.refl _ _).alloc (Nat.le_refl _) o1).drew)
      obtain ⟨⟨e0, n0, n1, n2, n3, n4⟩, -⟩ := S1.out wr (Below.refl _ _)
      have HNJ := Lib.hid hn
      clear hn hbase
      go_cut [8, 9] (fun s8 s9 wx => ∃ P : Nat, wr.heap.size ≤ P ∧ s8 = .pointer (some ⟨P, 0, none⟩) ∧ Plc wr.heap.size wx s9 (kids e.ns j) ∧ Box wx P 34 o0 m0 z0 t0 ∧ Below wr.heap.size wr wx)
      case first =>
        go_region_held3 (fun w' => (w'.cell? ⟨e.b, 0, none⟩ = some (.slice (some ⟨e.q, e.o, none⟩) e.ns.length e.cap) ∧ w'.cell? ⟨e.q, e.o + j * 5, none⟩ = some (.int .i64 34) ∧ w'.cell? ⟨e.q, e.o + j * 5 + 1, none⟩ = some (.int .i64 o0) ∧ w'.cell? ⟨e.q, e.o + j * 5 + 2, none⟩ = some (.string t0) ∧ w'.cell? ⟨e.q, e.o + j * 5 + 3, none⟩ = some (.int .i64 m0) ∧ w'.cell? ⟨e.q, e.o + j * 5 + 4, none⟩ = some (.int .i64 z0)) ∧ Below wr.heap.size wr w')
          (first | (with_reducible exact S1.out _ ((Below.refl _ _).drew)) | (with_reducible exact SA.out _ _ (by assumption)) | (with_reducible exact S1.out _ hb) | (with_reducible exact S1.out _ (hb.alloc hzw _)) | (with_reducible exact SB.out _) | (with_reducible exact S1.out _ (((((hb.setCell (by exact Nat.le_refl _) _).setCell (by exact Nat.le_refl _) _).setCell (by exact Nat.le_refl _) _).setCell (by exact Nat.le_refl _) _).setCell (by exact Nat.le_refl _) _)))
          (first | (go_at_call 81; refine (HK.out _ (And.right (by assumption))).mono ?_; rintro e w1 ⟨v, rfl, hkd, hb, hb2, hkd2⟩; have HKD := Lib.hid hkd; have HKD2 := Lib.hid hkd2; clear hkd hkd2; have hzw := hb.size; try (first | (have hv := row_parts (hkeep hb2 (heap_alloc_new wr _)); obtain ⟨hv1, hv2⟩ := hv) | (have hv := row_parts (hkeep hb2 (heap_alloc_new wr.drew _)); obtain ⟨hv1, hv2⟩ := hv))))
        all_goals (go_wp2_with fail; go_meet)
        · exact ⟨w1.heap.size, hzw, rfl, HKD.out.later ((Below.refl _ _).alloc (Nat.le_refl _) _), ⟨by simp [World.cell?_alloc_new], by simp [World.cell?_alloc_new], by simp [World.cell?_alloc_new], by simp [World.cell?_alloc_new], by simp [World.cell?_alloc_new]⟩, hb.alloc hzw _⟩
        · exact ⟨wr.heap.size, Nat.le_refl _, rfl, ((((((HKD2.out.setCell (by simp) _).setCell (by simp) _).setCell (by simp) _).setCell (by simp) _).setCell (by simp) _).mono (by simp)), by simp [Box, go_sem, hv1], (((((hb.setCell (by exact Nat.le_refl _) _).setCell (by exact Nat.le_refl _) _).setCell (by exact Nat.le_refl _) _).setCell (by exact Nat.le_refl _) _).setCell (by exact Nat.le_refl _) _)⟩
      case rest =>
        obtain ⟨P, hPw, rfl, hkd, ⟨b0, b1, b2, b3, b4⟩, hb⟩ := hcut
        have HPN := Lib.hid (show P ≠ e.N by have h1 := HD0.out.done.chg.size; have h2 := HN.out; omega)
        rw [HKA.out] at hkd
        obtain ⟨g, go, pc2, rfl, -, -, -, -, cA⟩ := hkd.at (j := 0) (k := a) rfl
        rw [Nat.add_zero] at cA
        have HSC := Lib.hid (HD0.out.later hb)
        have hfk := HFJ.out.kids HG.out.fit HNJ.out
        rw [HKA.out] at hfk
        have hfk2 := HSC.out.done.free (show Apt e.ns l [a] by have := HAP.out.kids HG.out.fit HNJ.out; rw [HKA.out] at this; exact this) hfk
        have HNX := Lib.hid (HNA.out wc.drew cs1 U1 (HSC.out.done.st.later ((Below.refl _ _).drew)) hfk2)
        have hx : ¬ Ex e.ns j := by
          rintro ⟨n, h1, h2, h3⟩
          rw [HNJ.out] at h1; cases h1; simp at h3
        have HMK := Lib.hid (show ∀ (w3 : World) (cs2 : Pl) (U2 : Nat → Prop), Done e (Rs e.ns [a]) wc.drew w3 cs1 cs2 U1 U2 → ArS e w cs U (l ++ [j]) l1 l2 rs w3 cs2 U2 u v from fun w3 cs2 U2 hd => (HSC.out.later ((Below.refl _ _).drew)).node HN.out (Done.upTo HG.out.fit HNJ.out hx (by rw [HKA.out]; exact hd)) HAP.out HIN.out)
        clear hkd hb hfk hfk2 hx e0 n0 n1 n2 n3 n4 S1 SA SB HK cx1
        rename World => wd
        have hO0 : wd.cell? ⟨w.heap.size + 1, 0, none⟩ = some u := by rw [(row_parts HSC.out.blk).1 0]; rfl
        have hO1 : wd.cell? ⟨w.heap.size + 1, 1, none⟩ = some v := by rw [(row_parts HSC.out.blk).1 1]; rfl
        cases tE : t0.toList.isEmpty
        · obtain ⟨A2, vc2, rfl, -⟩ := owns_form HSC.out.nam.own
          have HNMJ := Lib.hid (show Named e.ns j from ⟨_, HNJ.out, em_false.1 tE⟩)
          go_wp2_with (go_at_call 96; refine (count_ok _ _ _ _ _ _ (by simp) (by simp) _).mono ?_; rintro r w1 ⟨rfl, rfl⟩)
          go_region_law
            (first
              | (refine step_append_lies _ ?_ (.tmp 65) (.tmp 74) 167 ?_ (w.heap.size + 2) 228 i228 (.agg #[.slice none 0 0, .string ⟨#[]⟩, .slice none 0 0, .nilIface, .slice none 0 0]) 5 104 ?_ ?_ ?_ ?_ ?_ ?_ ?_ (.slice A2 rs.length vc2) rs.length (rs.flatMap nmRow) ?_ ?_ ⟨w3.heap.size, 0, none⟩ 1 1 [.slice none 0 0, .string t0, .slice none 0 0, .iface T (.pointer (some ⟨C, 0, none⟩)), .slice none 0 0] ?_ ?_ ?_ ?_ ?_ ?_ ?_ ?_ (w3.heap.size + 1) ?_ ?_
                 · rfl
                 · rfl
                 · exact Try.underlying167
                 · exact HI228.out.1
                 · exact HI228.out.2.1
                 · exact HI228.out.2.2.1
                 · exact HI228.out.2.2.2
                 · rfl
                 · decide
                 · rfl
                 · exact HOW.out _
                 · rfl
                 · rfl
                 · exact World.news_of_block (heap_alloc_new w3 _)
                 · intro x hx; simp at hx; first | (rcases hx with rfl | rfl <;> rfl) | (rcases hx with rfl | rfl | rfl <;> rfl) | (rcases hx with rfl | rfl | rfl | rfl <;> rfl) | (rcases hx with rfl | rfl | rfl | rfl | rfl <;> rfl)
                 · decide
                 · rw [stack.maxLen_eq]; have := HLEN.out; omega
                 · have := HLEN.out; omega
                 · exact HBS.out _
                 · simp
                 intro g cp w4 hown4 hg4 hat4 hlt4
                 rw [← HPR.out] at hown4
                 have hst := HMID.out.pushNam HN.out _ w4 ((Below.refl _ _).alloc (Nat.le_refl _) _) hg4 g cp hown4 (by simpa using hat4)
                 obtain ⟨q, hq⟩ := hst
                 have q1 : w4.cell? ⟨w.heap.size + 1, 1, none⟩ = some (.slice A2 rs.length vc2) := by rw [(row_parts q).1 1]; rfl
                 have q2 := (row_parts q).2 1
                 have HQ := Lib.hid hq
                 clear q hq hown4 hg4 hat4 hlt4)
              | (go_simp; go_at_call 55; refine HNX.out.mono ?_; rintro r w3 ⟨cs2, U2, T, C, rfl, hcj, hd1⟩; have hmid := HMK.out w3 cs2 U2 hd1; have a0 : w3.cell? ⟨w.heap.size + 1, 1, none⟩ = some (.slice A2 rs.length vc2) := (by rw [(row_parts hmid.blk).1 1]; rfl); have a0a : ∀ o1, (w3.alloc o1).cell? ⟨w.heap.size + 1, 1, none⟩ = some (.slice A2 rs.length vc2) := (fun o1 => cell_later ((Below.refl _ _).alloc (Nat.le_refl _) o1) a0); have HPR := Lib.hid (show nmRow (t0, cv (cs2 (bodyOf e.ns j))) = [.slice none 0 0, .string t0, .slice none 0 0, .iface T (.pointer (some ⟨C, 0, none⟩)), .slice none 0 0] from by simp [posRow, nmRow, HBO.out, hcj, cv]); have a2 := hd1.chg.cell (show wd.drew.cell? ⟨P, 2, none⟩ = some (.string t0) from b2) HPN.out; have HOW := Lib.hid (fun o1 => (hmid.later ((Below.refl _ _).alloc (Nat.le_refl _) o1)).nam.own); have HBS := Lib.hid (show ∀ o1, w.heap.size + 2 ≤ (w3.alloc o1).heap.size from fun o1 => (by have h2 := (Array.getElem?_eq_some_iff.1 hmid.blk).1; simp; omega)); have HMID := Lib.hid hmid; clear hcj hd1 hmid))
          all_goals
            go_wp2
            go_roundw
            case rel => exact ⟨k + 1, l ++ [j], l1, l2 ++ [j], rs ++ [(t0, cv (cs2 (bodyOf e.ns j)))], cs2, U2, _, _, by omega, by go_num, HLS, Lib.hid (by rw [HL12.out]; simp), HQ, Lib.hid fun x hx => by
              rcases List.mem_append.1 hx with h | h
              · exact HNM.out x h
              · rw [List.mem_singleton] at h; rw [h]; exact HNMJ.out⟩
            case measure => simp [intOf]; omega
        · obtain rfl : l2 = [] := HNJ2.out (by rintro ⟨n, h1, h2⟩; rw [HNJ.out] at h1; cases h1; exact h2 (em_true.1 tE))
          obtain rfl : rs = [] := by have := congrArg List.length HSC.out.vals; simp at this; exact this
          obtain ⟨A2, vc2, rfl, -⟩ := owns_form HSC.out.nam.own
          obtain ⟨A1, vc, rfl, -⟩ := owns_form HSC.out.pos.own
          go_wp2_with (go_at_call 96; refine (count_ok _ _ _ _ _ _ (by simp) (by simp) _).mono ?_; rintro r w1 ⟨rfl, rfl⟩)
          go_region_law
            (first
              | (refine step_append_lies _ ?_ (.tmp 54) (.tmp 61) 166 ?_ (w.heap.size + 2) 226 i226 (.agg #[.nilIface, .slice none 0 0]) 2 40 ?_ ?_ ?_ ?_ ?_ ?_ ?_ (.slice A1 l1.length vc) l1.length (l1.flatMap (posRow e cs2)) ?_ ?_ ⟨w3.heap.size, 0, none⟩ 1 1 [.iface T (.pointer (some ⟨C, 0, none⟩)), .slice none 0 0] ?_ ?_ ?_ ?_ ?_ ?_ ?_ ?_ (w3.heap.size + 1) ?_ ?_
                 · rfl
                 · rfl
                 · exact Try.underlying166
                 · exact HI226.out.1
                 · exact HI226.out.2.1
                 · exact HI226.out.2.2.1
                 · exact HI226.out.2.2.2
                 · rfl
                 · decide
                 · rfl
                 · exact HOW.out _
                 · rfl
                 · rfl
                 · exact World.news_of_block (heap_alloc_new w3 _)
                 · intro x hx; simp at hx; first | (rcases hx with rfl | rfl <;> rfl) | (rcases hx with rfl | rfl | rfl <;> rfl) | (rcases hx with rfl | rfl | rfl | rfl <;> rfl) | (rcases hx with rfl | rfl | rfl | rfl | rfl <;> rfl)
                 · decide
                 · rw [stack.maxLen_eq]; have := HLEN.out; omega
                 · have := HLEN.out; omega
                 · exact HBS.out _
                 · simp
                 intro g cp w4 hown4 hg4 hat4 hlt4
                 rw [← HPR.out] at hown4
                 have hst := HMID.out.pushPos HN.out _ w4 ((Below.refl _ _).alloc (Nat.le_refl _) _) hg4 g cp hown4 (by simpa using hat4)
                 obtain ⟨q, hq⟩ := hst
                 have q1 : w4.cell? ⟨w.heap.size + 1, 0, none⟩ = some (.slice A1 l1.length vc) := by rw [(row_parts q).1 0]; rfl
                 have q2 := (row_parts q).2 0
                 have HQ := Lib.hid hq
                 clear q hq hown4 hg4 hat4 hlt4)
              | (go_simp; go_at_call 55; refine HNX.out.mono ?_; rintro r w3 ⟨cs2, U2, T, C, rfl, hcj, hd1⟩; have hmid := HMK.out w3 cs2 U2 hd1; have a0 : w3.cell? ⟨w.heap.size + 1, 0, none⟩ = some (.slice A1 l1.length vc) := (by rw [(row_parts hmid.blk).1 0]; rfl); have a0a : ∀ o1, (w3.alloc o1).cell? ⟨w.heap.size + 1, 0, none⟩ = some (.slice A1 l1.length vc) := (fun o1 => cell_later ((Below.refl _ _).alloc (Nat.le_refl _) o1) a0); have HPR := Lib.hid (show posRow e cs2 j = [.iface T (.pointer (some ⟨C, 0, none⟩)), .slice none 0 0] from by simp [posRow, nmRow, HBO.out, hcj, cv]); have a2 := hd1.chg.cell (show wd.drew.cell? ⟨P, 2, none⟩ = some (.string t0) from b2) HPN.out; have HOW := Lib.hid (fun o1 => (hmid.later ((Below.refl _ _).alloc (Nat.le_refl _) o1)).pos.own); have HBS := Lib.hid (show ∀ o1, w.heap.size + 2 ≤ (w3.alloc o1).heap.size from fun o1 => (by have h2 := (Array.getElem?_eq_some_iff.1 hmid.blk).1; simp; omega)); have HMID := Lib.hid hmid; clear hcj hd1 hmid))
          all_goals
            go_wp2
            go_roundw
            case rel => exact ⟨k + 1, l ++ [j], l1 ++ [j], [], [], cs2, U2, _, _, by omega, by go_num, HLS, Lib.hid (by rw [HL12.out]; simp), HQ, Lib.hid fun x h => by simp at h⟩
            case measure => simp [intOf]; omega
    · have hki : ¬ (k : Int) < (m : Int) := by omega
      have hll := HLL.out
      rw [List.take_of_length_le (by have := HM.out; omega)] at hll
      subst hll
      obtain ⟨Au, uc, rfl, -⟩ := owns_form HD0.out.pos.own
      obtain ⟨Av, vc, rfl, -⟩ := owns_form HD0.out.nam.own
      obtain ⟨hq1, hq2⟩ := row_parts HD0.out.blk
      obtain ⟨hr1, hr2⟩ := row_parts HD0.out.res
      have hc : ∀ (W : World) (j : Nat) (y : Value), Chg (· = w.heap.size) W (W.setCell ⟨w.heap.size, j, none⟩ y) := fun W j y => Chg.setCell (X := (· = w.heap.size)) (p := ⟨w.heap.size, j, none⟩) (Chg.refl _ W) (fun _ => rfl) y
      have NR := Lib.hid (show w.heap.size ≠ e.N by have h2 := HN.out; omega)
      have hcc := (hc wr 0 (.slice Au l1.length uc)).trans (hc _ 1 (.slice Av rs.length vc))
      have hpos := HD0.out.pos.other hcc fun B hB hx => by have := (own_lt HD0.out.pos.own hx).1; omega
      have hnam := HD0.out.nam.other hcc fun B hB hx => by have := (own_lt HD0.out.nam.own hx).1; omega
      have hdd := done_setIn (done_setIn HD0.out.done (Nat.le_refl _) HD0.out.r1 NR.out 0 (.slice Au l1.length uc)) (Nat.le_refl _) HD0.out.r1 NR.out 1 (.slice Av rs.length vc)
      have HLEN := Lib.hid (show l1.length ≤ 400 ∧ rs.length ≤ 400 by
        have h1 : l.length ≤ 400 := by have := HM.out; omega
        have h2 := congrArg List.length HD0.out.vals
        rw [HL12.out, List.length_append] at h1
        simp at h2; omega)
      have FIN := Lib.hid (show ArgsR e w cs U l (.returned (.agg #[.slice Au l1.length uc, .slice Av rs.length vc])) ((wr.setCell ⟨w.heap.size, 0, none⟩ (.slice Au l1.length uc)).setCell ⟨w.heap.size, 1, none⟩ (.slice Av rs.length vc)) from by
        have hd1 := hpos.fin hdd (by omega) HN.out
        have hd2 := hd1.grow HN.out (fun B => (Value.slice Av rs.length vc).ownBlock = some B) (fun B hB => by have := own_lt hnam.own hB; omega)
        refine ⟨_, _, cs1, _, _, _, rfl, hd2, (hpos.elems (d := 0) (g := fun k => cv (cs1 (bodyOf e.ns k))) HLEN.out.1 (fun _ _ => rfl) (by decide) (fun _ _ => rfl) (fun k _ u hu => by simp [posRow] at hu; rcases hu with rfl | rfl <;> first | exact cv_one _ | rfl)).imp (fun a y h => ⟨.inl h.1, h.2⟩), (hnam.elems (d := 3) (g := fun x => x.2) HLEN.out.2 (fun _ _ => rfl) (by decide) (fun _ _ => rfl) (fun x hx u hu => by simp [nmRow] at hu; rcases hu with rfl | rfl | rfl | rfl | rfl <;> first | rfl | exact one_of_map HD0.out.vals x hx)).imp (fun a y h => ⟨h.1.elim (fun h => .inl (.inl h)) .inr, h.2⟩), ?_⟩
        rw [HD0.out.vals, ← List.map_append, ← HL12.out])
      clear hc hcc hpos hnam hdd
      go_wp2
      refine bodyPost_ret (v := .agg #[.slice Au l1.length uc, .slice Av rs.length vc]) ?_ rfl ?_
      · simp [results, Try.results98, go_sem, hr1]
      · exact FIN.out
end Go.Proofs.Ytincgkolpicipaa.kin
namespace Go.Proofs.Ytincgkolpicipaa.kin
open Go.RowKit
open Go.Proofs.Ytincgkolpicipaa.stack (step_after Chg owns_chg owns_form)
theorem Plc.chg {B : Nat} {W W' : World} {X : Nat → Prop} {v : Value} {ks : List Nat} (h : Plc B W v ks) (hc : Chg X W W') (hX : ∀ q, B ≤ q → ¬ X q) : Plc B W' v ks := by
  obtain ⟨A, cap, hv, hcp, hl, h⟩ := h
  refine ⟨A, cap, hv, hcp, hl, ?_⟩
  rcases h with h | ⟨q, o, ha, hB, hq, h⟩
  · exact .inl h
  · exact .inr ⟨q, o, ha, hB, Nat.lt_of_lt_of_le hq hc.size, fun j k hj => hc.cell (h j k hj) (hX q hB)⟩
def LocR (e : Env) (w : World) (cs : Pl) (U : Nat → Prop) (bs : List Nat) (bd : Nat) : Ending → World → Prop := Res e w cs U (bs ++ [bd]) 142 (fun rd cs' B => ∃ v, rd ⟨B, 0, none⟩ v ∧ Elems rd 12 1 v (bs.map fun k => cv (cs' (bodyOf e.ns k))) ∧ rd ⟨B, 1, none⟩ (cv (cs' bd)))
set_option maxRecDepth 100000 in
set_option maxHeartbeats 4000000 in
theorem both_local {e : Env} (hft : Fit e.ns) (bs : List Nat) (bd : Nat) (hbs : bs ≠ []) (hno : ∀ k ∈ bs, BindC e k ∧ bodyOf e.ns k ∈ kids e.ns k ∧ ∃ n, e.ns[k]? = some n) (hnb : NodeC e bd) (hs : Sep e.ns (bs ++ [bd])) (hlen : (bs ++ [bd]).length ≤ e.ns.length) (w : World) (cs : Pl) (U : Nat → Prop) (hst : St e w cs U) (hfr : Free e.ns cs (bs ++ [bd])) (B : Nat) (hB : e.N < B) (v : Value) (hp : Plc B w v (bs ++ [bd])) (o m z : Int) (t : ByteArray) :
    Calls Try.prog 84 #[.pointer (some ⟨e.b, 0, none⟩), .agg #[.int .i64 20, .int .i64 o, .string t, .int .i64 m, .int .i64 z], v] w (LocR e w cs U bs bd) := by
  obtain ⟨p, po, pc, rfl, hpc, hl, hBp, hpw, cb⟩ := hp.at (j := bs.length) (k := bd) (by rw [List.getElem?_append_right (Nat.le_refl _)]; simp)
  have htake := hp.take rfl
  have hpN : p ≠ e.N := by omega
  have S1 := Lib.hid (show ∀ w', Chg (· = e.N) w w' → (w'.cell? ⟨p, po + bs.length, none⟩ = some (.int .i64 bd)) ∧ Chg (· = e.N) w w' from fun w' hc => ⟨hc.cell cb hpN, hc⟩)
  have hsp := hs.app
  have HBI := Lib.hid (fun W (hb : Below w.heap.size w W) => (binds_does hft bs hno hsp.1 W cs U (hst.later hb) (hfr.sub fun x hx => List.mem_append.2 (.inl hx)) B hB _ (htake.later hb)).mono (R' := fun r w2 => ∃ (A : Option Addr) (n c : Nat) (cs' : Pl) (U' : Nat → Prop), r = .returned (.slice A n c) ∧ Done e (Rs e.ns bs) w w2 cs cs' U U' ∧ Elems (rd w2 U') 12 1 (.slice A n c) (bs.map fun k => cv (cs' (bodyOf e.ns k)))) fun r w2 ⟨u, cs', U', h1, h2, h3⟩ => by
    obtain ⟨A, c, rfl, -, -⟩ := id h3
    exact ⟨A, _, c, cs', U', h1, h2.before hb, h3⟩)
  have HNY := Lib.hid (fun W cs1 U1 (hd : Done e (Rs e.ns bs) w W cs cs1 U U1) => hnb.nx hft (hfr.sub fun x hx => List.mem_append.2 (.inr hx)) hsp.2.2 W cs1 U1 hd)
  have HIN := Lib.hid (show ∀ k ∈ bs, Rs e.ns bs (bodyOf e.ns k) from fun k hk => by
    obtain ⟨-, h2, n, h3⟩ := hno k hk
    have := hft.kid h3 h2
    exact ⟨k, hk, by omega, by omega⟩)
  have HAP := Lib.hid hsp.2.2
  have hc0 : ∀ o1, (w.alloc o1).cell? ⟨e.b, 0, none⟩ = some (.slice (some ⟨e.q, e.o, none⟩) e.ns.length e.cap) := fun o1 => cell_later ((Below.refl _ _).alloc (Nat.le_refl _) o1) hst.base.c0
  have hn1 : 1 ≤ bs.length := by cases bs with | nil => exact absurd rfl hbs | cons => simp
  rw [List.length_append] at hlen hl hpc ⊢
  simp only [List.length_cons, List.length_nil, Nat.zero_add] at hlen hl hpc ⊢
  generalize hm : bs.length = bl at hlen hl hpc hn1 S1 HBI ⊢
  clear hm
  have hl1 : (2 : Int) ≤ ((bl + 1 : Nat) : Int) := by omega
  have hl2 : ((bl + 1 : Nat) : Int) ≤ (e.ns.length : Int) := by omega
  have w1 : IntKind.i64.wrap ((bl : Int) + 1 - 1) = (bl : Int) := by rw [IntWalk.i64_in _ (by omega)]; omega
  have w2 : IntKind.i64.wrap (bl : Int) = (bl : Int) := IntWalk.i64_in _ (by omega)
  have hm0 : (0 : Int) ≤ (bl : Int) := by omega
  have hml : (bl : Int) < (bl : Int) + 1 := by omega
  have hmc : (bl : Int) ≤ (pc : Int) := by omega
  clear hft hbs hno hnb hs hlen hst hfr hB hp hsp htake hBp hpw cb hn1
  go_enter Try.func84, Try.ntmps84
  go_wp2_with (go_at_call 96; refine (count_ok _ _ _ _ _ _ hl1 hl2 _).mono ?_; rintro r w1 ⟨rfl, rfl⟩)
  go_region_held3 (fun w' => (w'.cell? ⟨p, po + bl, none⟩ = some (.int .i64 bd)) ∧ Chg (· = e.N) w w')
    (first | (with_reducible exact S1.out _ ((Chg.refl _ _).alloc _).drew) | (with_reducible exact S1.out _ HD3.out.chg) | (with_reducible exact S1.out _ HD2.out.chg) | (with_reducible exact S1.out _ (HD3.out.chg.alloc _)))
    (first | (go_at_call 100; refine (HBI.out _ (((Below.refl _ _).alloc (Nat.le_refl _) _).drew)).mono ?_; rintro r w2 ⟨A2, n2, c2, cs2, U2, rfl, hd2, hel⟩; have HEL := Lib.hid hel; have HD2 := Lib.hid hd2; clear hel hd2) | (go_at_call 55; refine (HNY.out _ _ _ HD2.out).mono ?_; rintro r w3 ⟨cs3, U3, T3, C3, rfl, hcj, hke, hd2, hd1⟩; have HCK := Lib.hid hcj; have HDI := Lib.hid hd1; have HD3 := Lib.hid hd2; clear hcj hd2 hke hd1))
  go_wp2
  go_ret
  have hsame : (bs.map fun k => cv (cs3 (bodyOf e.ns k))) = bs.map fun k => cv (cs2 (bodyOf e.ns k)) := List.map_congr_left fun k hk => by rw [HDI.out.out _ (HAP.out.dis (HIN.out k hk))]
  refine res_new HD3.out _ ⟨.slice A2 n2 c2, ⟨.inr rfl, by simp [World.cell?_alloc_new]⟩, ?_, ⟨.inr rfl, by rw [HCK.out]; simp [World.cell?_alloc_new, cv]⟩⟩
  rw [hsame]
  exact HEL.out.imp fun a y h => ⟨.inl (HDI.out.up _ h.1), cell_later ((Below.refl _ _).alloc (Nat.le_refl _) _) (HDI.out.chg.cell h.2 fun hx => HD2.out.st.un (hx ▸ h.1))⟩
def AppR (e : Env) (w : World) (cs : Pl) (U : Nat → Prop) (a : Nat) (ks : List Nat) : Ending → World → Prop := Res e w cs U (a :: ks) 126 (fun rd cs' B => ∃ u v xs ys, rd ⟨B, 0, none⟩ (cv (cs' a)) ∧ rd ⟨B, 2, none⟩ u ∧ Elems rd 2 0 u xs ∧ rd ⟨B, 3, none⟩ v ∧ Elems rd 5 3 v ys ∧ xs ++ ys = ks.map fun k => cv (cs' (bodyOf e.ns k)))
set_option maxRecDepth 100000 in
set_option maxHeartbeats 4000000 in
theorem both_apply {e : Env} (hg : Good e.ns) (hL : e.ns.length ≤ 400) (a : Nat) (ks : List Nat) (hna : NodeC e a) (ha : Args e.ns ks) (hno : ∀ k ∈ ks, ∀ x ∈ kids e.ns k, NodeC e x) (hs : Sep e.ns (a :: ks)) (hlen : (a :: ks).length ≤ e.ns.length) (w : World) (cs : Pl) (U : Nat → Prop) (hst : St e w cs U) (hfr : Free e.ns cs (a :: ks)) (B : Nat) (hB : e.N < B) (v : Value) (hp : Plc B w v (a :: ks)) (o m z : Int) (t : ByteArray) :
    Calls Try.prog 84 #[.pointer (some ⟨e.b, 0, none⟩), .agg #[.int .i64 18, .int .i64 o, .string t, .int .i64 m, .int .i64 z], v] w (AppR e w cs U a ks) := by
  obtain ⟨p, po, pc, rfl, hpc, hl, hBp, hpw, cx⟩ := hp.at (j := 0) (k := a) rfl
  rw [Nat.add_zero] at cx
  have hfrom := Plc.from_ (ks := [a]) (ls := ks) hp rfl
  simp only [List.length_cons, List.length_nil, Nat.zero_add] at hfrom
  have hpN : p ≠ e.N := by omega
  have hbox : ∀ w', Chg (· = e.N) (w.alloc (.cells #[.int .i64 18, .int .i64 o, .string t, .int .i64 m, .int .i64 z] 37)) w' → w'.cell? ⟨w.heap.size, 3, none⟩ = some (.int .i64 m) := fun w' hc => hc.cell (by simp [World.cell?_alloc_new]) (show ¬ w.heap.size = e.N by have := hst.nlt; omega)
  have S1 := Lib.hid (show ∀ w', Chg (· = e.N) (w.alloc (.cells #[.int .i64 18, .int .i64 o, .string t, .int .i64 m, .int .i64 z] 37)) w' → (w'.cell? ⟨p, po, none⟩ = some (.int .i64 a) ∧ w'.cell? ⟨w.heap.size, 3, none⟩ = some (.int .i64 m)) ∧ Chg (· = e.N) (w.alloc (.cells #[.int .i64 18, .int .i64 o, .string t, .int .i64 m, .int .i64 z] 37)) w' from fun w' hc => ⟨⟨hc.cell (cell_later ((Below.refl _ _).alloc (Nat.le_refl _) _) cx) hpN, hbox w' hc⟩, hc⟩)
  have hsp := (show Sep e.ns ([a] ++ ks) from hs).app
  have hb0 := (Below.refl w.heap.size w).alloc (Nat.le_refl _) (.cells #[.int .i64 18, .int .i64 o, .string t, .int .i64 m, .int .i64 z] 37)
  have HNX := Lib.hid (fun W (hb : Below (w.alloc (.cells #[.int .i64 18, .int .i64 o, .string t, .int .i64 m, .int .i64 z] 37)).heap.size (w.alloc (.cells #[.int .i64 18, .int .i64 o, .string t, .int .i64 m, .int .i64 z] 37)) W) => hna.first hg.fit (hst.later hb0) (hfr.sub fun x hx => by rw [List.mem_singleton] at hx; simp [hx]) W hb)
  have HAR := Lib.hid (fun (W : World) cs1 U1 (hd : Done e (Rs e.ns [a]) (w.alloc (.cells #[.int .i64 18, .int .i64 o, .string t, .int .i64 m, .int .i64 z] 37)) W cs cs1 U U1) => (arguments_does hg hL ks ha hno hsp.2.1 W cs1 U1 hd.st (hd.free hsp.2.2 (hfr.sub fun x hx => by simp [hx])) B hB _ ((hfrom.later hb0).chg hd.chg fun q hq hx => by omega)).mono (R' := fun r w2 => ∃ (A : Option Addr) (n c : Nat) (A' : Option Addr) (n' c' : Nat) (cs' : Pl) (U' : Nat → Prop) (xs ys : List Value), r = .returned (.agg #[.slice A n c, .slice A' n' c']) ∧ Done e (Rs e.ns (a :: ks)) (w.alloc (.cells #[.int .i64 18, .int .i64 o, .string t, .int .i64 m, .int .i64 z] 37)) w2 cs cs' U U' ∧ cs' a = cs1 a ∧ Elems (rd w2 U') 2 0 (.slice A n c) xs ∧ Elems (rd w2 U') 5 3 (.slice A' n' c') ys ∧ xs ++ ys = ks.map fun k => cv (cs' (bodyOf e.ns k))) fun r w2 ⟨u, v, cs', U', xs, ys, h1, h2, h3, h4, h5⟩ => by
    obtain ⟨A, c, rfl, -, -⟩ := id h3
    obtain ⟨A', c', rfl, -, -⟩ := id h4
    exact ⟨A, _, c, A', _, c', cs', U', xs, ys, h1, hd.app h2 hsp.2.2, h2.keeps hg.fit hsp.2.2 a (by simp), h3, h4, h5⟩)
  have HB0 := Lib.hid hb0
  have hc0 : ∀ o1, (w.alloc o1).cell? ⟨e.b, 0, none⟩ = some (.slice (some ⟨e.q, e.o, none⟩) e.ns.length e.cap) := fun o1 => cell_later ((Below.refl _ _).alloc (Nat.le_refl _) o1) hst.base.c0
  rw [List.length_cons] at hlen hl hpc ⊢
  generalize hm : ks.length = kl at hlen hl hpc HAR ⊢
  clear hm
  have hl1 : (1 : Int) ≤ ((kl + 1 : Nat) : Int) := by omega
  have hl2 : ((kl + 1 : Nat) : Int) ≤ (e.ns.length : Int) := by omega
  have hk1 : (1 : Int) ≤ (kl : Int) + 1 := by omega
  have hk2 : (1 : Int) ≤ (pc : Int) := by omega
  have hk3 : (kl : Int) + 1 ≤ (pc : Int) := by omega
  clear hg hL hna ha hno hs hlen hst hfr hB hp hsp hfrom hBp hpw cx hbox hb0
  by_cases hne : pc = 1
  · subst hne
    obtain rfl : kl = 0 := by omega
    simp only [if_pos] at HAR
    go_enter Try.func84, Try.ntmps84
    go_wp2_with (go_at_call 96; refine (count_ok _ _ _ _ _ _ hl1 hl2 _).mono ?_; rintro r w1 ⟨rfl, rfl⟩)
    go_region_held3 (fun w' => (w'.cell? ⟨p, po, none⟩ = some (.int .i64 a) ∧ w'.cell? ⟨w.heap.size, 3, none⟩ = some (.int .i64 m)) ∧ Chg (· = e.N) (w.alloc (.cells #[.int .i64 18, .int .i64 o, .string t, .int .i64 m, .int .i64 z] 37)) w')
      (first | (with_reducible exact S1.out _ (Chg.refl _ _).drew) | (with_reducible exact S1.out _ HD3.out.chg) | (with_reducible exact S1.out _ HD2.out.chg) | (with_reducible exact S1.out _ (HD3.out.chg.alloc _)))
      (first | (go_at_call 55; refine (HNX.out _ ((Below.refl _ _).drew)).mono ?_; rintro r w2 ⟨cs2, U2, T, C, rfl, hcj, hd2⟩; have HCJ := Lib.hid hcj; have HD2 := Lib.hid hd2; clear hcj hd2) | (go_at_call 98; refine (HAR.out _ _ _ HD2.out).mono ?_; rintro r w3 ⟨A2, n2, c2, A3, n3, c3, cs3, U3, xs, ys, rfl, hd3, hsa, hx, hy, hxy⟩; have HD3 := Lib.hid hd3; have HSA := Lib.hid hsa; have HXX := Lib.hid hx; have HYY := Lib.hid hy; have HXY := Lib.hid hxy; clear hd3 hsa hx hy hxy))
    go_wp2
    go_ret
    refine res_new (HD3.out.before HB0.out) _ ⟨.slice A2 n2 c2, .slice A3 n3 c3, xs, ys, ⟨.inr rfl, by rw [HSA.out, HCJ.out]; simp [World.cell?_alloc_new, cv]⟩, ⟨.inr rfl, by simp [World.cell?_alloc_new]⟩, ?_, ⟨.inr rfl, by simp [World.cell?_alloc_new]⟩, ?_, HXY.out⟩
    · exact HXX.out.imp fun a y h => ⟨.inl h.1, cell_later ((Below.refl _ _).alloc (Nat.le_refl _) _) h.2⟩
    · exact HYY.out.imp fun a y h => ⟨.inl h.1, cell_later ((Below.refl _ _).alloc (Nat.le_refl _) _) h.2⟩
  · simp only [if_neg hne] at HAR
    go_enter Try.func84, Try.ntmps84
    go_wp2_with (go_at_call 96; refine (count_ok _ _ _ _ _ _ hl1 hl2 _).mono ?_; rintro r w1 ⟨rfl, rfl⟩)
    go_region_held3 (fun w' => (w'.cell? ⟨p, po, none⟩ = some (.int .i64 a) ∧ w'.cell? ⟨w.heap.size, 3, none⟩ = some (.int .i64 m)) ∧ Chg (· = e.N) (w.alloc (.cells #[.int .i64 18, .int .i64 o, .string t, .int .i64 m, .int .i64 z] 37)) w')
      (first | (with_reducible exact S1.out _ (Chg.refl _ _).drew) | (with_reducible exact S1.out _ HD3.out.chg) | (with_reducible exact S1.out _ HD2.out.chg) | (with_reducible exact S1.out _ (HD3.out.chg.alloc _)))
      (first | (go_at_call 55; refine (HNX.out _ ((Below.refl _ _).drew)).mono ?_; rintro r w2 ⟨cs2, U2, T, C, rfl, hcj, hd2⟩; have HCJ := Lib.hid hcj; have HD2 := Lib.hid hd2; clear hcj hd2) | (go_at_call 98; refine (HAR.out _ _ _ HD2.out).mono ?_; rintro r w3 ⟨A2, n2, c2, A3, n3, c3, cs3, U3, xs, ys, rfl, hd3, hsa, hx, hy, hxy⟩; have HD3 := Lib.hid hd3; have HSA := Lib.hid hsa; have HXX := Lib.hid hx; have HYY := Lib.hid hy; have HXY := Lib.hid hxy; clear hd3 hsa hx hy hxy))
    go_wp2
    go_ret
    refine res_new (HD3.out.before HB0.out) _ ⟨.slice A2 n2 c2, .slice A3 n3 c3, xs, ys, ⟨.inr rfl, by rw [HSA.out, HCJ.out]; simp [World.cell?_alloc_new, cv]⟩, ⟨.inr rfl, by simp [World.cell?_alloc_new]⟩, ?_, ⟨.inr rfl, by simp [World.cell?_alloc_new]⟩, ?_, HXY.out⟩
    · exact HXX.out.imp fun a y h => ⟨.inl h.1, cell_later ((Below.refl _ _).alloc (Nat.le_refl _) _) h.2⟩
    · exact HYY.out.imp fun a y h => ⟨.inl h.1, cell_later ((Below.refl _ _).alloc (Nat.le_refl _) _) h.2⟩
end Go.Proofs.Ytincgkolpicipaa.kin
namespace Go.Proofs.Ytincgkolpicipaa.kin
open Go.RowKit
open Go.Proofs.Ytincgkolpicipaa.stack (step_after Chg owns_chg owns_form)
def spCells (vC : Value) (op : Option Addr) (T : TypeId) (C : Nat) (t : ByteArray) : Array Value := #[.slice none 0 0, .slice none 0 0, vC, .pointer op, .iface T (.pointer (some ⟨C, 0, none⟩)), .string t, .slice none 0 0]
theorem Try.info209 : (Try.prog.info? 209).map (fun i => (i.zero, i.size, i.bytes)) = some (some (.agg #[.nilIface, .slice none 0 0]), 2, 40) := by kernel_rfl
/-- Where builder.specs stands: the places l are built; the block of the result. -/
structure Sp0 (e : Env) (w : World) (cs : Pl) (U : Nat → Prop) (l : List Nat) (wr : World) (cs1 : Pl) (U1 : Nat → Prop) : Prop where
  done : Done e (Rs e.ns l) w wr cs cs1 U U1
  res : wr.heap[w.heap.size]? = some (.cells #[.slice none 0 0, .slice none 0 0, .slice none 0 0, .pointer none, .nilIface, .string ⟨#[]⟩, .slice none 0 0] 205 (0, 0))
  out : ¬ U1 w.heap.size
/-- The last for: its block, its conditions. -/
structure SpQ (w wr : World) (U1 : Nat → Prop) (Q : Nat) (vC : Value) (op : Option Addr) (T : TypeId) (C : Nat) (t : ByteArray) (n : Nat) : Prop where
  blk : wr.heap[Q]? = some (.cells (spCells vC op T C t) 205 (0, 0))
  row : ∃ xs, Mine wr (w.heap.size + 1) U1 209 2 vC n xs
  out : ¬ U1 Q
  ge : w.heap.size < Q
section
variable {e : Env} {w : World} {cs : Pl} {U : Nat → Prop} {l : List Nat} {wr W w2 : World} {cs1 cs2 : Pl} {U1 U2 : Nat → Prop} {Q : Nat} {vC : Value} {op : Option Addr} {T : TypeId} {C : Nat} {t : ByteArray} {n : Nat}
theorem Sp0.later (h : Sp0 e w cs U l wr cs1 U1) (hb : Below wr.heap.size wr W) : Sp0 e w cs U l W cs1 U1 :=
  ⟨h.done.later hb, hkeep hb h.res, h.out⟩
theorem Sp0.node {j : Nat} (h : Sp0 e w cs U l wr cs1 U1) (hN : e.N < w.heap.size) (hd : Done e (Rs e.ns [j]) wr W cs1 cs2 U1 U2) (ha : Apt e.ns l [j]) : Sp0 e w cs U (l ++ [j]) W cs2 U2 :=
  ⟨h.done.app hd ha, hd.chg.keep h.res (by omega), hd.apart (Array.getElem?_eq_some_iff.1 h.res).1 h.out⟩
theorem SpQ.later (h : SpQ w wr U1 Q vC op T C t n) (hb : Below wr.heap.size wr W) : SpQ w W U1 Q vC op T C t n :=
  ⟨hkeep hb h.blk, by obtain ⟨xs, hx⟩ := h.row; exact ⟨xs, hx.later hb⟩, h.out, h.ge⟩
theorem SpQ.node {S : Nat → Prop} (h : SpQ w wr U1 Q vC op T C t n) (hN : e.N < w.heap.size) (hd : Done e S wr W cs1 cs2 U1 U2) : SpQ w W U2 Q vC op T C t n :=
  ⟨hd.chg.keep h.blk (by have := h.ge; omega), by obtain ⟨xs, hx⟩ := h.row; exact ⟨xs, hx.done hd (by omega)⟩, hd.apart (Array.getElem?_eq_some_iff.1 h.blk).1 h.out, h.ge⟩
theorem SpQ.push {xs : List Value} (h0 : Sp0 e w cs U l wr cs1 U1) (h : SpQ w wr U1 Q vC op T C t n) (hm : Mine wr (w.heap.size + 1) U1 209 2 vC n xs) (hN : e.N < w.heap.size) (W w2 : World) (hb : Below wr.heap.size wr W) (hg : W.grownBy w2 vC.ownBlock) (g k m : Nat) (ys : List Value) (hown : w2.ownsRow (w.heap.size + 1) 209 2 (.slice (some ⟨g, 0, none⟩) m k) m ys) (hat : vC.ownBlock = some g ∨ g = W.heap.size) :
    w2.heap[Q]? = some (.cells (spCells vC op T C t) 205 (0, 0)) ∧ Sp0 e w cs U l (w2.setCell ⟨Q, 2, none⟩ (.slice (some ⟨g, 0, none⟩) m k)) cs1 U1 ∧ SpQ w (w2.setCell ⟨Q, 2, none⟩ (.slice (some ⟨g, 0, none⟩) m k)) U1 Q (.slice (some ⟨g, 0, none⟩) m k) op T C t m := by
  have hW := h.later hb
  have hmW := hm.later hb
  have h0W := h0.later hb
  have hc0 : Chg (fun B => vC.ownBlock = some B) W w2 := (Chg.refl _ _).grown hg fun _ hk _ => hk
  have hneQ : vC.ownBlock ≠ some Q := fun hx => by
    rcases hmW.own.2 with ⟨rfl, -⟩ | ⟨a, cap, cur, rfl, -, hh, -⟩
    · simp [Value.ownBlock] at hx
    · simp [Value.ownBlock] at hx; subst hx
      rw [hW.blk] at hh
      injection hh with h1
      injection h1 with _ h2
      exact absurd h2 (by decide)
  have hneR : vC.ownBlock ≠ some w.heap.size := fun hx => by have := (own_lt hm.own hx).1; omega
  have hblk := hc0.keep hW.blk hneQ
  have hres := hc0.keep h0W.res hneR
  have hat2 : Value.ownBlock (.slice (some ⟨g, 0, none⟩) m k) = vC.ownBlock ∨ Value.ownBlock (.slice (some ⟨g, 0, none⟩) m k) = some W.heap.size := by
    rcases hat with h | h
    · exact .inl h.symm
    · exact .inr (by rw [← h]; rfl)
  have hgr := hmW.grown h0W.done.st.lt hown hat2
  have hc : ∀ x : Value, Chg (· = Q) w2 (w2.setCell ⟨Q, 2, none⟩ x) := fun x => Chg.setCell (X := (· = Q)) (p := ⟨Q, 2, none⟩) (Chg.refl _ w2) (fun _ => rfl) x
  have hge := h.ge
  have hneG : Value.ownBlock (.slice (some ⟨g, 0, none⟩) m k) ≠ some Q := fun hx => by
    rcases hat2 with h2 | h2
    · rw [h2] at hx; exact hneQ hx
    · rw [h2] at hx; cases hx; have := (Array.getElem?_eq_some_iff.1 hW.blk).1; omega
  refine ⟨hblk, ⟨done_setIn (h0W.done.grown hmW (by omega) (by omega) hg) (by omega) h.out (by omega) _ _, (hc _).keep hres (by omega), h0.out⟩, ⟨blk_set hblk 2 _, ⟨ys, hgr.other (hc _) fun B hB => by subst hB; exact hneG⟩, h.out, h.ge⟩⟩
end
def SpecsR (e : Env) (w : World) (cs : Pl) (U : Nat → Prop) (ks : List Nat) (r : Ending) (w' : World) : Prop :=
  ∃ (cs' : Pl) (U' : Nat → Prop) (A : Option Addr) (m c : Nat) (op : Option Addr) (T : TypeId) (C : Nat) (t : ByteArray), r = .returned (.agg #[.slice none 0 0, .slice none 0 0, .slice A m c, .pointer op, .iface T (.pointer (some ⟨C, 0, none⟩)), .string t, .slice none 0 0]) ∧ Done e (Rs e.ns ks) w w' cs cs' U U'
theorem spec_kids {ns : List Nd} (hg : Good ns) {k : Nat} {n : Nd} (hn : ns[k]? = some n) (hk : n.k = 38 ∨ n.k = 39) : ∃ a, kids ns k = [a] ∧ Ex ns a := by
  have hs := hg.shp k n hn
  generalize kids ns k = ks at hs
  cases hs with
  | one h ha => exact ⟨_, rfl, ha⟩
  | _ => exfalso; omega
end Go.Proofs.Ytincgkolpicipaa.kin

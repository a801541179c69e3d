/- FnChildren: builder.members by contract, the walk; builder.objectComp by contract; builder.both by contract: arrays, functions, conditions, calls, locals; builder.maybe, assert by contract; builder.sugar by contract. -/
import Derived.Test.YtincgkolpicipaaC08
import Derived.Test.YtincgkolpicipaaC10
import Derived.Test.YtincgkolpicipaaC13
import Derived.Deep.RegionWith
set_option linter.unusedVariables false
set_option linter.unusedSimpArgs false
namespace Go.Proofs.Ytincgkolpicipaa.kin
open Go.RowKit
open Go.Proofs.Ytincgkolpicipaa.stack (step_after Chg owns_chg owns_form)
theorem body_ex {ns : List Nd} (hg : Good ns) {a : Nat} {n : Nd} (hn : ns[a]? = some n) (hk : n.k = 32) : Ex ns (bodyOf ns a) := by
  obtain ⟨ps, b, hkk, hb, -⟩ := bind_kids hg hn hk
  have : bodyOf ns a = b := by unfold bodyOf; rw [hkk]; simp
  rw [this]; exact hb
theorem kid_first {ns : List Nd} (hg : Good ns) {j a : Nat} {n : Nd} {r : List Nat} (hn : ns[j]? = some n) (hk : kids ns j = a :: r) : a = j + 1 := by
  have h := (hg.fit j n hn).kids
  rw [hk] at h
  generalize j + n.z.toNat = q at h
  generalize hs : j + 1 = s at h ⊢
  cases h; rfl
theorem third_new (W : World) (o1 o2 o3 : Obj) : (((W.alloc o1).alloc o2).alloc o3).heap[W.heap.size + 1 + 1]? = some o3 := by simpa using heap_alloc_new ((W.alloc o1).alloc o2) o3
theorem second_new (W : World) (o1 o2 : Obj) : ((W.alloc o1).alloc o2).heap[W.heap.size + 1]? = some o2 := by simpa using heap_alloc_new (W.alloc o1) o2
theorem fold_gen {α : Type} : ∀ (L : List α) (n : Nat) (arr : Array α), arr.size = n + L.length → (∀ i, i < n → True) → ((L.zipIdx n).foldl (fun cs x => cs.setIfInBounds x.2 x.1) arr).toList = arr.toList.take n ++ L
  | [], n, arr, h, _ => by
    simp at h
    simp [List.take_of_length_le, h]
  | a :: L, n, arr, h, hh => by
    rw [List.zipIdx_cons, List.foldl_cons, fold_gen L (n + 1) _ (by simp at h ⊢; omega) (fun _ _ => trivial)]
    simp at h
    have hn : n < arr.toList.length := by simp; omega
    rw [Array.toList_setIfInBounds, List.take_set]
    rw [List.take_succ_eq_append_getElem hn, List.set_append]
    simp [Nat.min_eq_left (by simpa using Nat.le_of_lt hn)]
theorem fold18 (L : List Value) (arr : Array Value) (h : arr.size = L.length) : L.zipIdx.foldl (fun cs x => cs.setIfInBounds x.2 x.1) arr = L.toArray := by
  apply Array.toList_inj.1
  rw [fold_gen L 0 arr (by omega) (fun _ _ => trivial)]
  simp
set_option maxRecDepth 100000 in
set_option maxHeartbeats 8000000 in
theorem members_does {e : Env} (hg : Good e.ns) (hL : e.ns.length ≤ 400) (ks : List Nat) (ha : Kd e.ns [35, 36, 37] ks) (hno : ∀ k ∈ ks, ∀ x, k < x → x < k + sz e.ns k → Ex e.ns x → NodeC e x) (hs : Sep e.ns ks) (w : World) (cs : Pl) (U : Nat → Prop) (hst : St e w cs U) (hfr : Free e.ns cs ks) (B : Nat) (hB : e.N < B) (v : Value) (hp : Plc B w v ks) :
    Calls Try.prog 108 #[.pointer (some ⟨e.b, 0, none⟩), v] w (MembersR e w cs U ks) := by
  obtain ⟨i0, hi1, hi2, hi3, hi4⟩ := info_parts Try.info254
  have HI := Lib.hid (And.intro hi1 (And.intro hi2 (And.intro hi3 hi4)))
  obtain ⟨A, pc, rfl, -, hl⟩ := hp.form
  have HMB0 := Lib.hid (show MbS e w cs U [] [] [] w cs U (.slice none 0 0) from ⟨Done.none hst (Below.refl _ _), Mine.nil _ _ _ _ _, rfl, fun L h => by simp at h, fun j x L h => by simp at h⟩)
  have HP := Lib.hid hp
  have HG := Lib.hid hg
  have HL := Lib.hid hL
  have HARG := Lib.hid ha
  have HNO := Lib.hid hno
  have HS := Lib.hid hs
  have HFR := Lib.hid hfr
  have HN := Lib.hid hst.nlt
  have HB := Lib.hid hB
  clear hi1 hi2 hi3 hi4 hp hg hL ha hno hs hst hfr hB
  generalize hm : ks.length = m at hl HP ⊢
  have HM := Lib.hid hm
  clear hm
  go_enter Try.func108, Try.ntmps108
  go_wp2
  go_loopw [5, 15] (fun x i wr => ∃ (k : Nat) (l : List Nat) (Ls : List (List Value)) (cs1 : Pl) (U1 : Nat → Prop) (A1 : Option Addr) (vc : Nat), k ≤ m ∧ i = .int .i64 k ∧ x = .slice A1 Ls.length vc ∧ Hid (l = ks.take k) ∧ Hid (MbS e w cs U l l Ls wr cs1 U1 (.slice A1 Ls.length vc))) (fun _ i _ => m - (intOf i).toNat)
  case atStart => exact ⟨0, [], [], cs, U, none, 0, Nat.zero_le _, rfl, rfl, Lib.hid (by simp), HMB0⟩
  case round =>
    obtain ⟨k, l, Ls, cs1, U1, A1, vc, hk, rfl, rfl, HLL, HD0⟩ := hrel
    by_cases hlt : k < m
    · obtain ⟨j, hj⟩ := getElem?_lt (show k < ks.length by have := HM.out; omega)
      obtain ⟨p, po, rfl, hpB, hpw, cx⟩ := HP.out.here hj
      have cx1 := HD0.out.done.chg.cell cx (show ¬ p = e.N by have := HB.out; omega)
      have hki : (k : Int) < (m : Int) := by omega
      have hjm := List.mem_of_getElem? hj
      obtain ⟨n, hn, hk3⟩ := HARG.out j hjm
      have hk3 : n.k = 35 ∨ n.k = 36 ∨ n.k = 37 := by simpa using hk3
      have hjl : (j : Int) < (e.ns.length : Int) := by have := (List.getElem?_eq_some_iff.1 hn).1; omega
      have HAP := Lib.hid (apt_at HS.out HLL.out hj)
      have HLS := Lib.hid (show l ++ [j] = ks.take (k + 1) by rw [HLL.out, List.take_add_one, hj]; rfl)
      have HNOJ := Lib.hid (HNO.out j hjm)
      have HFJ := Lib.hid (HFR.out.sub (l := [j]) fun x hx => by rw [List.mem_singleton] at hx; rw [hx]; exact hjm)
      have HIN := Lib.hid (show ∀ x ∈ l, ∀ p ∈ memAll (memP e.ns x), Rs e.ns l p from fun x hx p hpp => by
        have hxk : x ∈ ks := by rw [HLL.out] at hx; exact List.mem_of_mem_take hx
        obtain ⟨nx, hnx, hkx⟩ := HARG.out x hxk
        exact (memP_in HG.out hnx (by simpa using hkx) p hpp).sub fun y hy => by rw [List.mem_singleton] at hy; subst hy; exact hx)
      have hlk : Ls.length ≤ 400 := by rw [HD0.out.len, HLL.out, List.length_take]; omega
      obtain ⟨k0, o0, t0, m0, z0⟩ := n
      dsimp only at hk3
      have HK3 := Lib.hid hk3
      clear cx hj hpB hpw hjm hk3
      go_upto_region 5 with fail
      have hbase := HD0.out.done.st.base
      have S1 := Lib.hid (nodeS hbase hn)
      have HK := Lib.hid (kidsB HL.out HG.out.fit hbase hn)
      have SA := Lib.hid (show ∀ (w' : World) (o1 : Obj), (w'.cell? ⟨e.b, 0, none⟩ = some (.slice (some ⟨e.q, e.o, none⟩) e.ns.length e.cap) ∧ w'.cell? ⟨e.q, e.o + j * 5, none⟩ = some (.int .i64 k0) ∧ w'.cell? ⟨e.q, e.o + j * 5 + 1, none⟩ = some (.int .i64 o0) ∧ w'.cell? ⟨e.q, e.o + j * 5 + 2, none⟩ = some (.string t0) ∧ w'.cell? ⟨e.q, e.o + j * 5 + 3, none⟩ = some (.int .i64 m0) ∧ w'.cell? ⟨e.q, e.o + j * 5 + 4, none⟩ = some (.int .i64 z0)) ∧ Below wr.heap.size wr w' → _ from fun w' o1 hh => S1.out (w'.alloc o1) (hh.2.alloc hh.2.size o1))
      have SB := Lib.hid (show ∀ (o1 : Obj), _ from fun o1 => S1.out (wr.alloc o1).drew ((Below.refl _ _).alloc (Nat.le_refl _) o1).drew)
      obtain ⟨⟨e0, n0, n1, n2, n3, n4⟩, -⟩ := S1.out wr (Below.refl _ _)
      have HNJ := Lib.hid hn
      clear hn hbase
      go_cut [8, 9] (fun s8 s9 wx => ∃ P : Nat, wr.heap.size ≤ P ∧ s8 = .pointer (some ⟨P, 0, none⟩) ∧ Plc wr.heap.size wx s9 (kids e.ns j) ∧ Box wx P k0 o0 m0 z0 t0 ∧ Below wr.heap.size wr wx)
      case first =>
        go_region_held3 (fun w' => (w'.cell? ⟨e.b, 0, none⟩ = some (.slice (some ⟨e.q, e.o, none⟩) e.ns.length e.cap) ∧ w'.cell? ⟨e.q, e.o + j * 5, none⟩ = some (.int .i64 k0) ∧ w'.cell? ⟨e.q, e.o + j * 5 + 1, none⟩ = some (.int .i64 o0) ∧ w'.cell? ⟨e.q, e.o + j * 5 + 2, none⟩ = some (.string t0) ∧ w'.cell? ⟨e.q, e.o + j * 5 + 3, none⟩ = some (.int .i64 m0) ∧ w'.cell? ⟨e.q, e.o + j * 5 + 4, none⟩ = some (.int .i64 z0)) ∧ Below wr.heap.size wr w')
          (first | (with_reducible exact S1.out _ ((Below.refl _ _).drew)) | (with_reducible exact SA.out _ _ (by assumption)) | (with_reducible exact S1.out _ hb) | (with_reducible exact S1.out _ (hb.alloc hzw _)) | (with_reducible exact SB.out _) | (with_reducible exact S1.out _ (((((hb.setCell (by exact Nat.le_refl _) _).setCell (by exact Nat.le_refl _) _).setCell (by exact Nat.le_refl _) _).setCell (by exact Nat.le_refl _) _).setCell (by exact Nat.le_refl _) _)))
          (first | (go_at_call 81; refine (HK.out _ (And.right (by assumption))).mono ?_; rintro e w1 ⟨v, rfl, hkd, hb, hb2, hkd2⟩; have HKD := Lib.hid hkd; have HKD2 := Lib.hid hkd2; clear hkd hkd2; have hzw := hb.size; try (first | (have hv := row_parts (hkeep hb2 (heap_alloc_new wr _)); obtain ⟨hv1, hv2⟩ := hv) | (have hv := row_parts (hkeep hb2 (heap_alloc_new wr.drew _)); obtain ⟨hv1, hv2⟩ := hv))))
        all_goals (go_wp2_with fail; go_meet)
        · exact ⟨w1.heap.size, hzw, rfl, HKD.out.later ((Below.refl _ _).alloc (Nat.le_refl _) _), ⟨by simp [World.cell?_alloc_new], by simp [World.cell?_alloc_new], by simp [World.cell?_alloc_new], by simp [World.cell?_alloc_new], by simp [World.cell?_alloc_new]⟩, hb.alloc hzw _⟩
        · exact ⟨wr.heap.size, Nat.le_refl _, rfl, ((((((HKD2.out.setCell (by simp) _).setCell (by simp) _).setCell (by simp) _).setCell (by simp) _).setCell (by simp) _).mono (by simp)), by simp [Box, go_sem, hv1], (((((hb.setCell (by exact Nat.le_refl _) _).setCell (by exact Nat.le_refl _) _).setCell (by exact Nat.le_refl _) _).setCell (by exact Nat.le_refl _) _).setCell (by exact Nat.le_refl _) _)⟩
      case rest =>
        obtain ⟨P, hPw, rfl, hkd, ⟨b0, b1, b2, b3, b4⟩, hb⟩ := hcut
        have HPN := Lib.hid (show P ≠ e.N by have h1 := HD0.out.done.chg.size; have h2 := HN.out; omega)
        have HWN := Lib.hid (show e.N < wr.heap.size by have h1 := HD0.out.done.chg.size; have h2 := HN.out; omega)
        have HMW := Lib.hid (HD0.out.later hb)
        have HSZ := Lib.hid (show w.heap.size ≤ wc.heap.size by have h1 := HD0.out.done.chg.size; have h2 := hb.size; omega)
        have hfk := HFJ.out.kids HG.out.fit HNJ.out
        have HFK := Lib.hid (HMW.out.done.free (HAP.out.kids HG.out.fit HNJ.out) hfk)
        have HX := Lib.hid (show ¬ Ex e.ns j by
          rintro ⟨n, h1, h2, h3⟩
          rw [HNJ.out] at h1; cases h1; have := HK3.out; simp at h3; omega)
        have HKD := Lib.hid hkd
        clear hkd hb hfk e0 n0 n1 n2 n3 n4 S1 SA SB HK cx1 hPw
        rename World => wd
        have h3 := HK3.out
        rcases h3 with rfl | rfl | rfl
        · have hfld := field_any HG.out HL.out j _ HNJ.out rfl HNOJ.out wd cs1 U1 HMW.out.done.st HFK.out wr.heap.size HWN.out _ HKD.out
          obtain ⟨A2, pc2, h9, -, hkl⟩ := HKD.out.form
          have hl0 : (0 : Int) < ((kids e.ns j).length : Int) := by
            have := field_kids HG.out HNJ.out rfl
            have : 0 < (kids e.ns j).length := List.length_pos_iff.2 this
            omega
          subst h9
          generalize (kids e.ns j).length = kl at hfld hl0 HKD ⊢
          have HF := Lib.hid hfld
          clear hfld hkl
          go_wp2_with (first | (go_at_call 112; refine HF.out.mono ?_; rintro r w2 ⟨cs2, U2, L, rfl, hLl, hL1, hd1, hq⟩; have hmb := HMW.out.node HN.out (Done.upTo HG.out.fit HNJ.out HX.out hd1) HAP.out HIN.out; have hown2 := hmb.row.own; have HMB := Lib.hid hmb; have HLE := Lib.hid (And.intro hLl hL1); have HQ := Lib.hid hq; have HD1 := Lib.hid hd1; have hfold := fold18 L #[.pointer none, .pointer none, .slice none 0 0, .slice none 0 0, .slice none 0 0, .slice none 0 0, .nilIface, .nilIface, .nilIface, .pointer none, .string ⟨#[]⟩, .int .i64 0, .int .i64 0, .int .i64 0, .int .i64 0, .int .i64 0, .int .i64 0, .bool false] (by rw [hLl]; rfl); clear hmb hL1 hd1 hq) | (at_builtin; refine wpList_append_own_at (hgd := rfl) (s := _) (x := _) (t := 196) (ho := rfl) (base := w.heap.size) (e := 254) (i := i0) (z := _) (size := 18) (bytes := 240) (ht := Try.underlying196) (hi := HI.out.1) (hz := HI.out.2.1) (hsize := HI.out.2.2.1) (hby := HI.out.2.2.2) (hzs := rfl) (hsz := by decide) (v := _) (n := Ls.length) (xs := Ls.flatMap fun L => L) (hs := rfl) (hown := hown2.alloc _) (ad := ⟨w2.heap.size, 0, none⟩) (m := 1) (c := 1) (news := L) (hx := rfl) (hl := by rw [HLE.out.1]) (hnews := World.news_of_block (heap_alloc_new _ _)) (h1 := ?q2) (h63 := ?q3) (hbytes := ?q4) (hbase := ?q5) (h := ?_)))
          case q2 => exact HLE.out.2
          case q3 => rw [stack.maxLen_eq]; omega
          case q4 => omega
          case q5 => have h1 := HSZ.out; have h2 := HD1.out.chg.size; simp; omega
          intro v2 W2 hown3 hg3 _ hat
          obtain ⟨A3, c3, rfl, -⟩ := owns_form hown3
          have HM3 := Lib.hid (HMB.out.push HN.out ((Below.refl _ _).alloc (Nat.le_refl _) _) hg3 (by simpa using hown3) (by simpa using hat) HLE.out.1 HLE.out.2 HQ.out)
          clear hown3 hg3 hat hown2 hfold hLl
          go_wp2
          go_roundw
          case rel => exact ⟨k + 1, l ++ [j], Ls ++ [L], cs2, U2, A3, c3, by omega, by go_num, by simp, HLS, by simpa using HM3⟩
          case measure => simp [intOf]; omega
        · obtain ⟨a, nb, hka, hnb, hk32⟩ := mlocal_kids HG.out HNJ.out rfl
          have hja := HG.out.fit.kid HNJ.out (show a ∈ kids e.ns j by rw [hka]; simp)
          obtain ⟨hbc, hbm⟩ := bindC_of HG.out HL.out a nb hnb hk32 fun y h1 h2 h3 => HNOJ.out y (by omega) (by omega) h3
          have hbk := HG.out.fit.kid hnb hbm
          have hfa := HFK.out
          rw [hka] at hfa
          have HBI := Lib.hid ((hbc wd cs1 U1 HMW.out.done.st hfa).mono (R' := fun r w2 => ∃ (cs2 : Pl) (U2 : Nat → Prop) (t : ByteArray) (f : Option Addr) (T : TypeId) (C : Nat), r = .returned (.agg #[.slice none 0 0, iv T C, .slice none 0 0, .string t, .slice none 0 0, .pointer f, .pointer none, .string ⟨#[]⟩, .int .i64 0, .int .i64 0, .int .i64 0, .int .i64 0]) ∧ cs2 (bodyOf e.ns a) = some (T, C) ∧ (Plain e.ns j → f = none) ∧ Done e (Rs e.ns [a]) wd w2 cs1 cs2 U1 U2) fun r w2 ⟨cs2, U2, t, f, hr, hf, hd⟩ => by
            obtain ⟨⟨T, C⟩, hcb⟩ := Option.ne_none_iff_exists'.1 (hd.ex _ (Rs.one.2 (by omega)) (body_ex HG.out hnb hk32))
            refine ⟨cs2, U2, t, f, T, C, by rw [hr, hcb]; rfl, hcb, fun hpl => hf ⟨nb, hnb, ?_⟩, hd⟩
            obtain ⟨n', h1, -, -, -, h5⟩ := hpl
            rw [HNJ.out] at h1; cases h1
            obtain ⟨x, hx, hxm⟩ := h5 rfl
            rw [kid_first HG.out HNJ.out hka] at hnb
            rw [hx] at hnb; cases hnb
            have := (HG.out.bar _ _ hx).bind hk32
            omega)
          have HKA := Lib.hid hka
          have HPJ := Lib.hid (memP_36 HNJ.out rfl hka)
          have hkd := HKD.out
          rw [hka] at hkd
          obtain ⟨g, go, pc2, h9, -, -, -, -, cA⟩ := hkd.at (j := 0) (k := a) rfl
          rw [Nat.add_zero] at cA
          subst h9
          simp only [List.length_cons, List.length_nil, Nat.zero_add]
          clear hka hnb hk32 hja hbc hbm hbk hfa hkd
          go_wp2_with (first | (go_at_call 104; refine HBI.out.mono ?_; rintro r w2 ⟨cs2, U2, t, f, T, C, rfl, hcb, hf, hd1⟩; have hmb := HMW.out.node HN.out (Done.upTo HG.out.fit HNJ.out HX.out (by rw [HKA.out]; exact hd1)) HAP.out HIN.out; have hown2 := hmb.row.own; have HMB := Lib.hid hmb; have HCB := Lib.hid hcb; have HFF := Lib.hid hf; have HD1 := Lib.hid hd1; clear hmb hcb hf hd1) | (at_builtin; refine wpList_append_own_at (hgd := rfl) (s := _) (x := _) (t := 196) (ho := rfl) (base := w.heap.size) (e := 254) (i := i0) (z := _) (size := 18) (bytes := 240) (ht := Try.underlying196) (hi := HI.out.1) (hz := HI.out.2.1) (hsize := HI.out.2.2.1) (hby := HI.out.2.2.2) (hzs := rfl) (hsz := by decide) (v := _) (n := Ls.length) (xs := Ls.flatMap fun L => L) (hs := rfl) (hown := ((hown2.alloc _).alloc _).alloc _) (ad := ⟨w2.heap.size + 1 + 1, 0, none⟩) (m := 1) (c := 1) (news := [.pointer f, .pointer (some ⟨w2.heap.size + 1, 0, none⟩), .slice none 0 0, .slice none 0 0, .slice none 0 0, .slice none 0 0, .nilIface, iv T C, .nilIface, .pointer none, .string ⟨#[]⟩, .int .i64 0, .int .i64 0, .int .i64 0, .int .i64 0, .int .i64 4, .int .i64 2, .bool false]) (hx := rfl) (hl := rfl) (hnews := World.news_of_block (third_new _ _ _ _)) (h1 := ?q2) (h63 := ?q3) (hbytes := ?q4) (hbase := ?q5) (h := ?_)))
          case q2 => intro u hu; simp at hu; rcases hu with rfl | rfl | rfl | rfl | rfl | rfl | rfl | rfl | rfl | rfl | rfl | rfl | rfl | rfl | rfl | rfl | rfl | rfl <;> rfl
          case q3 => rw [stack.maxLen_eq]; omega
          case q4 => omega
          case q5 => have h1 := HSZ.out; have h2 := HD1.out.chg.size; simp; omega
          intro v2 W2 hown3 hg3 _ hat
          obtain ⟨A3, c3, rfl, -⟩ := owns_form hown3
          have HM3 := Lib.hid (HMB.out.push (j := j) HN.out ((((Below.refl w2.heap.size w2).alloc (Nat.le_refl _) _).alloc (by simp) _).alloc (by simp; omega) _) hg3 (by simpa using hown3) (by simpa using hat) rfl (by intro u hu; simp at hu; rcases hu with rfl | rfl | rfl | rfl | rfl | rfl | rfl | rfl | rfl | rfl | rfl | rfl | rfl | rfl | rfl | rfl | rfl | rfl <;> rfl) (fun hpl => by rw [HPJ.out, HFF.out hpl]; exact ⟨rfl, rfl, by show _ = some (cv (cs2 _)); rw [HCB.out]; rfl, rfl⟩))
          obtain ⟨Ls', hLs', hM⟩ : ∃ Ls' : List (List Value), Ls'.length = Ls.length + 1 ∧ MbS e w cs U (l ++ [j]) (l ++ [j]) Ls' W2 cs2 U2 (.slice A3 (Ls.length + 1) c3) := ⟨_, by rw [List.length_append]; rfl, HM3.out⟩
          have HLM := Lib.hid (And.intro hLs' hM)
          clear hown3 hg3 hat hown2 HM3 hLs' hM
          go_wp2
          go_roundw
          case rel => exact ⟨k + 1, l ++ [j], Ls', cs2, U2, A3, c3, by omega, by go_num, by rw [HLM.out.1], HLS, by rw [HLM.out.1]; exact Lib.hid HLM.out.2⟩
          case measure => simp [intOf]; omega
        · have hsep := sep_kids HG.out.fit HNJ.out
          have hpj := memP_37 HNJ.out rfl
          have hkd := HKD.out
          have hfk := HFK.out
          obtain ⟨a, r, hka, hax, hr⟩ : ∃ a r, kids e.ns j = a :: r ∧ Ex e.ns a ∧ ((r = [] ∧ m0 = 0) ∨ ∃ b, r = [b] ∧ m0 = 1 ∧ Ex e.ns b) := by
            rcases mast_kids HG.out HNJ.out rfl with ⟨a, h1, h2, h3⟩ | ⟨a, b, h1, h2, h3, h4⟩
            · exact ⟨a, [], h1, h3, .inl ⟨rfl, h2⟩⟩
            · exact ⟨a, [b], h1, h3, .inr ⟨b, rfl, h2, h4⟩⟩
          have hja := HG.out.fit.kid HNJ.out (show a ∈ kids e.ns j by rw [hka]; simp)
          rw [hka] at hpj hkd hfk hsep
          have hln : ((a :: r).length : Int) = 1 + m0 ∧ 0 ≤ m0 ∧ m0 ≤ 1 := by
            rcases hr with ⟨rfl, rfl⟩ | ⟨b, rfl, rfl, -⟩ <;> simp
          have HNA := Lib.hid (HNOJ.out a (by omega) (by omega) hax wd cs1 U1 HMW.out.done.st (hfk.sub fun x hx => by rw [List.mem_singleton] at hx; simp [hx]))
          obtain ⟨g, go, pc2, h9, -, -, hgw, -, cA⟩ := hkd.at (j := 0) (k := a) rfl
          rw [Nat.add_zero] at cA
          subst h9
          have HBB := Lib.hid (show ∀ b, r = [b] → wd.cell? ⟨g, go + 1, none⟩ = some (.int .i64 b) ∧ b ∈ kids e.ns j ∧ Apt e.ns [a] [b] ∧ Free e.ns cs1 [b] from fun b hb => by
            subst hb
            obtain ⟨g', go', pc3, h10, -, -, -, -, cB⟩ := hkd.at (j := 1) (k := b) rfl
            injection h10 with h11 h12 h13
            injection h11 with h11
            cases h11
            exact ⟨cB, by rw [hka]; simp, two_apt hsep, hfk.sub fun x hx => by rw [List.mem_singleton] at hx; simp [hx]⟩)
          have HGN := Lib.hid (show ¬ g = e.N by have := HWN.out; omega)
          have HB3 := Lib.hid b3
          have HKA := Lib.hid hka
          have HPJ := Lib.hid hpj
          have HRR := Lib.hid hr
          have w1 : IntKind.i64.wrap (1 + m0) = 1 + m0 := IntWalk.i64_in _ (by omega)
          have hm1 : m0 ≤ 1 := hln.2.2
          have hm2 : decide (m0 ≤ 1) = true := decide_eq_true hm1
          have hml := hln.1
          have hk0 : (0 : Int) < ((a :: r).length : Int) := by omega
          have hka1 : ((1 : Nat) : Int) < ((a :: r).length : Int) ∨ m0 = 0 := by omega
          have HK1 := Lib.hid hka1
          generalize (a :: r).length = kl at hml hk0 HK1 ⊢
          have hml2 : ((kl : Int) == 1 + m0) = true := by simpa using hml
          have HML := Lib.hid hml
          clear hka hja hkd hfk hpj hsep hln hr hgw hka1 hml
          go_upto_if 97 with (go_at_call 55; refine HNA.out.mono ?_; rintro r w2 ⟨cs2, U2, T, C, rfl, hcb, hd1⟩; have hB3 := (fun o1 => (hd1.chg.alloc o1).cell HB3.out HPN.out); have HCB := Lib.hid hcb; have HD1 := Lib.hid hd1; clear hcb hd1)
          have NE := Lib.hid (show w2.heap.size ≠ e.N by have h1 := HMW.out.done.chg.size; have h2 := HN.out; have h3 := HD1.out.chg.size; omega)
          clear hB3
          go_cut [98] (fun _ wx => ∃ (L : List Value) (cs3 : Pl) (U3 : Nat → Prop), Hid (wx.rangeAt w2.heap.size 0 L) ∧ Hid (L.length = 18 ∧ ∀ u ∈ L, u.oneCell' = true) ∧ Hid (MbS e w cs U (l ++ [j]) l Ls wx cs3 U3 (.slice A1 Ls.length vc)) ∧ Hid (Plain e.ns j → MemL L (memV cs3 (memP e.ns j))))
          case first =>
            rcases HRR.out with ⟨rfl, rfl⟩ | ⟨b, rfl, rfl, hbx⟩
            · go_wp2_with fail
              go_meet
              have hdj := Done.upTo HG.out.fit HNJ.out HX.out (show Done e (Rs e.ns (kids e.ns j)) wd w2 cs1 cs2 U1 U2 by rw [HKA.out]; exact HD1.out)
              have hdj := hdj.later ((Below.refl _ _).alloc (Nat.le_refl _) (.cells #[.pointer none, .pointer none, .slice none 0 0, .slice none 0 0, .slice none 0 0, .slice none 0 0, .nilIface, iv T C, .nilIface, .pointer none, .string ⟨#[]⟩, .int .i64 0, .int .i64 0, .int .i64 0, .int .i64 0, .int .i64 0, .int .i64 2, .bool false] 254))
              exact ⟨[.pointer none, .pointer none, .slice none 0 0, .slice none 0 0, .slice none 0 0, .slice none 0 0, .nilIface, iv T C, .nilIface, .pointer none, .string ⟨#[]⟩, .int .i64 0, .int .i64 0, .int .i64 0, .int .i64 0, .int .i64 0, .int .i64 2, .bool false], cs2, U2, Lib.hid (range_blk (heap_alloc_new w2 _)), Lib.hid ⟨rfl, by simp [Value.oneCell']⟩, Lib.hid (HMW.out.node HN.out hdj HAP.out HIN.out), Lib.hid fun _ => by rw [HPJ.out]; exact ⟨rfl, rfl, by show _ = some (cv (cs2 a)); rw [HCB.out]; rfl, rfl⟩⟩
            · obtain ⟨cB, hbk, hapt, hfb⟩ := HBB.out b rfl
              have hjb := HG.out.fit.kid HNJ.out hbk
              have HNB := Lib.hid ((HNOJ.out b (by omega) (by omega) hbx).nx HG.out.fit (w := wd) (cs := cs1) (U := U1) (l := [a]) hfb hapt)
              have hcB := (fun o1 => (HD1.out.chg.alloc o1).cell cB HGN.out)
              have hk2 : ((1 : Int)) < (kl : Int) := by have := HML.out; omega
              clear cB hbk hapt hfb hjb hbx
              go_wp2_with (go_at_call 55; refine (HNB.out _ _ _ (HD1.out.later ((Below.refl _ _).alloc (Nat.le_refl _) _))).mono ?_; rintro r3 w3 ⟨cs3, U3, T3, C3, rfl, hcj, hke, hd2, hd1⟩; have hv := row_parts (hd1.chg.keep (heap_alloc_new w2 _) NE.out); obtain ⟨hv1, hv2⟩ := hv; have HCJ := Lib.hid hcj; have HKE := Lib.hid hke; have HD2 := Lib.hid hd2; have HDI := Lib.hid hd1; clear hcj hke hd2 hd1 hcB)
              go_meet
              have hblk := blk_set (HDI.out.chg.keep (heap_alloc_new w2 _) NE.out) 8 (iv T3 C3)
              simp only [List.setIfInBounds_toArray, List.set_cons_zero, List.set_cons_succ] at hblk
              have hXU : ¬ U3 w2.heap.size := HDI.out.apart (by simp) fun h => absurd (HD1.out.st.lt _ h) (Nat.lt_irrefl _)
              have hdj := Done.upTo HG.out.fit HNJ.out HX.out (show Done e (Rs e.ns (kids e.ns j)) wd w3 cs1 cs3 U1 U3 by rw [HKA.out]; exact HD2.out)
              have hdj := done_setIn hdj HD1.out.chg.size hXU NE.out 8 (iv T3 C3)
              exact ⟨[.pointer none, .pointer none, .slice none 0 0, .slice none 0 0, .slice none 0 0, .slice none 0 0, .nilIface, iv T C, iv T3 C3, .pointer none, .string ⟨#[]⟩, .int .i64 0, .int .i64 0, .int .i64 0, .int .i64 0, .int .i64 0, .int .i64 2, .bool false], cs3, U3, Lib.hid (range_blk hblk), Lib.hid ⟨rfl, by simp [Value.oneCell']⟩, Lib.hid (HMW.out.node HN.out hdj HAP.out HIN.out), Lib.hid fun _ => by rw [HPJ.out]; exact ⟨rfl, rfl, by show _ = some (cv (cs3 a)); rw [HKE.out a (by simp), HCB.out]; rfl, by show _ = some (cv (cs3 b)); rw [HCJ.out]; rfl⟩⟩
          case rest =>
            obtain ⟨L, cs3, U3, RG, HLE, HMB, HQ⟩ := hcut
            rename World => W3
            have hLl := HLE.out.1
            have hfold := fold18 L #[.pointer none, .pointer none, .slice none 0 0, .slice none 0 0, .slice none 0 0, .slice none 0 0, .nilIface, .nilIface, .nilIface, .pointer none, .string ⟨#[]⟩, .int .i64 0, .int .i64 0, .int .i64 0, .int .i64 0, .int .i64 0, .int .i64 0, .bool false] (by rw [hLl]; rfl)
            have hown2 := HMB.out.row.own
            have HSW := Lib.hid (show w.heap.size ≤ W3.heap.size from HMB.out.done.chg.size)
            go_wp2_with (first | (refine wpList_load_mid (hgd := rfl) (ty := 254) (x := .tmp 12) (ho := rfl) (b := w2.heap.size) (o := 0) (hx := by first | rfl | simp) (cs := L) (d := _) (hc := RG.out) (hu := Try.underlying254) (hd := rfl) (hi := by rw [HLE.out.1]; exact Try.size254) (h := ?_)) | (at_builtin; refine wpList_append_own_at (hgd := rfl) (s := _) (x := _) (t := 196) (ho := rfl) (base := w.heap.size) (e := 254) (i := i0) (z := _) (size := 18) (bytes := 240) (ht := Try.underlying196) (hi := HI.out.1) (hz := HI.out.2.1) (hsize := HI.out.2.2.1) (hby := HI.out.2.2.2) (hzs := rfl) (hsz := by decide) (v := _) (n := Ls.length) (xs := Ls.flatMap fun L => L) (hs := rfl) (hown := hown2.alloc _) (ad := ⟨W3.heap.size, 0, none⟩) (m := 1) (c := 1) (news := L) (hx := rfl) (hl := by rw [HLE.out.1]) (hnews := World.news_of_block (heap_alloc_new _ _)) (h1 := ?q2) (h63 := ?q3) (hbytes := ?q4) (hbase := ?q5) (h := ?_)))
            case q2 => exact HLE.out.2
            case q3 => rw [stack.maxLen_eq]; omega
            case q4 => omega
            case q5 => have h1 := HSW.out; simp; omega
            intro v2 W2 hown3 hg3 _ hat
            obtain ⟨A3, c3, rfl, -⟩ := owns_form hown3
            have HM3 := Lib.hid (HMB.out.push HN.out ((Below.refl _ _).alloc (Nat.le_refl _) _) hg3 (by simpa using hown3) (by simpa using hat) HLE.out.1 HLE.out.2 HQ.out)
            clear hown3 hg3 hat hown2 hfold hLl
            go_wp2
            go_roundw
            case rel => exact ⟨k + 1, l ++ [j], Ls ++ [L], cs3, U3, A3, c3, by omega, by go_num, by simp, HLS, by simpa using HM3⟩
            case measure => simp [intOf]; omega
    · have hki : ¬ (k : Int) < (m : Int) := by omega
      have hll := HLL.out
      rw [List.take_of_length_le (by have := HM.out; omega)] at hll
      have hll := hll.symm
      subst hll
      go_wp2
      go_ret
      exact ⟨A1, _, vc, cs1, _, rfl, HD0.out.row.fin HD0.out.done (Nat.le_refl _) HN.out, HD0.out.fin (by have := HM.out; omega)⟩
end Go.Proofs.Ytincgkolpicipaa.kin
namespace Go.Proofs.Ytincgkolpicipaa.kin
open Go.RowKit
open Go.Proofs.Ytincgkolpicipaa.stack (step_after Chg owns_chg owns_form)
def OcR (e : Env) (w : World) (cs : Pl) (U : Nat → Prop) (ks : List Nat) : Ending → World → Prop := Res e w cs U ks 210 (fun _ _ _ => True)
set_option maxRecDepth 100000 in
set_option maxHeartbeats 8000000 in
theorem objectComp_does {e : Env} (hg : Good e.ns) (hL : e.ns.length ≤ 400) (l r ks : List Nat) (a : Nat) (hl36 : Kd e.ns [36] l) (hxa : ∃ x, e.ns[a]? = some x ∧ x.k = 35 ∧ x.m = 2 ∧ x.o = 0) (hr36 : Kd e.ns [36] r) (hsp : Spc e.ns ks) (hno : ∀ k ∈ l ++ a :: r, ∀ x, k < x → x < k + sz e.ns k → Ex e.ns x → NodeC e x) (hns : ∀ k ∈ ks, ∀ x ∈ kids e.ns k, NodeC e x) (hs : Sep e.ns ((l ++ a :: r) ++ ks)) (w : World) (cs : Pl) (U : Nat → Prop) (hst : St e w cs U) (hfr : Free e.ns cs ((l ++ a :: r) ++ ks)) (B : Nat) (hB : e.N < B) (v : Value) (hp : Plc B w v ((l ++ a :: r) ++ ks)) :
    Calls Try.prog 109 #[.pointer (some ⟨e.b, 0, none⟩), v] w (OcR e w cs U ((l ++ a :: r) ++ ks)) := by
  obtain ⟨s0, sr, sn, hks, hsn, hs38⟩ := hsp.1
  obtain ⟨p, po, pc, rfl, hpc, hlen, hBp, hpw, -⟩ := hp.at (j := l.length) (k := a) (by simp)
  have hfl : (l ++ a :: r).length = l.length + r.length + 1 := by simp; omega
  have hkl : ks.length = sr.length + 1 := by rw [hks]; rfl
  have hK : ((l ++ a :: r) ++ ks).length = (l ++ a :: r).length + ks.length := List.length_append
  have hseps := hs.app
  have hat : ∀ i, i < (l ++ a :: r).length → ∃ j nj, ((l ++ a :: r) ++ ks)[i]? = some j ∧ e.ns[j]? = some nj ∧ ((i = l.length ∧ nj.k = 35 ∧ nj.m = 2 ∧ nj.o = 0) ∨ (i ≠ l.length ∧ nj.k = 36)) := fun i hi => by
    rw [List.getElem?_append_left hi]
    by_cases h1 : i < l.length
    · rw [List.getElem?_append_left h1]
      obtain ⟨j, hj⟩ := getElem?_lt h1
      obtain ⟨nj, h2, h3⟩ := hl36 j (List.mem_of_getElem? hj)
      exact ⟨j, nj, hj, h2, .inr ⟨by omega, by simpa using h3⟩⟩
    · rw [List.getElem?_append_right (by omega)]
      by_cases h2 : i = l.length
      · subst h2
        obtain ⟨x, hx⟩ := hxa
        exact ⟨a, x, by simp, hx.1, .inl ⟨rfl, hx.2⟩⟩
      · obtain ⟨i', hi'⟩ : ∃ i', i - l.length = i' + 1 := ⟨i - l.length - 1, by omega⟩
        rw [hi', List.getElem?_cons_succ]
        obtain ⟨j, hj⟩ := getElem?_lt (show i' < r.length by omega)
        obtain ⟨nj, h3, h4⟩ := hr36 j (List.mem_of_getElem? hj)
        exact ⟨j, nj, hj, h3, .inr ⟨h2, by simpa using h4⟩⟩
  have hend : ((l ++ a :: r) ++ ks)[(l ++ a :: r).length]? = some s0 := by rw [List.getElem?_append_right (Nat.le_refl _), hks]; simp
  have hkf : Kd e.ns [35, 36, 37] (l ++ a :: r) := fun k hk => by
    rcases List.mem_append.1 hk with hk | hk
    · obtain ⟨n, h1, h2⟩ := hl36 k hk; exact ⟨n, h1, by simp at h2; simp [h2]⟩
    · rcases List.mem_cons.1 hk with rfl | hk
      · obtain ⟨x, hx⟩ := hxa; exact ⟨x, hx.1, by simp [hx.2.1]⟩
      · obtain ⟨n, h1, h2⟩ := hr36 k hk; exact ⟨n, h1, by simp at h2; simp [h2]⟩
  have htake := hp.take rfl
  have hfrom := Plc.from_ (ks := l ++ a :: r) (ls := ks) hp rfl
  have hpc1 : ¬ pc = (l ++ a :: r).length := by omega
  rw [if_neg hpc1, hkl] at hfrom
  have HM := Lib.hid (fun (W : World) (hb : Below w.heap.size w W) => (members_does hg hL (l ++ a :: r) hkf hno hseps.1 W cs U (hst.later hb) (hfr.sub fun x hx => List.mem_append.2 (.inl hx)) B hB _ (htake.later hb)).mono (R' := fun r2 w2 => ∃ (A : Option Addr) (n c : Nat) (cs' : Pl) (U' : Nat → Prop), r2 = .returned (.slice A n c) ∧ Done e (Rs e.ns (l ++ a :: r)) w w2 cs cs' U U') fun r2 w2 ⟨A, n, c, cs', U', h1, h2, _⟩ => ⟨A, n, c, cs', U', h1, h2.before hb⟩)
  have HS := Lib.hid (fun (W : World) (cs1 : Pl) (U1 : Nat → Prop) (hd : Done e (Rs e.ns (l ++ a :: r)) w W cs cs1 U U1) => (specs_does hg hL ks hsp hns hseps.2.1 W cs1 U1 hd.st (hd.free hseps.2.2 (hfr.sub fun x hx => List.mem_append.2 (.inr hx))) B hB _ (hfrom.chg hd.chg fun q hq hx => by omega)).mono (R' := fun r2 w2 => ∃ (cs' : Pl) (U' : Nat → Prop) (A : Option Addr) (m c : Nat) (op : Option Addr) (T : TypeId) (C : Nat) (t : ByteArray), r2 = .returned (.agg #[.slice none 0 0, .slice none 0 0, .slice A m c, .pointer op, .iface T (.pointer (some ⟨C, 0, none⟩)), .string t, .slice none 0 0]) ∧ Done e (Rs e.ns ((l ++ a :: r) ++ ks)) w w2 cs cs' U U') fun r2 w2 ⟨cs', U', A, m, c, op, T, C, t, h1, h2⟩ => ⟨cs', U', A, m, c, op, T, C, t, h1, hd.app h2 hseps.2.2⟩)
  have HP := Lib.hid hp
  have HAT := Lib.hid hat
  have HEND := Lib.hid hend
  have HSN := Lib.hid (And.intro hsn hs38)
  have HBASE := Lib.hid hst.base
  have hl1 := htake
  clear hl1 htake hfrom hseps hkf hend hat hks hsn hs38 hp hst hfr hB hno hns hs hg hL hxa hl36 hr36 hsp hBp hpw
  rw [hK, hkl] at hpc hlen HP ⊢
  generalize (l ++ a :: r).length = fl at *
  generalize l.length = ll at *
  generalize sr.length = sl at *
  have HLL := Lib.hid (show ll < fl by omega)
  clear hfl hkl hK
  have hpc2 : (fl : Int) ≤ (pc : Int) := by omega
  have hpc3 : (0 : Int) ≤ (fl : Int) := by omega
  have hpc4 : (fl : Int) ≤ (fl : Int) + ((sl : Int) + 1) := by omega
  have hpc5 : (fl : Int) + ((sl : Int) + 1) ≤ (pc : Int) := by omega
  have hbit : bits BinOp.andNot IntKind.i64 2 4 = 2 := by decide
  go_enter Try.func109, Try.ntmps109
  go_wp2
  go_loopw [5, 6] (fun x y wr => ∃ i : Nat, i ≤ fl ∧ x = .int .i64 i ∧ ∃ c : Int, y = .int .i64 c ∧ Hid (c = if ll < i then 1 else 0) ∧ Hid (Below w.heap.size w wr)) (fun x _ _ => fl - (intOf x).toNat)
  case atStart => exact ⟨0, Nat.zero_le _, rfl, 0, rfl, Lib.hid (by simp), Lib.hid (Below.refl _ _)⟩
  case round =>
    obtain ⟨i, hi, rfl, c, rfl, HC, HBW⟩ := hrel
    have hbase := HBASE.out.later HBW.out
    by_cases hlt : i < fl
    · obtain ⟨j, nj, hj, hnj, hkind⟩ := HAT.out i hlt
      have hlt2 : (i : Int) < (fl : Int) + ((sl : Int) + 1) := by omega
      obtain ⟨q, qo, h1, -, -, cx⟩ := HP.out.here hj
      injection h1 with h1
      cases h1
      have cx1 := cell_later HBW.out cx
      have hjl : (j : Int) < (e.ns.length : Int) := by have := (List.getElem?_eq_some_iff.1 hnj).1; omega
      have HIS := Lib.hid (isSpec_is e.b e.q e.o e.cap e.ns j nj hnj wr hbase.row hbase.c0)
      have eb0 := hbase.c0
      obtain ⟨c0, c1, c2, c3, c4, -⟩ := hbase.row j nj hnj
      obtain ⟨k0, o0, t0, m0, z0⟩ := nj
      dsimp only at c0 c1 c2 c3 c4 hkind HIS
      have hba : ∀ o1 : Obj, Below wr.heap.size wr (wr.alloc o1) := fun o1 => (Below.refl _ _).alloc (Nat.le_refl _) o1
      have eb0a := fun o1 => cell_later (hba o1) eb0
      have cx1a := fun o1 => cell_later (hba o1) cx1
      have c0a := fun o1 => cell_later (hba o1) c0
      have c1a := fun o1 => cell_later (hba o1) c1
      have c2a := fun o1 => cell_later (hba o1) c2
      have c3a := fun o1 => cell_later (hba o1) c3
      have c4a := fun o1 => cell_later (hba o1) c4
      clear hj hnj hbase cx hba
      rcases hkind with ⟨rfl, rfl, rfl, rfl⟩ | ⟨hne, rfl⟩
      · have hc : c = 0 := by rw [HC.out]; simp
        subst hc
        go_upto_region 3 with (go_at_call 113; refine HIS.out.mono ?_; rintro r2 w1 ⟨rfl, rfl⟩)
        go_region
        all_goals
          go_wp2
          go_roundw
          case rel => exact ⟨i + 1, by omega, by go_num, 1, by go_num, Lib.hid (by simp), Lib.hid (by first | exact (HBW.out.drew.alloc HBW.out.size _) | exact (HBW.out.alloc HBW.out.size _).drew | exact (HBW.out.alloc HBW.out.size _))⟩
          case measure => simp [intOf]; omega
      · have HC2 := Lib.hid (show c = if ll < i + 1 then 1 else 0 by rw [HC.out]; by_cases h : ll < i <;> simp [h] <;> omega)
        go_upto_region 3 with (go_at_call 113; refine HIS.out.mono ?_; rintro r2 w1 ⟨rfl, rfl⟩)
        go_region
        all_goals
          go_wp2
          go_roundw
          case rel => exact ⟨i + 1, by omega, by go_num, c, rfl, HC2, Lib.hid (by first | exact (HBW.out.drew.alloc HBW.out.size _) | exact (HBW.out.alloc HBW.out.size _).drew | exact (HBW.out.alloc HBW.out.size _))⟩
          case measure => simp [intOf]; omega
    · have hie : i = fl := by omega
      subst hie
      have hc : c = 1 := by rw [HC.out, if_pos (by have := HLL.out; omega)]
      subst hc
      have hlt2 : (i : Int) < (i : Int) + ((sl : Int) + 1) := by omega
      obtain ⟨q, qo, h1, -, -, cx⟩ := HP.out.here HEND.out
      injection h1 with h1
      cases h1
      have cx1 := cell_later HBW.out cx
      have HIS := Lib.hid (isSpec_is e.b e.q e.o e.cap e.ns s0 sn HSN.out.1 wr hbase.row hbase.c0)
      have hk8 : (sn.k == 38) = true := by simp [HSN.out.2]
      clear cx hbase
      go_upto_region 11 with (go_at_call 113; refine HIS.out.mono ?_; rintro r2 w1 ⟨rfl, rfl⟩)
      clear cx1
      go_region_held3 (fun w' => Chg (· = e.N) w w' ∧ Chg (· = e.N) w w')
        (first | (with_reducible exact And.intro (Chg.below HBW.out.drew) (Chg.below HBW.out.drew)) | (with_reducible exact And.intro HD3.out.chg HD3.out.chg) | (with_reducible exact And.intro HD2.out.chg HD2.out.chg) | (with_reducible exact And.intro (HD3.out.chg.alloc _) (HD3.out.chg.alloc _)))
        (first | (go_at_call 108; refine (HM.out _ HBW.out.drew).mono ?_; rintro r2 w2 ⟨A2, n2, c2, cs2, U2, rfl, hd2⟩; have HD2 := Lib.hid hd2; clear hd2) | (go_at_call 107; refine (HS.out _ _ _ HD2.out).mono ?_; rintro r2 w3 ⟨cs3, U3, A3, m3, c3, op, T, C, t, rfl, hd3⟩; have HD3 := Lib.hid hd3; clear hd3))
      go_wp2
      go_ret
      exact res_new HD3.out _ trivial
end Go.Proofs.Ytincgkolpicipaa.kin
namespace Go.Proofs.Ytincgkolpicipaa.kin
open Go.RowKit
open Go.Proofs.Ytincgkolpicipaa.stack (step_after Chg owns_chg owns_form)
theorem Done.sub {e : Env} {l : List Nat} {w W : World} {cs cs' : Pl} {U U' V : Nat → Prop} (h : Done e (Rs e.ns l) w W cs cs' U U') (hV : ∀ B, V B ↔ U' B) : Done e (Rs e.ns l) w W cs cs' U V := by
  have : V = U' := funext fun B => propext (hV B)
  rw [this]; exact h
def ArrR (e : Env) (w : World) (cs : Pl) (U : Nat → Prop) (ks : List Nat) : Ending → World → Prop := Res e w cs U ks 174 (fun rd cs' B => ∃ v, rd ⟨B, 0, none⟩ v ∧ Elems rd 2 0 v (ks.map fun k => cv (cs' k)))
set_option maxRecDepth 100000 in
set_option maxHeartbeats 4000000 in
theorem both_array {e : Env} (hft : Fit e.ns) (ks : List Nat) (hno : ∀ k ∈ ks, NodeC e k) (hs : Sep e.ns ks) (w : World) (cs : Pl) (U : Nat → Prop) (hst : St e w cs U) (hfr : Free e.ns cs ks) (B : Nat) (hB : e.N < B) (v : Value) (hp : Plc B w v ks) (o m z : Int) (t : ByteArray) :
    Calls Try.prog 84 #[.pointer (some ⟨e.b, 0, none⟩), .agg #[.int .i64 11, .int .i64 o, .string t, .int .i64 m, .int .i64 z], v] w (ArrR e w cs U ks) := by
  have HM := Lib.hid (fun (W : World) (hb : Below w.heap.size w W) => (many_does hft ks hno hs W cs U (hst.later hb) hfr B hB v (hp.later hb)).mono (R' := fun r w2 => ∃ (A : Option Addr) (n c : Nat) (cs' : Pl) (U' : Nat → Prop), r = .returned (.slice A n c) ∧ Done e (Rs e.ns ks) w w2 cs cs' U U' ∧ Elems (rd w2 U') 2 0 (.slice A n c) (ks.map fun k => cv (cs' k))) fun r w2 ⟨u, cs', U', h1, h2, h3⟩ => by
    obtain ⟨A, c, rfl, -, -⟩ := id h3
    exact ⟨A, _, c, cs', U', h1, h2.before hb, h3⟩)
  obtain ⟨A, pc, rfl, -, -⟩ := hp.form
  clear hft hno hs hst hfr hB hp
  go_enter Try.func84, Try.ntmps84
  go_wp2_with (go_at_call 97; refine (HM.out _ ((Below.refl _ _).alloc (Nat.le_refl _) _)).mono ?_; rintro r w2 ⟨A2, n2, c2, cs2, U2, rfl, hd2, hel⟩; have HD2 := Lib.hid hd2; have HEL := Lib.hid hel; clear hd2 hel)
  go_ret
  exact res_new HD2.out _ ⟨_, ⟨.inr rfl, by simp [World.cell?_alloc_new]⟩, HEL.out.imp fun a y h => ⟨.inl h.1, cell_later ((Below.refl _ _).alloc (Nat.le_refl _) _) h.2⟩⟩
def FunR (e : Env) (w : World) (cs : Pl) (U : Nat → Prop) (ps : List Nat) (bd : Nat) : Ending → World → Prop := Res e w cs U (ps ++ [bd]) 182 (fun rd cs' B => rd ⟨B, 2, none⟩ (cv (cs' bd)) ∧ (ps = [] → rd ⟨B, 3, none⟩ (.slice none 0 0)))
set_option maxRecDepth 100000 in
set_option maxHeartbeats 4000000 in
theorem both_func {e : Env} (hg : Good e.ns) (hL : e.ns.length ≤ 400) (ps : List Nat) (bd : Nat) (hpar : Kd e.ns [33] ps) (hno : ∀ p ∈ ps, ∀ a ∈ kids e.ns p, NodeC e a) (hnb : NodeC e bd) (hs : Sep e.ns (ps ++ [bd])) (hlen : (ps ++ [bd]).length ≤ e.ns.length) (w : World) (cs : Pl) (U : Nat → Prop) (hst : St e w cs U) (hfr : Free e.ns cs (ps ++ [bd])) (B : Nat) (hB : e.N < B) (v : Value) (hp : Plc B w v (ps ++ [bd])) (o m z : Int) (t : ByteArray) :
    Calls Try.prog 84 #[.pointer (some ⟨e.b, 0, none⟩), .agg #[.int .i64 19, .int .i64 o, .string t, .int .i64 m, .int .i64 z], v] w (FunR e w cs U ps bd) := by
  have HM := Lib.hid (fun (W : World) (hb : Below w.heap.size w W) => (function_does hg hL ps bd hpar hno hnb hs W cs U (hst.later hb) hfr B hB v (hp.later hb)).mono (R' := fun r w2 => ∃ O, r = .returned (.pointer (some ⟨O, 0, none⟩)) ∧ FunR e w cs U ps bd (.returned (.iface 182 (.pointer (some ⟨O, 0, none⟩)))) w2) fun r w2 ⟨cs', U', O, vP, h1, h2, h3, h4, h5, h6, h7, h8⟩ => ⟨O, h1, cs', U', O, rfl, h2.before hb, Nat.le_trans hb.size h3, h4, h5, ⟨.inr rfl, h6⟩, fun h0 => ⟨.inr rfl, by rw [← h8 h0]; exact h7⟩⟩)
  have hc0 : ∀ o1, (w.alloc o1).cell? ⟨e.b, 0, none⟩ = some (.slice (some ⟨e.q, e.o, none⟩) e.ns.length e.cap) := fun o1 => cell_later ((Below.refl _ _).alloc (Nat.le_refl _) o1) hst.base.c0
  have hl1 : (1 : Int) ≤ ((ps ++ [bd]).length : Int) := by simp; omega
  have hl2 : ((ps ++ [bd]).length : Int) ≤ (e.ns.length : Int) := by omega
  obtain ⟨A, pc, rfl, -, -⟩ := hp.form
  clear hg hL hpar hno hnb hs hst hfr hB hp hlen
  generalize (ps ++ [bd]).length = len at hl1 hl2 HM ⊢
  go_enter Try.func84, Try.ntmps84
  go_wp2_with (first | (go_at_call 96; refine (count_ok _ _ _ _ _ _ hl1 hl2 _).mono ?_; rintro r w1 ⟨rfl, rfl⟩) | (go_at_call 99; refine (HM.out _ ((Below.refl _ _).alloc (Nat.le_refl _) _)).mono ?_; rintro r w2 ⟨O, rfl, hr⟩; have HRR := Lib.hid hr; clear hr))
  go_ret
  exact HRR.out
set_option maxRecDepth 100000 in
set_option maxHeartbeats 4000000 in
theorem both_cond2 {e : Env} (hft : Fit e.ns) (a b : Nat) (hna : NodeC e a) (hnb : NodeC e b) (hs : Sep e.ns [a, b]) (w : World) (cs : Pl) (U : Nat → Prop) (hst : St e w cs U) (hfr : Free e.ns cs [a, b]) (B : Nat) (hB : e.N < B) (v : Value) (hp : Plc B w v [a, b]) (o m z : Int) (t : ByteArray) :
    Calls Try.prog 84 #[.pointer (some ⟨e.b, 0, none⟩), .agg #[.int .i64 21, .int .i64 o, .string t, .int .i64 m, .int .i64 z], v] w (Cnd2R e w cs U a b) := by
  have HM := Lib.hid (fun (W : World) (hb : Below w.heap.size w W) => (cond_two hft a b hna hnb hs W cs U (hst.later hb) hfr B hB v (hp.later hb)).mono (R' := fun r w2 => ∃ O, r = .returned (.iface 148 (.pointer (some ⟨O, 0, none⟩))) ∧ Cnd2R e w cs U a b (.returned (.iface 148 (.pointer (some ⟨O, 0, none⟩)))) w2) fun r w2 ⟨cs', U', O, h1, h2, h3, h4, h5, h6⟩ => ⟨O, h1, cs', U', O, rfl, h2.before hb, Nat.le_trans hb.size h3, h4, h5, h6⟩)
  obtain ⟨A, pc, rfl, -, -⟩ := hp.form
  clear hft hna hnb hs hst hfr hB hp
  go_enter Try.func84, Try.ntmps84
  go_wp2_with (go_at_call 101; refine (HM.out _ ((Below.refl _ _).alloc (Nat.le_refl _) _)).mono ?_; rintro r w2 ⟨O, rfl, hr⟩; have HRR := Lib.hid hr; clear hr)
  go_ret
  exact HRR.out
set_option maxRecDepth 100000 in
set_option maxHeartbeats 4000000 in
theorem both_cond3 {e : Env} (hft : Fit e.ns) (a b c : Nat) (hna : NodeC e a) (hnb : NodeC e b) (hnc : NodeC e c) (hs : Sep e.ns [a, b, c]) (w : World) (cs : Pl) (U : Nat → Prop) (hst : St e w cs U) (hfr : Free e.ns cs [a, b, c]) (B : Nat) (hB : e.N < B) (v : Value) (hp : Plc B w v [a, b, c]) (o m z : Int) (t : ByteArray) :
    Calls Try.prog 84 #[.pointer (some ⟨e.b, 0, none⟩), .agg #[.int .i64 21, .int .i64 o, .string t, .int .i64 m, .int .i64 z], v] w (Cnd3R e w cs U a b c) := by
  have HM := Lib.hid (fun (W : World) (hb : Below w.heap.size w W) => (cond_three hft a b c hna hnb hnc hs W cs U (hst.later hb) hfr B hB v (hp.later hb)).mono (R' := fun r w2 => ∃ O, r = .returned (.iface 148 (.pointer (some ⟨O, 0, none⟩))) ∧ Cnd3R e w cs U a b c (.returned (.iface 148 (.pointer (some ⟨O, 0, none⟩)))) w2) fun r w2 ⟨cs', U', O, h1, h2, h3, h4, h5, h6⟩ => ⟨O, h1, cs', U', O, rfl, h2.before hb, Nat.le_trans hb.size h3, h4, h5, h6⟩)
  obtain ⟨A, pc, rfl, -, -⟩ := hp.form
  clear hft hna hnb hnc hs hst hfr hB hp
  go_enter Try.func84, Try.ntmps84
  go_wp2_with (go_at_call 101; refine (HM.out _ ((Below.refl _ _).alloc (Nat.le_refl _) _)).mono ?_; rintro r w2 ⟨O, rfl, hr⟩; have HRR := Lib.hid hr; clear hr)
  go_ret
  exact HRR.out
end Go.Proofs.Ytincgkolpicipaa.kin
namespace Go.Proofs.Ytincgkolpicipaa.kin
open Go.RowKit
open Go.Proofs.Ytincgkolpicipaa.stack (step_after Chg owns_chg owns_form)
/-- A node, or none. -/
def MayR (e : Env) (w : World) (cs : Pl) (U : Nat → Prop) (l : List Nat) (k : Nat) (r : Ending) (w' : World) : Prop :=
  ∃ (cs' : Pl) (U' : Nat → Prop) (c : Option (TypeId × Nat)), r = .returned (cv c) ∧ Done e (Rs e.ns (l ++ [k])) w w' cs cs' U U'
set_option maxHeartbeats 2000000 in
theorem maybe_does {e : Env} (hg : Good e.ns) (k : Nat) (hk : (Ex e.ns k ∧ NodeC e k) ∨ Kd e.ns [31] [k]) {w : World} {cs : Pl} {U : Nat → Prop} {l : List Nat} (hf : Free e.ns cs [k]) (ha : Apt e.ns l [k]) (W : World) (cs1 : Pl) (U1 : Nat → Prop) (hd : Done e (Rs e.ns l) w W cs cs1 U U1) :
    Calls Try.prog 105 #[.pointer (some ⟨e.b, 0, none⟩), .int .i64 k] W (MayR e w cs U l k) := by
  have hb := hd.st.base
  have hc0 := hb.c0
  rcases hk with ⟨⟨n, hn, h1, h2⟩, hno⟩ | hkd
  · obtain ⟨c0, -⟩ := hb.row k n hn
    have hkl : (k : Int) < (e.ns.length : Int) := by have := (List.getElem?_eq_some_iff.1 hn).1; omega
    have t1 : (n.k == 31) = false := by simp; omega
    have HNX := Lib.hid (hno.nx hg.fit hf ha W cs1 U1 hd)
    clear hno hb hg hf ha hd hn h1 h2
    go_enter Try.func105, Try.ntmps105
    go_wp2_with (go_at_call 55; refine HNX.out.mono ?_; rintro r w2 ⟨cs2, U2, T, C, rfl, -, -, hd2, -⟩; have HD2 := Lib.hid hd2; clear hd2)
    go_ret
    exact ⟨cs2, U2, some (T, C), rfl, HD2.out⟩
  · obtain ⟨n, hn, hk31⟩ := hkd k (by simp)
    have hk31 : n.k = 31 := by simpa using hk31
    obtain ⟨c0, -⟩ := hb.row k n hn
    rw [hk31] at c0
    have hkl : (k : Int) < (e.ns.length : Int) := by have := (List.getElem?_eq_some_iff.1 hn).1; omega
    have hks : kids e.ns k = [] := by
      have hs := hg.shp k n hn
      generalize kids e.ns k = ks at hs
      cases hs with
      | leaf h => rfl
      | _ => exfalso; omega
    have hx : ¬ Ex e.ns k := by
      rintro ⟨n', h1, h2, h3⟩
      rw [hn] at h1; cases h1; omega
    have HD := Lib.hid (hd.app (Done.upTo hg.fit hn hx (by rw [hks]; exact Done.none hd.st (Below.refl _ _))) ha)
    clear hb hg hf ha hd hn hks hx hk31
    go_enter Try.func105, Try.ntmps105
    go_wp2
    go_ret
    exact ⟨cs1, U1, none, rfl, HD.out⟩
def AsrR (e : Env) (w : World) (cs : Pl) (U : Nat → Prop) (ks : List Nat) : Ending → World → Prop := Res e w cs U ks 143 (fun _ _ _ => True)
set_option maxRecDepth 100000 in
set_option maxHeartbeats 4000000 in
theorem assert_two {e : Env} (hft : Fit e.ns) (a b : Nat) (hna : NodeC e a) (hnb : NodeC e b) (hs : Sep e.ns [a, b]) (w : World) (cs : Pl) (U : Nat → Prop) (hst : St e w cs U) (hfr : Free e.ns cs [a, b]) (B : Nat) (hB : e.N < B) (v : Value) (hp : Plc B w v [a, b]) (k o z : Int) (t : ByteArray) :
    Calls Try.prog 106 #[.pointer (some ⟨e.b, 0, none⟩), .agg #[.int .i64 k, .int .i64 o, .string t, .int .i64 0, .int .i64 z], v] w (AsrR e w cs U [a, b]) := by
  obtain ⟨p, po, pc, rfl, -, -, hBp, -, cx⟩ := hp.at (j := 0) (k := a) rfl
  obtain ⟨p', po', pc', hv, -, -, -, -, cy⟩ := hp.at (j := 1) (k := b) rfl
  have hv2 : p' = p ∧ po' = po := by cases hv; exact ⟨rfl, rfl⟩
  obtain ⟨rfl, rfl⟩ := hv2
  clear hv
  rw [Nat.add_zero] at cx
  have hpN : p' ≠ e.N := by omega
  have hbox : ∀ w', Chg (· = e.N) (w.alloc (.cells #[.int .i64 k, .int .i64 o, .string t, .int .i64 0, .int .i64 z] 37)) w' → w'.cell? ⟨w.heap.size, 3, none⟩ = some (.int .i64 0) := fun w' hc => hc.cell (by simp [World.cell?_alloc_new]) (show ¬ w.heap.size = e.N by have := hst.nlt; omega)
  have hb0 := (Below.refl w.heap.size w).alloc (Nat.le_refl _) (.cells #[.int .i64 k, .int .i64 o, .string t, .int .i64 0, .int .i64 z] 37)
  have S1 := Lib.hid (show ∀ w', Chg (· = e.N) (w.alloc (.cells #[.int .i64 k, .int .i64 o, .string t, .int .i64 0, .int .i64 z] 37)) w' → (w'.cell? ⟨p', po', none⟩ = some (.int .i64 a) ∧ w'.cell? ⟨p', po' + 1, none⟩ = some (.int .i64 b)) ∧ Chg (· = e.N) (w.alloc (.cells #[.int .i64 k, .int .i64 o, .string t, .int .i64 0, .int .i64 z] 37)) w' from fun w' hc => ⟨⟨hc.cell (cell_later hb0 cx) hpN, hc.cell (cell_later hb0 cy) hpN⟩, hc⟩)
  have HBX := Lib.hid hbox
  have HNX := Lib.hid (fun W (hb : Below (w.alloc (.cells #[.int .i64 k, .int .i64 o, .string t, .int .i64 0, .int .i64 z] 37)).heap.size (w.alloc (.cells #[.int .i64 k, .int .i64 o, .string t, .int .i64 0, .int .i64 z] 37)) W) => hna.first hft (hst.later hb0) (hfr.sub fun x hx => by rw [List.mem_singleton] at hx; simp [hx]) W hb)
  have HNY := Lib.hid (fun W cs1 U1 (hd : Done e (Rs e.ns [a]) (w.alloc (.cells #[.int .i64 k, .int .i64 o, .string t, .int .i64 0, .int .i64 z] 37)) W cs cs1 U U1) => hnb.nx hft (hfr.sub fun x hx => by rw [List.mem_singleton] at hx; simp [hx]) (two_apt hs) W cs1 U1 hd)
  have HB0 := Lib.hid hb0
  have w1 : IntKind.i64.wrap ((2 : Int) - 1) = 1 := by decide
  have w2 : IntKind.i64.wrap (1 : Int) = 1 := by decide
  clear hp hna hnb hst hfr hft cx cy hs hB hBp hbox hb0
  go_enter Try.func106, Try.ntmps106
  go_wp2_with (go_at_call 96; refine (count_ok _ _ _ _ _ _ (by simp) (by simp) _).mono ?_; rintro r w1 ⟨rfl, rfl⟩)
  go_region_held3 (fun w' => (w'.cell? ⟨p', po', none⟩ = some (.int .i64 a) ∧ w'.cell? ⟨p', po' + 1, none⟩ = some (.int .i64 b)) ∧ Chg (· = e.N) (w.alloc (.cells #[.int .i64 k, .int .i64 o, .string t, .int .i64 0, .int .i64 z] 37)) w')
    (first | (with_reducible exact S1.out _ (Chg.refl _ _).drew) | (with_reducible exact S1.out _ HD3.out.chg) | (with_reducible exact S1.out _ HD2.out.chg) | (with_reducible exact S1.out _ (HD3.out.chg.alloc _)))
    (first | (go_at_call_of 55 (Value.int IntKind.i64 a); refine (HNX.out _ ((Below.refl _ _).drew)).mono ?_; rintro r w2 ⟨cs2, U2, T, C, rfl, hcj, hd2⟩; have HD2 := Lib.hid hd2; clear hcj hd2) | (go_at_call_of 55 (Value.int IntKind.i64 b); refine (HNY.out _ _ _ HD2.out).mono ?_; rintro r w3 ⟨cs3, U3, T3, C3, rfl, hcj, hke, hd2, -⟩; have HD3 := Lib.hid hd2; clear hcj hd2 hke))
  have hbx : ∀ o1, (w3.alloc o1).cell? ⟨w.heap.size, 3, none⟩ = some (.int .i64 0) := fun o1 => HBX.out _ (HD3.out.chg.alloc o1)
  go_wp2
  go_ret
  exact res_new (HD3.out.before HB0.out) _ trivial
theorem three_apt2 {e : Env} {a b c : Nat} (hs : Sep e.ns [a, b, c]) : Apt e.ns [a] [c] ∧ Apt e.ns [a, c] [b] := by
  have h1 := (show Sep e.ns ([a] ++ [b, c]) from hs).app
  have h2 := (show Sep e.ns ([b] ++ [c]) from h1.2.1).app
  refine ⟨h1.2.2.sub (fun _ h => h) (fun x hx => by rw [List.mem_singleton] at hx; simp [hx]), fun x hx y hy => ?_⟩
  rw [List.mem_singleton] at hy
  subst hy
  simp at hx
  rcases hx with rfl | rfl
  · exact h1.2.2 _ (by simp) _ (by simp)
  · exact (h2.2.2 _ (by simp) _ (by simp)).symm
set_option maxRecDepth 100000 in
set_option maxHeartbeats 4000000 in
theorem assert_three {e : Env} (hft : Fit e.ns) (a b c : Nat) (hna : NodeC e a) (hnb : NodeC e b) (hnc : NodeC e c) (hs : Sep e.ns [a, b, c]) (w : World) (cs : Pl) (U : Nat → Prop) (hst : St e w cs U) (hfr : Free e.ns cs [a, b, c]) (B : Nat) (hB : e.N < B) (v : Value) (hp : Plc B w v [a, b, c]) (k o z : Int) (t : ByteArray) :
    Calls Try.prog 106 #[.pointer (some ⟨e.b, 0, none⟩), .agg #[.int .i64 k, .int .i64 o, .string t, .int .i64 1, .int .i64 z], v] w (AsrR e w cs U [a, b, c]) := by
  obtain ⟨p, po, pc, rfl, -, -, hBp, -, cx⟩ := hp.at (j := 0) (k := a) rfl
  obtain ⟨p', po', pc', hv, -, -, -, -, cy⟩ := hp.at (j := 1) (k := b) rfl
  have hv2 : p' = p ∧ po' = po := by cases hv; exact ⟨rfl, rfl⟩
  obtain ⟨rfl, rfl⟩ := hv2
  clear hv
  obtain ⟨p, po, pc', hv, -, -, -, -, cz⟩ := hp.at (j := 2) (k := c) rfl
  have hv2 : p = p' ∧ po = po' := by cases hv; exact ⟨rfl, rfl⟩
  obtain ⟨rfl, rfl⟩ := hv2
  clear hv
  rw [Nat.add_zero] at cx
  have hpN : p ≠ e.N := by omega
  have hbox : ∀ w', Chg (· = e.N) (w.alloc (.cells #[.int .i64 k, .int .i64 o, .string t, .int .i64 1, .int .i64 z] 37)) w' → w'.cell? ⟨w.heap.size, 3, none⟩ = some (.int .i64 1) ∧ w'.cell? ⟨p, po + 1, none⟩ = some (.int .i64 b) := fun w' hc => ⟨hc.cell (by simp [World.cell?_alloc_new]) (show ¬ w.heap.size = e.N by have := hst.nlt; omega), hc.cell (cell_later ((Below.refl _ _).alloc (Nat.le_refl _) _) cy) hpN⟩
  have hb0 := (Below.refl w.heap.size w).alloc (Nat.le_refl _) (.cells #[.int .i64 k, .int .i64 o, .string t, .int .i64 1, .int .i64 z] 37)
  have S1 := Lib.hid (show ∀ w', Chg (· = e.N) (w.alloc (.cells #[.int .i64 k, .int .i64 o, .string t, .int .i64 1, .int .i64 z] 37)) w' → (w'.cell? ⟨p, po, none⟩ = some (.int .i64 a) ∧ w'.cell? ⟨p, po + 2, none⟩ = some (.int .i64 c)) ∧ Chg (· = e.N) (w.alloc (.cells #[.int .i64 k, .int .i64 o, .string t, .int .i64 1, .int .i64 z] 37)) w' from fun w' hc => ⟨⟨hc.cell (cell_later hb0 cx) hpN, hc.cell (cell_later hb0 cz) hpN⟩, hc⟩)
  have HBX := Lib.hid hbox
  have HNX := Lib.hid (fun W (hb : Below (w.alloc (.cells #[.int .i64 k, .int .i64 o, .string t, .int .i64 1, .int .i64 z] 37)).heap.size (w.alloc (.cells #[.int .i64 k, .int .i64 o, .string t, .int .i64 1, .int .i64 z] 37)) W) => hna.first hft (hst.later hb0) (hfr.sub fun x hx => by rw [List.mem_singleton] at hx; simp [hx]) W hb)
  have HNY := Lib.hid (fun W cs1 U1 (hd : Done e (Rs e.ns [a]) (w.alloc (.cells #[.int .i64 k, .int .i64 o, .string t, .int .i64 1, .int .i64 z] 37)) W cs cs1 U U1) => hnc.nx hft (hfr.sub fun x hx => by rw [List.mem_singleton] at hx; simp [hx]) (three_apt2 hs).1 W cs1 U1 hd)
  have HNZ := Lib.hid (fun W cs1 U1 (hd : Done e (Rs e.ns [a, c]) (w.alloc (.cells #[.int .i64 k, .int .i64 o, .string t, .int .i64 1, .int .i64 z] 37)) W cs cs1 U U1) => hnb.nx hft (hfr.sub fun x hx => by rw [List.mem_singleton] at hx; simp [hx]) (three_apt2 hs).2 W cs1 U1 hd)
  have HB0 := Lib.hid hb0
  have HN := Lib.hid hst.nlt
  have w1 : IntKind.i64.wrap ((3 : Int) - 1) = 2 := by decide
  have w2 : IntKind.i64.wrap (2 : Int) = 2 := by decide
  clear hp hna hnb hnc hst hfr hft cx cy cz hs hB hBp hbox hb0
  go_enter Try.func106, Try.ntmps106
  go_wp2_with (go_at_call 96; refine (count_ok _ _ _ _ _ _ (by simp) (by simp) _).mono ?_; rintro r w1 ⟨rfl, rfl⟩)
  go_region_held3 (fun w' => (w'.cell? ⟨p, po, none⟩ = some (.int .i64 a) ∧ w'.cell? ⟨p, po + 2, none⟩ = some (.int .i64 c)) ∧ Chg (· = e.N) (w.alloc (.cells #[.int .i64 k, .int .i64 o, .string t, .int .i64 1, .int .i64 z] 37)) w')
    (first | (with_reducible exact S1.out _ (Chg.refl _ _).drew) | (with_reducible exact S1.out _ HD3.out.chg) | (with_reducible exact S1.out _ HD2.out.chg) | (with_reducible exact S1.out _ (HD3.out.chg.alloc _)))
    (first | (go_at_call_of 55 (Value.int IntKind.i64 a); refine (HNX.out _ ((Below.refl _ _).drew)).mono ?_; rintro r w2 ⟨cs2, U2, T, C, rfl, hcj, hd2⟩; have HD2 := Lib.hid hd2; clear hcj hd2) | (go_at_call_of 55 (Value.int IntKind.i64 c); refine (HNY.out _ _ _ HD2.out).mono ?_; rintro r w3 ⟨cs3, U3, T3, C3, rfl, hcj, hke, hd2, -⟩; have HD3 := Lib.hid hd2; clear hcj hd2 hke))
  have hbx : ∀ o1, (w3.alloc o1).cell? ⟨w.heap.size, 3, none⟩ = some (.int .i64 1) := fun o1 => (HBX.out _ (HD3.out.chg.alloc o1)).1
  have hcz : ∀ o1, (w3.alloc o1).cell? ⟨p, po + 1, none⟩ = some (.int .i64 b) := fun o1 => (HBX.out _ (HD3.out.chg.alloc o1)).2
  have NE := Lib.hid (show w3.heap.size ≠ e.N by have h1 := HD3.out.chg.size; have h2 := HN.out; have h3 := HB0.out.size; omega)
  go_wp2_with (go_at_call 55; refine (HNZ.out _ _ _ (HD3.out.later ((Below.refl _ _).alloc (Nat.le_refl _) _))).mono ?_; rintro r w4 ⟨cs4, U4, T4, C4, rfl, hcj, hke, hd2, hd1⟩; have hv := row_parts (hd1.chg.keep (heap_alloc_new w3 _) NE.out); obtain ⟨hv1, hv2⟩ := hv; have HD4 := Lib.hid hd2; have HDI := Lib.hid hd1; clear hcj hke hd2 hd1)
  go_ret
  have hB1 : w.heap.size ≤ w3.heap.size := Nat.le_trans HB0.out.size HD3.out.chg.size
  have hB2 : ¬ U4 w3.heap.size := HDI.out.apart (by simp) (fun h => absurd (HD3.out.st.lt _ h) (Nat.lt_irrefl _))
  have hd5 : Done e (Rs e.ns [a, b, c]) w w4 cs cs4 U U4 := (HD4.out.before HB0.out).set (fun x hx => hx.sub fun y hy => by simp at hy ⊢; rcases hy with h | h | h <;> simp [h]) (fun x hx _ => hx.sub fun y hy => by simp at hy ⊢; rcases hy with h | h | h <;> simp [h])
  refine ⟨cs4, U4, w3.heap.size, rfl, done_setIn hd5 hB1 hB2 NE.out _ _, hB1, ?_, hB2, trivial⟩
  exact ((Blk.new w3 _ _).chg HDI.out.chg NE.out).set _ _ _
end Go.Proofs.Ytincgkolpicipaa.kin
namespace Go.Proofs.Ytincgkolpicipaa.kin
open Go.RowKit
open Go.Proofs.Ytincgkolpicipaa.stack (step_after Chg owns_chg owns_form)
set_option maxRecDepth 100000 in
set_option maxHeartbeats 4000000 in
theorem sugar_dot {e : Env} (hft : Fit e.ns) (a : Nat) (hno : NodeC e a) (w : World) (cs : Pl) (U : Nat → Prop) (hst : St e w cs U) (hfr : Free e.ns cs [a]) (B : Nat) (hB : e.N < B) (v : Value) (hp : Plc B w v [a]) (o m z : Int) (t : ByteArray) :
    Calls Try.prog 86 #[.pointer (some ⟨e.b, 0, none⟩), .agg #[.int .i64 16, .int .i64 o, .string t, .int .i64 m, .int .i64 z], v] w (Res e w cs U [a] 128 (fun _ _ _ => True)) := by
  obtain ⟨p, po, pc, rfl, -, -, -, -, cx⟩ := hp.at (j := 0) (k := a) rfl
  rw [Nat.add_zero] at cx
  have cx1 : ∀ o1, (w.alloc o1).cell? ⟨p, po, none⟩ = some (.int .i64 a) := fun o1 => cell_later ((Below.refl _ _).alloc (Nat.le_refl _) _) cx
  have cx2 : ∀ o1 o2, ((w.alloc o1).alloc o2).cell? ⟨p, po, none⟩ = some (.int .i64 a) := fun o1 o2 => cell_later ((Below.refl _ _).alloc (Nat.le_refl _) _) (cx1 o1)
  have HNX := Lib.hid (fun W (hb : Below w.heap.size w W) => hno.first hft hst hfr W hb)
  clear hp hno hst hfr hft cx hB
  go_enter Try.func86, Try.ntmps86
  go_wp2_with (first | (go_at_call 96; refine (count_ok _ _ _ _ _ _ (by simp) (by simp) _).mono ?_; rintro r w1 ⟨rfl, rfl⟩) | (go_at_call 55; refine (HNX.out _ (((Below.refl _ _).alloc (Nat.le_refl _) _).alloc (by simp) _)).mono ?_; rintro r w2 ⟨cs2, U2, T, C, rfl, hcj, hd2⟩; have HCJ := Lib.hid hcj; have HD2 := Lib.hid hd2; clear hcj hd2))
  go_ret
  exact res_new HD2.out _ trivial
set_option maxRecDepth 100000 in
set_option maxHeartbeats 4000000 in
theorem sugar_parens {e : Env} (hft : Fit e.ns) (a : Nat) (hno : NodeC e a) (w : World) (cs : Pl) (U : Nat → Prop) (hst : St e w cs U) (hfr : Free e.ns cs [a]) (B : Nat) (hB : e.N < B) (v : Value) (hp : Plc B w v [a]) (o m z : Int) (t : ByteArray) :
    Calls Try.prog 86 #[.pointer (some ⟨e.b, 0, none⟩), .agg #[.int .i64 30, .int .i64 o, .string t, .int .i64 m, .int .i64 z], v] w (Res e w cs U [a] 213 (fun rd cs' B => rd ⟨B, 0, none⟩ (cv (cs' a)))) := by
  obtain ⟨p, po, pc, rfl, -, -, -, -, cx⟩ := hp.at (j := 0) (k := a) rfl
  rw [Nat.add_zero] at cx
  have cx1 : ∀ o1, (w.alloc o1).cell? ⟨p, po, none⟩ = some (.int .i64 a) := fun o1 => cell_later ((Below.refl _ _).alloc (Nat.le_refl _) _) cx
  have cx2 : ∀ o1 o2, ((w.alloc o1).alloc o2).cell? ⟨p, po, none⟩ = some (.int .i64 a) := fun o1 o2 => cell_later ((Below.refl _ _).alloc (Nat.le_refl _) _) (cx1 o1)
  have HNX := Lib.hid (fun W (hb : Below w.heap.size w W) => hno.first hft hst hfr W hb)
  clear hp hno hst hfr hft cx hB
  go_enter Try.func86, Try.ntmps86
  go_wp2_with (first | (go_at_call 96; refine (count_ok _ _ _ _ _ _ (by simp) (by simp) _).mono ?_; rintro r w1 ⟨rfl, rfl⟩) | (go_at_call 55; refine (HNX.out _ ((Below.refl _ _).alloc (Nat.le_refl _) _)).mono ?_; rintro r w2 ⟨cs2, U2, T, C, rfl, hcj, hd2⟩; have HCJ := Lib.hid hcj; have HD2 := Lib.hid hd2; clear hcj hd2))
  go_ret
  exact res_new HD2.out _ ⟨.inr rfl, by rw [HCJ.out]; simp [World.cell?_alloc_new, cv]⟩
theorem Res.before {e : Env} {w W : World} {cs : Pl} {U : Nat → Prop} {ks : List Nat} {T : TypeId} {P : (Addr → Value → Prop) → Pl → Nat → Prop} {r : Ending} {w' : World} (h : Res e W cs U ks T P r w') (hb : Below w.heap.size w W) : Res e w cs U ks T P r w' := by
  obtain ⟨cs', U', B, h1, h2, h3, h4, h5, h6⟩ := h
  exact ⟨cs', U', B, h1, h2.before hb, Nat.le_trans hb.size h3, h4, h5, h6⟩
theorem Res.form {e : Env} {w : World} {cs : Pl} {U : Nat → Prop} {ks : List Nat} {T : TypeId} {P : (Addr → Value → Prop) → Pl → Nat → Prop} {r : Ending} {w' : World} (h : Res e w cs U ks T P r w') : ∃ O, r = .returned (.iface T (.pointer (some ⟨O, 0, none⟩))) ∧ Res e w cs U ks T P (.returned (.iface T (.pointer (some ⟨O, 0, none⟩)))) w' := by
  obtain ⟨cs', U', B, h1, h⟩ := h
  exact ⟨B, h1, cs', U', B, rfl, h⟩
set_option maxRecDepth 100000 in
set_option maxHeartbeats 4000000 in
theorem sugar_assert2 {e : Env} (hft : Fit e.ns) (a b : Nat) (hna : NodeC e a) (hnb : NodeC e b) (hs : Sep e.ns [a, b]) (w : World) (cs : Pl) (U : Nat → Prop) (hst : St e w cs U) (hfr : Free e.ns cs [a, b]) (B : Nat) (hB : e.N < B) (v : Value) (hp : Plc B w v [a, b]) (o z : Int) (t : ByteArray) :
    Calls Try.prog 86 #[.pointer (some ⟨e.b, 0, none⟩), .agg #[.int .i64 25, .int .i64 o, .string t, .int .i64 0, .int .i64 z], v] w (Res e w cs U [a, b] 143 (fun _ _ _ => True)) := by
  have HM := Lib.hid (fun (W : World) (hb : Below w.heap.size w W) => (assert_two hft a b hna hnb hs W cs U (hst.later hb) hfr B hB v (hp.later hb) 25 o z t).mono (R' := fun r2 w2 => ∃ O, r2 = .returned (.iface 143 (.pointer (some ⟨O, 0, none⟩))) ∧ Res e w cs U [a, b] 143 (fun _ _ _ => True) (.returned (.iface 143 (.pointer (some ⟨O, 0, none⟩)))) w2) fun r2 w2 h => by
    obtain ⟨O, h1, h2⟩ := Res.form h
    exact ⟨O, h1, h2.before hb⟩)
  obtain ⟨A, pc, rfl, -, -⟩ := hp.form
  clear hft hna hnb hs hst hfr hB hp
  go_enter Try.func86, Try.ntmps86
  go_wp2_with (go_at_call 106; refine (HM.out _ ((Below.refl _ _).alloc (Nat.le_refl _) _)).mono ?_; rintro r2 w2 ⟨O, rfl, hrr⟩; have HRR := Lib.hid hrr; clear hrr)
  go_ret
  exact HRR.out
set_option maxRecDepth 100000 in
set_option maxHeartbeats 4000000 in
theorem sugar_assert3 {e : Env} (hft : Fit e.ns) (a b c : Nat) (hna : NodeC e a) (hnb : NodeC e b) (hnc : NodeC e c) (hs : Sep e.ns [a, b, c]) (w : World) (cs : Pl) (U : Nat → Prop) (hst : St e w cs U) (hfr : Free e.ns cs [a, b, c]) (B : Nat) (hB : e.N < B) (v : Value) (hp : Plc B w v [a, b, c]) (o z : Int) (t : ByteArray) :
    Calls Try.prog 86 #[.pointer (some ⟨e.b, 0, none⟩), .agg #[.int .i64 25, .int .i64 o, .string t, .int .i64 1, .int .i64 z], v] w (Res e w cs U [a, b, c] 143 (fun _ _ _ => True)) := by
  have HM := Lib.hid (fun (W : World) (hb : Below w.heap.size w W) => (assert_three hft a b c hna hnb hnc hs W cs U (hst.later hb) hfr B hB v (hp.later hb) 25 o z t).mono (R' := fun r2 w2 => ∃ O, r2 = .returned (.iface 143 (.pointer (some ⟨O, 0, none⟩))) ∧ Res e w cs U [a, b, c] 143 (fun _ _ _ => True) (.returned (.iface 143 (.pointer (some ⟨O, 0, none⟩)))) w2) fun r2 w2 h => by
    obtain ⟨O, h1, h2⟩ := Res.form h
    exact ⟨O, h1, h2.before hb⟩)
  obtain ⟨A, pc, rfl, -, -⟩ := hp.form
  clear hft hna hnb hnc hs hst hfr hB hp
  go_enter Try.func86, Try.ntmps86
  go_wp2_with (go_at_call 106; refine (HM.out _ ((Below.refl _ _).alloc (Nat.le_refl _) _)).mono ?_; rintro r2 w2 ⟨O, rfl, hrr⟩; have HRR := Lib.hid hrr; clear hrr)
  go_ret
  exact HRR.out
set_option maxRecDepth 100000 in
set_option maxHeartbeats 4000000 in
theorem sugar_ocomp {e : Env} (hg : Good e.ns) (hL : e.ns.length ≤ 400) (l r ks : List Nat) (a : Nat) (hl36 : Kd e.ns [36] l) (hxa : ∃ x, e.ns[a]? = some x ∧ x.k = 35 ∧ x.m = 2 ∧ x.o = 0) (hr36 : Kd e.ns [36] r) (hsp : Spc e.ns ks) (hno : ∀ k ∈ l ++ a :: r, ∀ x, k < x → x < k + sz e.ns k → Ex e.ns x → NodeC e x) (hns : ∀ k ∈ ks, ∀ x ∈ kids e.ns k, NodeC e x) (hs : Sep e.ns ((l ++ a :: r) ++ ks)) (w : World) (cs : Pl) (U : Nat → Prop) (hst : St e w cs U) (hfr : Free e.ns cs ((l ++ a :: r) ++ ks)) (B : Nat) (hB : e.N < B) (v : Value) (hp : Plc B w v ((l ++ a :: r) ++ ks)) (o m z : Int) (t : ByteArray) :
    Calls Try.prog 86 #[.pointer (some ⟨e.b, 0, none⟩), .agg #[.int .i64 14, .int .i64 o, .string t, .int .i64 m, .int .i64 z], v] w (Res e w cs U ((l ++ a :: r) ++ ks) 210 (fun _ _ _ => True)) := by
  have HM := Lib.hid (fun (W : World) (hb : Below w.heap.size w W) => (objectComp_does hg hL l r ks a hl36 hxa hr36 hsp hno hns hs W cs U (hst.later hb) hfr B hB v (hp.later hb)).mono (R' := fun r2 w2 => ∃ O, r2 = .returned (.iface 210 (.pointer (some ⟨O, 0, none⟩))) ∧ Res e w cs U ((l ++ a :: r) ++ ks) 210 (fun _ _ _ => True) (.returned (.iface 210 (.pointer (some ⟨O, 0, none⟩)))) w2) fun r2 w2 h => by
    obtain ⟨O, h1, h2⟩ := Res.form h
    exact ⟨O, h1, h2.before hb⟩)
  obtain ⟨A, pc, rfl, -, -⟩ := hp.form
  clear hg hL hl36 hxa hr36 hsp hno hns hs hst hfr hB hp
  generalize ((l ++ a :: r) ++ ks).length = kl at HM ⊢
  go_enter Try.func86, Try.ntmps86
  go_wp2_with (go_at_call 109; refine (HM.out _ ((Below.refl _ _).alloc (Nat.le_refl _) _)).mono ?_; rintro r2 w2 ⟨O, rfl, hrr⟩; have HRR := Lib.hid hrr; clear hrr)
  go_ret
  exact HRR.out
set_option maxRecDepth 100000 in
set_option maxHeartbeats 4000000 in
theorem sugar_object {e : Env} (hg : Good e.ns) (hL : e.ns.length ≤ 400) (ks : List Nat) (ha : Kd e.ns [35, 36, 37] ks) (hno : ∀ k ∈ ks, ∀ x, k < x → x < k + sz e.ns k → Ex e.ns x → NodeC e x) (hs : Sep e.ns ks) (w : World) (cs : Pl) (U : Nat → Prop) (hst : St e w cs U) (hfr : Free e.ns cs ks) (B : Nat) (hB : e.N < B) (v : Value) (hp : Plc B w v ks) (o m z : Int) (t : ByteArray) :
    Calls Try.prog 86 #[.pointer (some ⟨e.b, 0, none⟩), .agg #[.int .i64 13, .int .i64 o, .string t, .int .i64 m, .int .i64 z], v] w (Res e w cs U ks 192 (fun rd cs' B => ∃ v, rd ⟨B, 0, none⟩ v ∧ ((∀ k ∈ ks, Plain e.ns k) → Flds rd v (ks.map fun k => memV cs' (memP e.ns k))))) := by
  have HM := Lib.hid (fun (W : World) (hb : Below w.heap.size w W) => (members_does hg hL ks ha hno hs W cs U (hst.later hb) hfr B hB v (hp.later hb)).mono (R' := fun r w2 => ∃ (A : Option Addr) (n c : Nat) (cs' : Pl) (U' : Nat → Prop), r = .returned (.slice A n c) ∧ Done e (Rs e.ns ks) w w2 cs cs' U U' ∧ ((∀ k ∈ ks, Plain e.ns k) → Flds (rd w2 U') (.slice A n c) (ks.map fun k => memV cs' (memP e.ns k)))) fun r w2 ⟨A, n, c, cs', U', h1, h2, h3⟩ => ⟨A, n, c, cs', U', h1, h2.before hb, h3⟩)
  obtain ⟨A, pc, rfl, -, -⟩ := hp.form
  clear hg hL ha hno hs hst hfr hB hp
  go_enter Try.func86, Try.ntmps86
  go_wp2_with (go_at_call 108; refine (HM.out _ ((Below.refl _ _).alloc (Nat.le_refl _) _)).mono ?_; rintro r w2 ⟨A2, n2, c2, cs2, U2, rfl, hd2, hel⟩; have HD2 := Lib.hid hd2; have HEL := Lib.hid hel; clear hd2 hel)
  go_ret
  exact res_new HD2.out _ ⟨_, ⟨.inr rfl, by simp [World.cell?_alloc_new]⟩, fun hpl => (HEL.out hpl).imp fun a y h => ⟨.inl h.1, cell_later ((Below.refl _ _).alloc (Nat.le_refl _) _) h.2⟩⟩
end Go.Proofs.Ytincgkolpicipaa.kin

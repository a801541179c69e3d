/- FnChildren: builder.field by contract: exp; builder.field by contract: exp, with params; builder.field by contract, for all members; builder.members: its state; no walk; the expressions next beneath a node, by the node's kind; plain. -/
import Derived.Test.YtincgkolpicipaaC10
import Derived.Test.YtincgkolpicipaaC11
import Derived.Test.YtincgkolpicipaaC12
set_option linter.unusedVariables false
set_option linter.unusedSimpArgs false
namespace Go.Proofs.Ytincgkolpicipaa.kin
open Go.RowKit
open Go.Proofs.Ytincgkolpicipaa.stack (step_after Chg owns_chg owns_form)
set_option maxRecDepth 100000 in
set_option maxHeartbeats 8000000 in
theorem field_exp {e : Env} (hg : Good e.ns) (hL : e.ns.length ≤ 400) (a : Nat) (hna : NodeC e a) (b : Nat) (hnb : NodeC e b) (hs : Sep e.ns (a :: [b])) (w : World) (cs : Pl) (U : Nat → Prop) (hst : St e w cs U) (hfr : Free e.ns cs (a :: [b])) (B : Nat) (hB : e.N < B) (v : Value) (hp : Plc B w v (a :: [b])) (k o m z : Int) (t : ByteArray) (ho : o = 0 ∨ o = 1 ∨ o = 2) (q1 : bits BinOp.andNot IntKind.i64 m 12 = 2) (q2 : bits BinOp.and IntKind.i64 m 8 = 0) (ss : Bool) (q3 : (bits BinOp.and IntKind.i64 m 4 != 0) = ss) :
    Calls Try.prog 112 #[.pointer (some ⟨e.b, 0, none⟩), .agg #[.int .i64 k, .int .i64 o, .string t, .int .i64 m, .int .i64 z], v] w (FieldR e w cs U (a :: [b]) (FdQ (fun cs' => cv (cs' a)) fun cs' => cv (cs' b))) := by
  obtain ⟨p, po, pc, rfl, hpc, hlen, hBp, hpw, cx⟩ := hp.at (j := 0) (k := a) rfl
  rw [Nat.add_zero] at cx
  have hfrom := Plc.from_ (ks := [a]) (ls := [b]) hp rfl
  have hpc1 : ¬ pc = 1 := by simp at hpc; omega
  simp only [List.length_cons, List.length_nil, Nat.zero_add, if_neg hpc1] at hfrom
  have hsp := (show Sep e.ns ([a] ++ [b]) from hs).app
  have hfa : Free e.ns cs [a] := hfr.sub fun x hx => by rw [List.mem_singleton] at hx; simp [hx]
  have hfb : Free e.ns cs [b] := hfr.sub fun x hx => List.mem_cons_of_mem _ hx
  have HNA := Lib.hid (fun W (hb : Below w.heap.size w W) => hna.nx hg.fit hfa (l := []) (fun a h => by simp at h) W cs U (Done.none hst hb))
  have HCX := Lib.hid (fun W (hb : Below w.heap.size w W) => cell_later hb cx)
  have hcb : w.cell? ⟨p, po + 1, none⟩ = some (.int .i64 b) := by
    obtain ⟨q, qo, qc, hv, -, -, -, -, h⟩ := hfrom.at (j := 0) (k := b) rfl
    injection hv with h1 h2 h3
    injection h1 with h1
    cases h1
    simpa using h
  have HCB := Lib.hid hcb
  clear hcb
  have hlen3 : (1 : Int) ≤ (pc : Int) := by simp at hpc; omega
  have hlen4 : (2 : Int) ≤ (pc : Int) := by simp at hpc; omega
  have HO := Lib.hid (hides_ok o ho)
  have HN := Lib.hid hst.nlt
  have HU := Lib.hid hst.lt
  have HFROM := Lib.hid hfrom
  have HFB := Lib.hid hfb
  have HNB := Lib.hid hnb
  have HG := Lib.hid hg
  have HL := Lib.hid hL
  have HST := Lib.hid hst
  have hpN : ¬ p = e.N := by omega
  have HPN := Lib.hid hpN
  have HB0 := Lib.hid hB
  have HPW := Lib.hid hpw
  have HAP := Lib.hid hsp.2.2
  have HSB := Lib.hid hsp.2.1
  clear hp hnb hst hfr hg hL ho hB hs hfrom hfb hpN hBp hpw hlen hna hsp hfa cx
  go_enter Try.func112, Try.ntmps112
  go_upto_region 11 with (go_at_call 103; refine (HO.out _).mono ?_; rintro r w1 ⟨⟨y, rfl⟩, rfl⟩)
  have h4 := three_allocs w (.cells #[.int .i64 k, .int .i64 o, .string t, .int .i64 m, .int .i64 z] 37) (.cells #[.pointer none, .pointer none, .slice none 0 0, .slice none 0 0, .slice none 0 0, .slice none 0 0, .nilIface, .nilIface, .nilIface, .pointer none, .string ⟨#[]⟩, .int .i64 0, .int .i64 0, .int .i64 0, .int .i64 0, .int .i64 0, .int .i64 0, .bool false] 254) (.cells #[.pointer none, .pointer none, .slice none 0 0, .slice none 0 0, .slice none 0 0, .slice none 0 0, .nilIface, .nilIface, .nilIface, .pointer none, .string ⟨#[]⟩, .int .i64 0, .int .i64 0, .int .i64 0, .int .i64 0, .int .i64 0, .int .i64 y, .bool ss] 254)
  generalize (((w.alloc (.cells #[.int .i64 k, .int .i64 o, .string t, .int .i64 m, .int .i64 z] 37)).alloc (.cells #[.pointer none, .pointer none, .slice none 0 0, .slice none 0 0, .slice none 0 0, .slice none 0 0, .nilIface, .nilIface, .nilIface, .pointer none, .string ⟨#[]⟩, .int .i64 0, .int .i64 0, .int .i64 0, .int .i64 0, .int .i64 0, .int .i64 0, .bool false] 254)).alloc (.cells #[.pointer none, .pointer none, .slice none 0 0, .slice none 0 0, .slice none 0 0, .slice none 0 0, .nilIface, .nilIface, .nilIface, .pointer none, .string ⟨#[]⟩, .int .i64 0, .int .i64 0, .int .i64 0, .int .i64 0, .int .i64 0, .int .i64 y, .bool ss] 254)) = W0 at h4 ⊢
  obtain ⟨hb, hB0, hR, hF⟩ := h4
  have HB1 := Lib.hid hb
  have HBX := Lib.hid hB0
  have HR0 := Lib.hid hR
  have HF0 := Lib.hid hF
  have NF := Lib.hid (show w.heap.size + 1 + 1 ≠ e.N by have := HN.out; omega)
  have NR := Lib.hid (show w.heap.size + 1 ≠ e.N by have := HN.out; omega)
  have NB := Lib.hid (show w.heap.size ≠ e.N by have := HN.out; omega)
  have hbx2 := (row_parts hB0).1 2
  have cA := HCX.out _ hb
  clear hb hB0 hR hF
  go_upto_region 14 with (go_at_call 55; refine (HNA.out _ HB1.out).mono ?_; rintro r w1 ⟨cs1, U1, TA, CA, rfl, hcj, -, hd2, hd1⟩; have hv := row_parts (hd1.chg.keep HF0.out NF.out); obtain ⟨hv1, hv2⟩ := hv; have HCA := Lib.hid hcj; have HDA := Lib.hid hd2; have HDJ := Lib.hid hd1; clear hcj hd2 hd1)
  clear hv1 hv2 hbx2 cA
  have hch0 : Chg (· = e.N) w w1 := HDA.out.chg
  have hR0 := HDJ.out.chg.keep HR0.out NR.out
  have hF0 := HDJ.out.chg.keep HF0.out NF.out
  have hB0 := HDJ.out.chg.keep HBX.out NB.out
  have hd0 := HDA.out
  have HUB := Lib.hid (show ∀ B, U1 B → w.heap.size ≤ B → B < W0.heap.size → False from fun B h1 h2 h3 => HDJ.out.apart h3 (fun h => by have := HU.out _ h; omega) h1)
  have hUF : ¬ U1 (w.heap.size + 1 + 1) := fun h => HUB.out _ h (by omega) (Array.getElem?_eq_some_iff.1 HF0.out).1
  have hR1 := (chg_one (w.heap.size + 1 + 1) _ 6 (.iface TA (.pointer (some ⟨CA, 0, none⟩)))).keep ((chg_one (w.heap.size + 1 + 1) w1 15 (.int .i64 2)).keep hR0 (show ¬ w.heap.size + 1 = w.heap.size + 1 + 1 by omega)) (show ¬ w.heap.size + 1 = w.heap.size + 1 + 1 by omega)
  have hB1 := (chg_one (w.heap.size + 1 + 1) _ 6 (.iface TA (.pointer (some ⟨CA, 0, none⟩)))).keep ((chg_one (w.heap.size + 1 + 1) w1 15 (.int .i64 2)).keep hB0 (show ¬ w.heap.size = w.heap.size + 1 + 1 by omega)) (show ¬ w.heap.size = w.heap.size + 1 + 1 by omega)
  have hF1 := blk_set (blk_set hF0 15 (.int .i64 2)) 6 (.iface TA (.pointer (some ⟨CA, 0, none⟩)))
  simp only [List.setIfInBounds_toArray, List.set_cons_zero, List.set_cons_succ] at hF1
  have HD1 := Lib.hid (done_setIn (done_setIn hd0 (by omega) hUF NF.out 15 (.int .i64 2)) (by omega) hUF NF.out 6 (.iface TA (.pointer (some ⟨CA, 0, none⟩))))
  have hbx3 := (row_parts hB1).1 3
  generalize World.setCell (World.setCell w1 ⟨w.heap.size + 1 + 1, 15, none⟩ (.int .i64 2)) ⟨w.heap.size + 1 + 1, 6, none⟩ (.iface TA (.pointer (some ⟨CA, 0, none⟩))) = W1 at hR1 hF1 HD1 hbx3 ⊢
  clear hR0 hF0 hB0 hB1 hd0 hUF hch0
  have HR := Lib.hid hR1
  have HF := Lib.hid hF1
  have cB := HD1.out.chg.cell HCB.out HPN.out
  have HNX := Lib.hid (HNB.out.nx HG.out.fit HFB.out HAP.out W1 cs1 U1 HD1.out)
  clear hR1 hF1
  go_upto_region 19 with (go_at_call 55; refine HNX.out.mono ?_; rintro r w2 ⟨cs2, U2, T, C, rfl, hcj, hke, hd2, hd1⟩; have hv := row_parts (hd1.chg.keep HF.out NF.out); obtain ⟨hv1, hv2⟩ := hv; have HCJ := Lib.hid hcj; have HKE := Lib.hid hke; have HD2 := Lib.hid hd2; have HDI := Lib.hid hd1; clear hcj hd2 hd1 hke)
  try clear hv1 hv2
  have hU1 : ¬ U2 (w.heap.size + 1 + 1) := HDI.out.apart (Array.getElem?_eq_some_iff.1 HF.out).1 (fun h => HUB.out _ h (by omega) (Array.getElem?_eq_some_iff.1 HF0.out).1)
  have hU2 : ¬ U2 (w.heap.size + 1) := HDI.out.apart (Array.getElem?_eq_some_iff.1 HR.out).1 (fun h => HUB.out _ h (by omega) (Array.getElem?_eq_some_iff.1 HR0.out).1)
  have hRb := (chg_one (w.heap.size + 1 + 1) _ 7 (.iface T (.pointer (some ⟨C, 0, none⟩)))).keep (HDI.out.chg.keep HR.out NR.out) (show ¬ w.heap.size + 1 = w.heap.size + 1 + 1 by omega)
  have hFb := blk_set (HDI.out.chg.keep HF.out NF.out) 7 (.iface T (.pointer (some ⟨C, 0, none⟩)))
  simp only [List.setIfInBounds_toArray, List.set_cons_zero, List.set_cons_succ] at hFb
  have HD3 := Lib.hid (done_setIn HD2.out (by omega) hU1 NF.out 7 (.iface T (.pointer (some ⟨C, 0, none⟩))))
  have HU2 := Lib.hid hU2
  clear hU1 hU2 cB hbx3
  generalize World.setCell w2 ⟨w.heap.size + 1 + 1, 7, none⟩ (.iface T (.pointer (some ⟨C, 0, none⟩))) = W3 at hRb hFb HD3 ⊢
  obtain ⟨L, hL⟩ : ∃ L : List Value, L = [.pointer none, .pointer none, .slice none 0 0, .slice none 0 0, .slice none 0 0, .slice none 0 0, .iface TA (.pointer (some ⟨CA, 0, none⟩)), .iface T (.pointer (some ⟨C, 0, none⟩)), .nilIface, .pointer none, .string ⟨#[]⟩, .int .i64 0, .int .i64 0, .int .i64 0, .int .i64 0, .int .i64 2, .int .i64 y, .bool ss] := ⟨_, rfl⟩
  rw [← hL] at hFb
  have hone : ∀ u ∈ L, u.oneCell' = true := by rw [hL]; simp [Value.oneCell']
  have hLen : L.length = 18 := by rw [hL]; rfl
  obtain ⟨hr1, hsto, hr2, hchg⟩ := whole_copy hFb hRb (by rw [hLen]; rfl) hone
  have RG := Lib.hid hr1
  have HLL := Lib.hid hLen
  have HON := Lib.hid hone
  have HLV := Lib.hid hL
  have HD4 := Lib.hid (HD3.out.step hchg fun B hB => by subst hB; exact ⟨by omega, HU2.out, NR.out⟩)
  have hlv := run_loadVar_mid (P := Try.prog) (W3.setCells (w.heap.size + 1) 0 L) (w.heap.size + 1) 0 254 L _ hr2 Try.underlying254 rfl (by rw [hLen]; exact Try.size254)
  generalize W3.setCells (w.heap.size + 1) 0 L = W4 at hsto hlv HD4
  clear hr1 hr2 hchg hRb hFb hone hL
  go_wp2_with (refine wpList_load_mid (hgd := rfl) (ty := 254) (x := .tmp 9) (ho := rfl) (b := w.heap.size + 1 + 1) (o := 0) (hx := by first | rfl | simp) (cs := L) (d := _) (hc := RG.out) (hu := Try.underlying254) (hd := rfl) (hi := by rw [HLL.out]; exact Try.size254) (h := ?_))
  refine bodyPost_ret (v := .agg L.toArray) ?_ rfl ?_
  · simp [results, Try.results112, asAddr, hlv]
  · exact ⟨cs2, U2, L, rfl, HLL.out, HON.out, HD4.out, by rw [HLV.out]; exact ⟨rfl, by show _ = some (cv (cs2 a)); rw [HKE.out a (by simp), HCA.out]; rfl, by show _ = some (cv (cs2 b)); rw [HCJ.out]; rfl, rfl⟩⟩
end Go.Proofs.Ytincgkolpicipaa.kin
namespace Go.Proofs.Ytincgkolpicipaa.kin
open Go.RowKit
open Go.Proofs.Ytincgkolpicipaa.stack (step_after Chg owns_chg owns_form)
set_option maxRecDepth 100000 in
set_option maxHeartbeats 8000000 in
theorem field_exp_m {e : Env} (hg : Good e.ns) (hL : e.ns.length ≤ 400) (a : Nat) (hna : NodeC e a) (ps : List Nat) (b : Nat) (hpar : Kd e.ns [33] ps) (hno : ∀ p ∈ ps, ∀ a ∈ kids e.ns p, NodeC e a) (hbe : Ex e.ns b) (hnb : NodeC e b) (hs : Sep e.ns (a :: (ps ++ [b]))) (w : World) (cs : Pl) (U : Nat → Prop) (hst : St e w cs U) (hfr : Free e.ns cs (a :: (ps ++ [b]))) (B : Nat) (hB : e.N < B) (v : Value) (hp : Plc B w v (a :: (ps ++ [b]))) (k o m z : Int) (t : ByteArray) (ho : o = 0 ∨ o = 1 ∨ o = 2) (q1 : bits BinOp.andNot IntKind.i64 m 12 = 2) (q2 : bits BinOp.and IntKind.i64 m 8 = 8) (ss : Bool) (q3 : (bits BinOp.and IntKind.i64 m 4 != 0) = ss) :
    Calls Try.prog 112 #[.pointer (some ⟨e.b, 0, none⟩), .agg #[.int .i64 k, .int .i64 o, .string t, .int .i64 m, .int .i64 z], v] w (FieldR e w cs U (a :: (ps ++ [b])) (fun _ _ => True)) := by
  obtain ⟨p, po, pc, rfl, hpc, hlen, hBp, hpw, cx⟩ := hp.at (j := 0) (k := a) rfl
  rw [Nat.add_zero] at cx
  have hfrom := Plc.from_ (ks := [a]) (ls := (ps ++ [b])) hp rfl
  have hpc1 : ¬ pc = 1 := by simp at hpc; omega
  simp only [List.length_cons, List.length_nil, Nat.zero_add, if_neg hpc1] at hfrom
  have hsp := (show Sep e.ns ([a] ++ (ps ++ [b])) from hs).app
  have hfa : Free e.ns cs [a] := hfr.sub fun x hx => by rw [List.mem_singleton] at hx; simp [hx]
  have hfb : Free e.ns cs (ps ++ [b]) := hfr.sub fun x hx => List.mem_cons_of_mem _ hx
  have HNA := Lib.hid (fun W (hb : Below w.heap.size w W) => hna.nx hg.fit hfa (l := []) (fun a h => by simp at h) W cs U (Done.none hst hb))
  have HCX := Lib.hid (fun W (hb : Below w.heap.size w W) => cell_later hb cx)
  have hlen2 : (1 : Int) ≤ ((a :: (ps ++ [b])).length : Int) := by simp; omega
  have hlen3 : (1 : Int) ≤ (pc : Int) := by simp at hpc; omega
  have hlen4 : ((a :: (ps ++ [b])).length : Int) ≤ (pc : Int) := by omega
  have hlen5 : (0 : Int) < ((a :: (ps ++ [b])).length : Int) := by omega
  have HO := Lib.hid (hides_ok o ho)
  have HN := Lib.hid hst.nlt
  have HU := Lib.hid hst.lt
  have HFROM := Lib.hid hfrom
  have HFB := Lib.hid hfb
  have HNB := Lib.hid hnb
  have HG := Lib.hid hg
  have HL := Lib.hid hL
  have HST := Lib.hid hst
  have hpN : ¬ p = e.N := by omega
  have HPN := Lib.hid hpN
  have HB0 := Lib.hid hB
  have HPW := Lib.hid hpw
  have HAP := Lib.hid hsp.2.2
  have HSB := Lib.hid hsp.2.1
  have HPAR := Lib.hid hpar
  have HNO := Lib.hid hno
  have HBE := Lib.hid hbe
  clear hp hnb hst hfr hg hL ho hB hs hfrom hfb hpN hBp hpw hlen hna hsp hfa cx hpar hno hbe
  simp only [List.length_cons, List.length_append, List.length_nil, Nat.zero_add] at hpc hlen2 hlen4 hlen5 ⊢
  generalize hml : ps.length = pl at hpc hlen2 hlen4 hlen5 ⊢
  have HML := Lib.hid hml
  clear hml
  have hl0 : (((pl + 1 : Nat) : Int) == 0) = false := by simp; omega
  go_enter Try.func112, Try.ntmps112
  go_upto_region 11 with (go_at_call 103; refine (HO.out _).mono ?_; rintro r w1 ⟨⟨y, rfl⟩, rfl⟩)
  have h4 := three_allocs w (.cells #[.int .i64 k, .int .i64 o, .string t, .int .i64 m, .int .i64 z] 37) (.cells #[.pointer none, .pointer none, .slice none 0 0, .slice none 0 0, .slice none 0 0, .slice none 0 0, .nilIface, .nilIface, .nilIface, .pointer none, .string ⟨#[]⟩, .int .i64 0, .int .i64 0, .int .i64 0, .int .i64 0, .int .i64 0, .int .i64 0, .bool false] 254) (.cells #[.pointer none, .pointer none, .slice none 0 0, .slice none 0 0, .slice none 0 0, .slice none 0 0, .nilIface, .nilIface, .nilIface, .pointer none, .string ⟨#[]⟩, .int .i64 0, .int .i64 0, .int .i64 0, .int .i64 0, .int .i64 0, .int .i64 y, .bool ss] 254)
  generalize (((w.alloc (.cells #[.int .i64 k, .int .i64 o, .string t, .int .i64 m, .int .i64 z] 37)).alloc (.cells #[.pointer none, .pointer none, .slice none 0 0, .slice none 0 0, .slice none 0 0, .slice none 0 0, .nilIface, .nilIface, .nilIface, .pointer none, .string ⟨#[]⟩, .int .i64 0, .int .i64 0, .int .i64 0, .int .i64 0, .int .i64 0, .int .i64 0, .bool false] 254)).alloc (.cells #[.pointer none, .pointer none, .slice none 0 0, .slice none 0 0, .slice none 0 0, .slice none 0 0, .nilIface, .nilIface, .nilIface, .pointer none, .string ⟨#[]⟩, .int .i64 0, .int .i64 0, .int .i64 0, .int .i64 0, .int .i64 0, .int .i64 y, .bool ss] 254)) = W0 at h4 ⊢
  obtain ⟨hb, hB0, hR, hF⟩ := h4
  have HB1 := Lib.hid hb
  have HBX := Lib.hid hB0
  have HR0 := Lib.hid hR
  have HF0 := Lib.hid hF
  have NF := Lib.hid (show w.heap.size + 1 + 1 ≠ e.N by have := HN.out; omega)
  have NR := Lib.hid (show w.heap.size + 1 ≠ e.N by have := HN.out; omega)
  have NB := Lib.hid (show w.heap.size ≠ e.N by have := HN.out; omega)
  have hbx2 := (row_parts hB0).1 2
  have cA := HCX.out _ hb
  clear hb hB0 hR hF
  go_upto_region 14 with (go_at_call 55; refine (HNA.out _ HB1.out).mono ?_; rintro r w1 ⟨cs1, U1, TA, CA, rfl, hcj, -, hd2, hd1⟩; have hv := row_parts (hd1.chg.keep HF0.out NF.out); obtain ⟨hv1, hv2⟩ := hv; have HCA := Lib.hid hcj; have HDA := Lib.hid hd2; have HDJ := Lib.hid hd1; clear hcj hd2 hd1)
  clear hv1 hv2 hbx2 cA
  have hch0 : Chg (· = e.N) w w1 := HDA.out.chg
  have hR0 := HDJ.out.chg.keep HR0.out NR.out
  have hF0 := HDJ.out.chg.keep HF0.out NF.out
  have hB0 := HDJ.out.chg.keep HBX.out NB.out
  have hd0 := HDA.out
  have HUB := Lib.hid (show ∀ B, U1 B → w.heap.size ≤ B → B < W0.heap.size → False from fun B h1 h2 h3 => HDJ.out.apart h3 (fun h => by have := HU.out _ h; omega) h1)
  have hUF : ¬ U1 (w.heap.size + 1 + 1) := fun h => HUB.out _ h (by omega) (Array.getElem?_eq_some_iff.1 HF0.out).1
  have hR1 := (chg_one (w.heap.size + 1 + 1) _ 6 (.iface TA (.pointer (some ⟨CA, 0, none⟩)))).keep ((chg_one (w.heap.size + 1 + 1) w1 15 (.int .i64 2)).keep hR0 (show ¬ w.heap.size + 1 = w.heap.size + 1 + 1 by omega)) (show ¬ w.heap.size + 1 = w.heap.size + 1 + 1 by omega)
  have hB1 := (chg_one (w.heap.size + 1 + 1) _ 6 (.iface TA (.pointer (some ⟨CA, 0, none⟩)))).keep ((chg_one (w.heap.size + 1 + 1) w1 15 (.int .i64 2)).keep hB0 (show ¬ w.heap.size = w.heap.size + 1 + 1 by omega)) (show ¬ w.heap.size = w.heap.size + 1 + 1 by omega)
  have hF1 := blk_set (blk_set hF0 15 (.int .i64 2)) 6 (.iface TA (.pointer (some ⟨CA, 0, none⟩)))
  simp only [List.setIfInBounds_toArray, List.set_cons_zero, List.set_cons_succ] at hF1
  have HD1 := Lib.hid (done_setIn (done_setIn hd0 (by omega) hUF NF.out 15 (.int .i64 2)) (by omega) hUF NF.out 6 (.iface TA (.pointer (some ⟨CA, 0, none⟩))))
  have hbx3 := (row_parts hB1).1 3
  generalize World.setCell (World.setCell w1 ⟨w.heap.size + 1 + 1, 15, none⟩ (.int .i64 2)) ⟨w.heap.size + 1 + 1, 6, none⟩ (.iface TA (.pointer (some ⟨CA, 0, none⟩))) = W1 at hR1 hF1 HD1 hbx3 ⊢
  clear hR0 hF0 hB0 hB1 hd0 hUF hch0
  have HR := Lib.hid hR1
  have HF := Lib.hid hF1
  have HFN := Lib.hid (show Calls Try.prog 99 #[.pointer (some ⟨e.b, 0, none⟩), .slice (some ⟨p, po + 1, none⟩) (pl + 1) (pc - 1)] W1 (FnRes e W1 cs1 U1 ps b) from by
    have h1 := function_does HG.out HL.out ps b HPAR.out HNO.out HNB.out HSB.out W1 cs1 U1 HD1.out.st (HD1.out.free HAP.out HFB.out) B HB0.out _ (HFROM.out.chg HD1.out.chg fun q hq hx => by have := HB0.out; omega)
    simp only [List.length_append, List.length_cons, List.length_nil, Nat.zero_add, HML.out] at h1
    exact h1)
  clear hR1 hF1
  go_upto_region 19 with (go_at_call 99; refine HFN.out.mono ?_; rintro r w2 ⟨cs2, U2, O, vP, rfl, hd1, hO1, hO2, hO3, hO4, -, -⟩; have hv := row_parts (hd1.chg.keep HF.out NF.out); obtain ⟨hv1, hv2⟩ := hv; obtain ⟨⟨T, C⟩, hcb⟩ := Option.ne_none_iff_exists'.1 (hd1.ex b (Rs.mem HG.out.fit (List.mem_append.2 (.inr (by simp)))) HBE.out); rw [hcb] at hO4; have hneO : ¬ O = w.heap.size + 1 + 1 := (by have := (Array.getElem?_eq_some_iff.1 HF.out).1; omega); have hneP : ¬ w.heap.size + 1 + 1 = O := (by omega); simp only [cv] at hO4; have HDI := Lib.hid hd1; clear hcb hd1 hO1 hO2 hO3)
  try clear hv1 hv2
  try clear hO4
  have hU1 : ¬ U2 (w.heap.size + 1 + 1) := HDI.out.apart (Array.getElem?_eq_some_iff.1 HF.out).1 (fun h => HUB.out _ h (by omega) (Array.getElem?_eq_some_iff.1 HF0.out).1)
  have hU2 : ¬ U2 (w.heap.size + 1) := HDI.out.apart (Array.getElem?_eq_some_iff.1 HR.out).1 (fun h => HUB.out _ h (by omega) (Array.getElem?_eq_some_iff.1 HR0.out).1)
  have hRb := (chg_one (w.heap.size + 1 + 1) _ 7 (.iface T (.pointer (some ⟨C, 0, none⟩)))).keep ((chg_one (w.heap.size + 1 + 1) _ 0 (.pointer (some ⟨O, 0, none⟩))).keep (HDI.out.chg.keep HR.out NR.out) (show ¬ w.heap.size + 1 = w.heap.size + 1 + 1 by omega)) (show ¬ w.heap.size + 1 = w.heap.size + 1 + 1 by omega)
  have hFb := blk_set (blk_set (HDI.out.chg.keep HF.out NF.out) 0 (.pointer (some ⟨O, 0, none⟩))) 7 (.iface T (.pointer (some ⟨C, 0, none⟩)))
  simp only [List.setIfInBounds_toArray, List.set_cons_zero, List.set_cons_succ] at hFb
  have HD3 := Lib.hid (done_setIn (done_setIn (HD1.out.app HDI.out HAP.out) (by omega) hU1 NF.out 0 (.pointer (some ⟨O, 0, none⟩))) (by omega) hU1 NF.out 7 (.iface T (.pointer (some ⟨C, 0, none⟩))))
  have HU2 := Lib.hid hU2
  clear hU1 hU2 hbx3 hneO hneP
  generalize World.setCell (World.setCell w2 ⟨w.heap.size + 1 + 1, 0, none⟩ (.pointer (some ⟨O, 0, none⟩))) ⟨w.heap.size + 1 + 1, 7, none⟩ (.iface T (.pointer (some ⟨C, 0, none⟩))) = W3 at hRb hFb HD3 ⊢
  obtain ⟨L, hL⟩ : ∃ L : List Value, L = [.pointer (some ⟨O, 0, none⟩), .pointer none, .slice none 0 0, .slice none 0 0, .slice none 0 0, .slice none 0 0, .iface TA (.pointer (some ⟨CA, 0, none⟩)), .iface T (.pointer (some ⟨C, 0, none⟩)), .nilIface, .pointer none, .string ⟨#[]⟩, .int .i64 0, .int .i64 0, .int .i64 0, .int .i64 0, .int .i64 2, .int .i64 y, .bool ss] := ⟨_, rfl⟩
  rw [← hL] at hFb
  have hone : ∀ u ∈ L, u.oneCell' = true := by rw [hL]; simp [Value.oneCell']
  have hLen : L.length = 18 := by rw [hL]; rfl
  obtain ⟨hr1, hsto, hr2, hchg⟩ := whole_copy hFb hRb (by rw [hLen]; rfl) hone
  have RG := Lib.hid hr1
  have HLL := Lib.hid hLen
  have HON := Lib.hid hone
  have HLV := Lib.hid hL
  have HD4 := Lib.hid (HD3.out.step hchg fun B hB => by subst hB; exact ⟨by omega, HU2.out, NR.out⟩)
  have hlv := run_loadVar_mid (P := Try.prog) (W3.setCells (w.heap.size + 1) 0 L) (w.heap.size + 1) 0 254 L _ hr2 Try.underlying254 rfl (by rw [hLen]; exact Try.size254)
  generalize W3.setCells (w.heap.size + 1) 0 L = W4 at hsto hlv HD4
  clear hr1 hr2 hchg hRb hFb hone hL
  go_wp2_with (refine wpList_load_mid (hgd := rfl) (ty := 254) (x := .tmp 9) (ho := rfl) (b := w.heap.size + 1 + 1) (o := 0) (hx := by first | rfl | simp) (cs := L) (d := _) (hc := RG.out) (hu := Try.underlying254) (hd := rfl) (hi := by rw [HLL.out]; exact Try.size254) (h := ?_))
  refine bodyPost_ret (v := .agg L.toArray) ?_ rfl ?_
  · simp [results, Try.results112, asAddr, hlv]
  · exact ⟨cs2, U2, L, rfl, HLL.out, HON.out, HD4.out, trivial⟩
end Go.Proofs.Ytincgkolpicipaa.kin
namespace Go.Proofs.Ytincgkolpicipaa.kin
open Go.RowKit
open Go.Proofs.Ytincgkolpicipaa.stack (step_after Chg owns_chg owns_form)
/-- Of a member the places of: the name's expression; the body, or the test; the message. -/
def memP (ns : List Nd) (k : Nat) : Option Nat × Nat × Option Nat :=
  match ns[k]? with
  | none => (none, 0, none)
  | some n => if n.k = 36 then (none, bodyOf ns ((kids ns k).headD 0), none) else if n.k = 37 then (none, (kids ns k).headD 0, (kids ns k)[1]?) else match kids ns k with
    | [] => (none, 0, none)
    | [b] => (none, b, none)
    | a :: b :: _ => (some a, b, none)
def memV (cs : Pl) (x : Option Nat × Nat × Option Nat) : Option Value × Value × Option Value := (x.1.map fun p => cv (cs p), cv (cs x.2.1), x.2.2.map fun p => cv (cs p))
/-- The cells of a member that are asked for. -/
def MemL (L : List Value) (x : Option Value × Value × Option Value) : Prop := L[0]? = some (.pointer none) ∧ L[6]? = some (vo x.1) ∧ L[7]? = some x.2.1 ∧ L[8]? = some (vo x.2.2)
theorem FieldR.imp {e : Env} {w : World} {cs : Pl} {U : Nat → Prop} {ks : List Nat} {Q Q' : List Value → Pl → Prop} {r : Ending} {w' : World} (h : FieldR e w cs U ks Q r w') (hq : ∀ L cs', Q L cs' → Q' L cs') : FieldR e w cs U ks Q' r w' := by
  obtain ⟨cs', U', L, h1, h2, h3, h4, h5⟩ := h
  exact ⟨cs', U', L, h1, h2, h3, h4, hq L cs' h5⟩
set_option maxHeartbeats 1000000 in
theorem field_any {e : Env} (hg : Good e.ns) (hL : e.ns.length ≤ 400) (j : Nat) (n : Nd) (hn : e.ns[j]? = some n) (hk : n.k = 35) (hno : ∀ x, j < x → x < j + sz e.ns j → Ex e.ns x → NodeC e x) (w : World) (cs : Pl) (U : Nat → Prop) (hst : St e w cs U) (hfr : Free e.ns cs (kids e.ns j)) (B : Nat) (hB : e.N < B) (v : Value) (hp : Plc B w v (kids e.ns j)) :
    Calls Try.prog 112 #[.pointer (some ⟨e.b, 0, none⟩), ndv n, v] w (FieldR e w cs U (kids e.ns j) fun L cs' => Plain e.ns j → MemL L (memV cs' (memP e.ns j))) := by
  have hs := hg.shp j n hn
  have hb := (hg.bar j n hn).field hk
  have hsep := sep_kids hg.fit hn
  have hin := fun x (hx : x ∈ kids e.ns j) => hg.fit.kid hn hx
  have hpar : ∀ ps : List Nat, (∀ p ∈ ps, p ∈ kids e.ns j) → Kd e.ns [33] ps → ∀ p ∈ ps, ∀ a ∈ kids e.ns p, NodeC e a := fun ps hps hk33 p hp a ha => by
    have h1 := hin p (hps p hp)
    obtain ⟨np, hnp, hk3⟩ := hk33 p hp
    have h2 := hg.fit.kid hnp ha
    rcases param_kids hg hnp (by simpa using hk3) with h0 | ⟨x, hx, hex⟩
    · rw [h0] at ha; simp at ha
    · rw [hx, List.mem_singleton] at ha
      subst ha
      exact hno a (by omega) (by omega) hex
  have hmem : memP e.ns j = match kids e.ns j with
    | [] => (none, 0, none)
    | [b] => (none, b, none)
    | a :: b :: _ => (some a, b, none) := by
    unfold memP; rw [hn]; simp [hk]
  have hpl : Plain e.ns j → n.m = 0 ∨ n.m = 2 ∨ n.m = 4 ∨ n.m = 6 := fun ⟨n', h1, _, _, h4, _⟩ => by
    rw [hn] at h1; cases h1; exact h4 hk
  rw [hmem]
  clear hmem
  generalize kids e.ns j = ks at *
  obtain ⟨k0, o0, t0, m0, z0⟩ := n
  dsimp only at hk hb hpl
  subst hk
  have ho := hb.1
  cases hs with
  | @field0 b _ hm hbx =>
    have hx := hin b (by simp)
    have hnb := hno b hx.1 (by omega) hbx
    dsimp only at hm
    rcases hm with rfl | rfl | rfl | rfl
    · exact (field_id hg hL b hnb hsep w cs U hst hfr B hB v hp _ _ _ _ _ ho (by dsimp only; decide) (by dsimp only; decide) _ rfl).mono fun r w' h => h.imp fun L cs' h _ => h
    · exact (field_str hg hL b hnb hsep w cs U hst hfr B hB v hp _ _ _ _ _ ho (by dsimp only; decide) (by dsimp only; decide) _ rfl).mono fun r w' h => h.imp fun L cs' _ h => by have := hpl h; simp at this
    · exact (field_id hg hL b hnb hsep w cs U hst hfr B hB v hp _ _ _ _ _ ho (by dsimp only; decide) (by dsimp only; decide) _ rfl).mono fun r w' h => h.imp fun L cs' h _ => h
    · exact (field_str hg hL b hnb hsep w cs U hst hfr B hB v hp _ _ _ _ _ ho (by dsimp only; decide) (by dsimp only; decide) _ rfl).mono fun r w' h => h.imp fun L cs' _ h => by have := hpl h; simp at this
  | @field1 a b _ hm hax hbx =>
    have hx := hin b (by simp)
    have hnb := hno b hx.1 (by omega) hbx
    have hy := hin a (by simp)
    have hna := hno a hy.1 (by omega) hax
    dsimp only at hm
    rcases hm with rfl | rfl
    · exact (field_exp hg hL a hna b hnb hsep w cs U hst hfr B hB v hp _ _ _ _ _ ho (by dsimp only; decide) (by dsimp only; decide) _ rfl).mono fun r w' h => h.imp fun L cs' h _ => h
    · exact (field_exp hg hL a hna b hnb hsep w cs U hst hfr B hB v hp _ _ _ _ _ ho (by dsimp only; decide) (by dsimp only; decide) _ rfl).mono fun r w' h => h.imp fun L cs' h _ => h
  | @field2 ps b _ hm hps hbx =>
    have hx := hin b (by simp)
    have hnb := hno b hx.1 (by omega) hbx
    have hnp := hpar ps (fun p hp => by simp [hp]) hps
    dsimp only at hm
    rcases hm with rfl | rfl
    · exact (field_id_m hg hL ps b hps hnp hbx hnb hsep w cs U hst hfr B hB v hp _ _ _ _ _ ho (by dsimp only; decide) (by dsimp only; decide) _ rfl).mono fun r w' h => h.imp fun L cs' _ h => by have := hpl h; simp at this
    · exact (field_str_m hg hL ps b hps hnp hbx hnb hsep w cs U hst hfr B hB v hp _ _ _ _ _ ho (by dsimp only; decide) (by dsimp only; decide) _ rfl).mono fun r w' h => h.imp fun L cs' _ h => by have := hpl h; simp at this
  | @field3 a ps b _ hm hax hps hbx =>
    have hx := hin b (by simp)
    have hnb := hno b hx.1 (by omega) hbx
    have hy := hin a (by simp)
    have hna := hno a hy.1 (by omega) hax
    have hnp := hpar ps (fun p hp => by simp [hp]) hps
    dsimp only at hm
    subst hm
    exact (field_exp_m hg hL a hna ps b hps hnp hbx hnb hsep w cs U hst hfr B hB v hp _ _ _ _ _ ho (by dsimp only; decide) (by dsimp only; decide) _ rfl).mono fun r w' h => h.imp fun L cs' _ h => by have := hpl h; simp at this
  | _ => exfalso; simp_all
end Go.Proofs.Ytincgkolpicipaa.kin
namespace Go.Proofs.Ytincgkolpicipaa.kin
open Go.RowKit
open Go.Proofs.Ytincgkolpicipaa.stack (step_after Chg owns_chg owns_form)
def memAll (x : Option Nat × Nat × Option Nat) : List Nat := x.1.toList ++ x.2.1 :: x.2.2.toList
theorem memV_congr {cs cs' : Pl} {x : Option Nat × Nat × Option Nat} (h : ∀ p ∈ memAll x, cs' p = cs p) : memV cs' x = memV cs x := by
  obtain ⟨a, b, c⟩ := x
  have hb := h b (by simp [memAll])
  cases a with
  | none => cases c with
    | none => simp [memV, hb]
    | some c => have hc := h c (by simp [memAll]); simp [memV, hb, hc]
  | some a =>
    have ha := h a (by simp [memAll])
    cases c with
    | none => simp [memV, ha, hb]
    | some c => have hc := h c (by simp [memAll]); simp [memV, ha, hb, hc]
theorem mlocal_kids {ns : List Nd} (hg : Good ns) {k : Nat} {n : Nd} (hn : ns[k]? = some n) (hk : n.k = 36) : ∃ a nb, kids ns k = [a] ∧ ns[a]? = some nb ∧ nb.k = 32 := by
  have hs := hg.shp k n hn
  generalize kids ns k = ks at hs
  cases hs with
  | mlocal h ha => obtain ⟨nb, h1, h2⟩ := ha _ (List.mem_singleton.2 rfl); exact ⟨_, nb, rfl, h1, by simpa using h2⟩
  | _ => exfalso; omega
theorem mast_kids {ns : List Nd} (hg : Good ns) {k : Nat} {n : Nd} (hn : ns[k]? = some n) (hk : n.k = 37) : (∃ a, kids ns k = [a] ∧ n.m = 0 ∧ Ex ns a) ∨ ∃ a b, kids ns k = [a, b] ∧ n.m = 1 ∧ Ex ns a ∧ Ex ns b := by
  have hs := hg.shp k n hn
  generalize kids ns k = ks at hs
  cases hs with
  | mast1 h hm ha => exact .inl ⟨_, rfl, hm, ha⟩
  | mast2 h hm ha hb => exact .inr ⟨_, _, rfl, hm, ha, hb⟩
  | _ => exfalso; omega
theorem field_kids {ns : List Nd} (hg : Good ns) {k : Nat} {n : Nd} (hn : ns[k]? = some n) (hk : n.k = 35) : kids ns k ≠ [] := by
  have hs := hg.shp k n hn
  generalize kids ns k = ks at hs
  cases hs with
  | field0 h hm ha => simp
  | field1 h hm ha hb => simp
  | field2 h hm ha hb => simp
  | field3 h hm ha hb => simp
  | _ => exfalso; omega
theorem memP_35 {ns : List Nd} {k : Nat} {n : Nd} (hn : ns[k]? = some n) (hk : n.k = 35) : memP ns k = match kids ns k with
    | [] => (none, 0, none)
    | [b] => (none, b, none)
    | a :: b :: _ => (some a, b, none) := by
  unfold memP; rw [hn]; simp [hk]; try rfl
theorem memP_36 {ns : List Nd} {k a : Nat} {n : Nd} (hn : ns[k]? = some n) (hk : n.k = 36) (ha : kids ns k = [a]) : memP ns k = (none, bodyOf ns a, none) := by
  unfold memP; rw [hn]; simp [hk, ha]
theorem memP_37 {ns : List Nd} {k : Nat} {n : Nd} (hn : ns[k]? = some n) (hk : n.k = 37) : memP ns k = (none, (kids ns k).headD 0, (kids ns k)[1]?) := by
  unfold memP; rw [hn]; simp [hk]
theorem bind_body {ns : List Nd} (hg : Good ns) {a : Nat} {n : Nd} (hn : ns[a]? = some n) (hk : n.k = 32) : bodyOf ns a ∈ kids ns a := by
  obtain ⟨ps, b, hkk, -⟩ := bind_kids hg hn hk
  unfold bodyOf; rw [hkk]; simp
/-- The places of a member stand beneath it. -/
theorem memP_in {ns : List Nd} (hg : Good ns) {k : Nat} {n : Nd} (hn : ns[k]? = some n) (hk : n.k = 35 ∨ n.k = 36 ∨ n.k = 37) : ∀ p ∈ memAll (memP ns k), Rs ns [k] p := by
  have hin := fun x (hx : x ∈ kids ns k) => hg.fit.kid hn hx
  have hkid : ∀ x ∈ kids ns k, Rs ns [k] x := fun x hx => Rs.one.2 (by have := hin x hx; omega)
  rcases hk with hk | hk | hk
  · rw [memP_35 hn hk]
    have hne := field_kids hg hn hk
    generalize kids ns k = ks at hkid hne
    match ks, hkid, hne with
    | [b], h, _ => intro p hp; simp [memAll] at hp; subst hp; exact h _ (by simp)
    | a :: b :: _, h, _ => intro p hp; simp [memAll] at hp; rcases hp with rfl | rfl <;> exact h _ (by simp)
  · obtain ⟨a, nb, ha, hnb, hk2⟩ := mlocal_kids hg hn hk
    rw [memP_36 hn hk ha]
    intro p hp
    simp [memAll] at hp
    subst hp
    have h1 := hin a (by rw [ha]; simp)
    have h2 := hg.fit.kid hnb (bind_body hg hnb hk2)
    exact Rs.one.2 (by omega)
  · rw [memP_37 hn hk]
    rcases mast_kids hg hn hk with ⟨a, ha, -⟩ | ⟨a, b, ha, -⟩
    · intro p hp; rw [ha] at hp; simp [memAll] at hp; subst hp; exact hkid _ (by rw [ha]; simp)
    · intro p hp; rw [ha] at hp; simp [memAll] at hp; rcases hp with rfl | rfl <;> exact hkid _ (by rw [ha]; simp)
/-- Where builder.members stands: lb is built, l is listed. -/
structure MbS (e : Env) (w : World) (cs : Pl) (U : Nat → Prop) (lb l : List Nat) (Ls : List (List Value)) (wr : World) (cs1 : Pl) (U1 : Nat → Prop) (v : Value) : Prop where
  done : Done e (Rs e.ns lb) w wr cs cs1 U U1
  row : Mine wr w.heap.size U1 254 18 v Ls.length (Ls.flatMap fun L => L)
  len : Ls.length = l.length
  all : ∀ L ∈ Ls, L.length = 18 ∧ ∀ u ∈ L, u.oneCell' = true
  rel : ∀ (j x : Nat) (L : List Value), l[j]? = some x → Ls[j]? = some L → Plain e.ns x → MemL L (memV cs1 (memP e.ns x))
section
variable {e : Env} {w : World} {cs : Pl} {U : Nat → Prop} {lb l : List Nat} {Ls : List (List Value)} {wr W w2 : World} {cs1 cs2 : Pl} {U1 U2 : Nat → Prop} {v : Value}
theorem MbS.later (h : MbS e w cs U lb l Ls wr cs1 U1 v) (hb : Below wr.heap.size wr W) : MbS e w cs U lb l Ls W cs1 U1 v :=
  ⟨h.done.later hb, h.row.later hb, h.len, h.all, h.rel⟩
theorem MbS.node {j : Nat} (h : MbS e w cs U lb l Ls wr cs1 U1 v) (hN : e.N < w.heap.size) (hd : Done e (Rs e.ns [j]) wr W cs1 cs2 U1 U2) (ha : Apt e.ns lb [j]) (hin : ∀ x ∈ l, ∀ p ∈ memAll (memP e.ns x), Rs e.ns lb p) : MbS e w cs U (lb ++ [j]) l Ls W cs2 U2 v :=
  ⟨h.done.app hd ha, h.row.done hd hN, h.len, h.all, fun i x L hx hL hp => by
    rw [memV_congr fun p hpp => hd.out p (ha.dis (hin x (List.mem_of_getElem? hx) p hpp))]
    exact h.rel i x L hx hL hp⟩
theorem MbS.push {j : Nat} {L : List Value} {v' : Value} (h : MbS e w cs U lb l Ls wr cs1 U1 v) (hN : e.N < w.heap.size) (hb : Below wr.heap.size wr W) (hg : W.grownBy w2 v.ownBlock) (hown : w2.ownsRow w.heap.size 254 18 v' (Ls.length + 1) ((Ls.flatMap fun L => L) ++ L)) (hat : v'.ownBlock = v.ownBlock ∨ v'.ownBlock = some W.heap.size) (hL : L.length = 18) (h1 : ∀ u ∈ L, u.oneCell' = true) (hq : Plain e.ns j → MemL L (memV cs1 (memP e.ns j))) : MbS e w cs U lb (l ++ [j]) (Ls ++ [L]) w2 cs1 U1 v' := by
  have hW := h.later hb
  refine ⟨hW.done.grown hW.row (Nat.le_refl _) hN hg, ?_, by simp [h.len], fun M hM => ?_, fun i x M hx hM hp => ?_⟩
  · rw [List.flatMap_append, List.length_append]
    simpa using hW.row.grown hW.done.st.lt hown hat
  · rcases List.mem_append.1 hM with hM | hM
    · exact h.all M hM
    · rw [List.mem_singleton] at hM; subst hM; exact ⟨hL, h1⟩
  · by_cases hi : i < l.length
    · rw [List.getElem?_append_left hi] at hx
      rw [List.getElem?_append_left (by rw [h.len]; exact hi)] at hM
      exact h.rel i x M hx hM hp
    · rw [List.getElem?_append_right (by omega)] at hx
      rw [List.getElem?_append_right (by rw [h.len]; omega), h.len] at hM
      have hi0 : i - l.length = 0 := by
        have := (List.getElem?_eq_some_iff.1 hx).1
        simp at this; omega
      rw [hi0] at hx hM
      simp at hx hM
      subst hx; subst hM
      exact hq hp
theorem MbS.fin (h : MbS e w cs U lb l Ls wr cs1 U1 v) (hl : l.length ≤ 400) (hp : ∀ x ∈ l, Plain e.ns x) : Flds (rd wr (fun B => U1 B ∨ v.ownBlock = some B)) v (l.map fun k => memV cs1 (memP e.ns k)) := by
  have h0 := h.row.own
  rcases h.row.own.2 with ⟨rfl, h2⟩ | ⟨q, cap, cur, rfl, hq, hh, hn, hm, hcs, hcur⟩
  · have : l = [] := List.length_eq_zero_iff.1 (by rw [← h.len]; exact h2)
    subst this
    exact ⟨none, 0, rfl, by simp, fun j x hj => by simp at hj⟩
  · refine ⟨_, cap, by rw [List.length_map, h.len], by simpa using hl, fun j x hj => ?_⟩
    rw [List.getElem?_map] at hj
    cases hk : l[j]? with
    | none => rw [hk] at hj; simp at hj
    | some k =>
      rw [hk] at hj; simp at hj; subst hj
      have hjl := (List.getElem?_eq_some_iff.1 hk).1
      have hkm := List.mem_of_getElem? hk
      obtain ⟨L, hL⟩ := getElem?_lt (show j < Ls.length by rw [h.len]; exact hjl)
      obtain ⟨hL1, hL2⟩ := h.all L (List.mem_of_getElem? hL)
      refine ⟨q, L, rfl, hL1, h.rel j k L hk hL (hp k hkm), hL2, fun i u hu => ⟨.inr rfl, ?_⟩⟩
      have hi : i < 18 := by have := (List.getElem?_eq_some_iff.1 hu).1; rw [hL1] at this; exact this
      have : j * 18 + i < Ls.length * 18 := by rw [h.len]; omega
      rw [h0.cellAt _ this, flatMap_at Ls j i L (fun M hM => (h.all M hM).1) hL hi]
      exact hu
end
theorem Try.info254 : (Try.prog.info? 254).map (fun i => (i.zero, i.size, i.bytes)) = some (some (.agg #[.pointer none, .pointer none, .slice none 0 0, .slice none 0 0, .slice none 0 0, .slice none 0 0, .nilIface, .nilIface, .nilIface, .pointer none, .string ⟨#[]⟩, .int .i64 0, .int .i64 0, .int .i64 0, .int .i64 0, .int .i64 0, .int .i64 0, .bool false]), 18, 240) := by kernel_rfl
def MembersR (e : Env) (w : World) (cs : Pl) (U : Nat → Prop) (ks : List Nat) (r : Ending) (w' : World) : Prop :=
  ∃ (A : Option Addr) (n c : Nat) (cs' : Pl) (U' : Nat → Prop), r = .returned (.slice A n c) ∧ Done e (Rs e.ns ks) w w' cs cs' U U' ∧ ((∀ k ∈ ks, Plain e.ns k) → Flds (rd w' U') (.slice A n c) (ks.map fun k => memV cs' (memP e.ns k)))
end Go.Proofs.Ytincgkolpicipaa.kin
namespace Go.Proofs.Ytincgkolpicipaa.kin
theorem ex_true {ns : List Nd} {k : Nat} (h : Ex ns k) : ex ns k = true := ex_iff.2 h
theorem ex_false {ns : List Nd} {k : Nat} {n : Nd} (hn : ns[k]? = some n) (hk : 30 < n.k) : ex ns k = false := by
  cases h : ex ns k
  · rfl
  · obtain ⟨n', h1, h2, h3⟩ := ex_iff.1 h
    rw [hn] at h1; cases h1; omega
theorem inner_ek {ns : List Nd} (hf : Fit ns) {i : Nat} {n : Nd} (hn : ns[i]? = some n) (h : Ek ns (kids ns i)) : inner ns i = kids ns i := by
  rw [inner_step hf hn]
  generalize kids ns i = ks at h
  induction ks with
  | nil => rfl
  | cons a ks ih => rw [List.flatMap_cons, ih fun k hk => h k (by simp [hk]), if_pos (ex_true (h a (by simp)))]; rfl
theorem inner_of {ns : List Nd} (hf : Fit ns) {i : Nat} {n : Nd} (hn : ns[i]? = some n) {ks : List Nat} (hk : kids ns i = ks) {f : Nat → List Nat} (h : ∀ k ∈ ks, (if ex ns k then [k] else inner ns k) = f k) : inner ns i = ks.flatMap f := by
  rw [inner_step hf hn, hk]
  clear hk
  induction ks with
  | nil => rfl
  | cons a ks ih => rw [List.flatMap_cons, List.flatMap_cons, ih fun k hk => h k (by simp [hk]), h a (by simp)]
/-- A bind that is no function; an argument. -/
theorem inner_bind {ns : List Nd} (hg : Good ns) {k : Nat} {n : Nd} (hn : ns[k]? = some n) (hk : n.k = 32) (hm : n.m ≠ 1) : inner ns k = [bodyOf ns k] := by
  obtain ⟨ps, b, hkk, hb, -, hmm⟩ := bind_kids hg hn hk
  rcases hmm with ⟨-, rfl⟩ | h
  · have hkk : kids ns k = [b] := hkk
    have hbo : bodyOf ns k = b := by unfold bodyOf; rw [hkk]; rfl
    rw [inner_ek hg.fit hn (by rw [hkk]; intro x hx; rw [List.mem_singleton] at hx; subst hx; exact hb), hkk, hbo]
  · exact absurd h hm
theorem inner_arg {ns : List Nd} (hg : Good ns) {k : Nat} {n : Nd} (hn : ns[k]? = some n) (hk : n.k = 34) : inner ns k = [bodyOf ns k] := by
  obtain ⟨a, hka, hax, hbo⟩ := arg_kids hg hn hk
  rw [inner_ek hg.fit hn (by rw [hka]; intro x hx; rw [List.mem_singleton] at hx; subst hx; exact hax), hka, hbo]
/-- A member. -/
theorem inner_mem_of {ns : List Nd} (hg : Good ns) {k : Nat} {n : Nd} (hn : ns[k]? = some n) (hk : n.k = 35 ∨ n.k = 36 ∨ n.k = 37) (hp : Plain ns k) : inner ns k = memAll (memP ns k) := by
  obtain ⟨n', h1, -, -, h4, h5⟩ := hp
  rw [hn] at h1; cases h1
  rcases hk with hk | hk | hk
  · rw [memP_35 hn hk]
    have hs := hg.shp k n hn
    have h4 := h4 hk
    have he : Ek ns (kids ns k) ∧ ((∃ b, kids ns k = [b]) ∨ ∃ a b, kids ns k = [a, b]) := by
      generalize kids ns k = ks at hs
      cases hs with
      | @field0 b _ hm hb => exact ⟨fun x hx => by rw [List.mem_singleton] at hx; subst hx; exact hb, .inl ⟨_, rfl⟩⟩
      | @field1 a b _ hm ha hb => exact ⟨fun x hx => by simp at hx; rcases hx with rfl | rfl <;> assumption, .inr ⟨_, _, rfl⟩⟩
      | field2 h hm => exfalso; omega
      | field3 h hm => exfalso; omega
      | _ => exfalso; omega
    rw [inner_ek hg.fit hn he.1]
    rcases he.2 with ⟨b, hb⟩ | ⟨a, b, hb⟩ <;> rw [hb] <;> rfl
  · obtain ⟨a, nb, hka, hnb, hk32⟩ := mlocal_kids hg hn hk
    rw [memP_36 hn hk hka]
    obtain ⟨x, hx, hxm⟩ := h5 hk
    have ha : a = k + 1 := by
      have h := (hg.fit k n hn).kids
      rw [hka] at h
      generalize k + n.z.toNat = q at h
      generalize hs : k + 1 = s at h ⊢
      cases h; rfl
    rw [← ha, hnb] at hx; cases hx
    rw [inner_of hg.fit hn hka (f := fun a => [bodyOf ns a]) fun y hy => by
      rw [List.mem_singleton] at hy; subst hy
      rw [ex_false hnb (by omega), if_neg (by decide), inner_bind hg hnb hk32 hxm]]
    rfl
  · rw [memP_37 hn hk]
    rcases mast_kids hg hn hk with ⟨a, hka, -, hax⟩ | ⟨a, b, hka, -, hax, hbx⟩
    · rw [inner_ek hg.fit hn (by rw [hka]; intro x hx; rw [List.mem_singleton] at hx; subst hx; exact hax), hka]; rfl
    · rw [inner_ek hg.fit hn (by rw [hka]; intro x hx; simp at hx; rcases hx with rfl | rfl <;> assumption), hka]; rfl
/-- Two lists of each, one behind the other: in another order all of the first ones, all of the second ones. -/
theorem perm_two {α β : Type} (f g : α → List β) : ∀ l : List α, (l.flatMap f ++ l.flatMap g).Perm (l.flatMap fun x => f x ++ g x)
  | [] => by simp
  | a :: l => by
    simp only [List.flatMap_cons]
    have h := perm_two f g l
    have h1 : (f a ++ l.flatMap f ++ (g a ++ l.flatMap g)).Perm (f a ++ (g a ++ (l.flatMap f ++ l.flatMap g))) := by
      rw [List.append_assoc]
      refine List.Perm.append_left _ ?_
      rw [← List.append_assoc, ← List.append_assoc]
      exact List.Perm.append_right _ List.perm_append_comm
    refine h1.trans ?_
    rw [List.append_assoc]
    exact List.Perm.append_left _ (List.Perm.append_left _ h)
/-- The places that an object's cells tell. -/
def objP (ns : List Nd) (ks : List Nat) : List Nat := (ks.flatMap fun k => (memP ns k).1.toList) ++ ks.flatMap fun k => (memP ns k).2.1 :: (memP ns k).2.2.toList
theorem objP_perm {ns : List Nd} (hg : Good ns) {i : Nat} {n : Nd} (hn : ns[i]? = some n) (ha : Kd ns [35, 36, 37] (kids ns i)) (hp : ∀ k ∈ kids ns i, Plain ns k) : (objP ns (kids ns i)).Perm (inner ns i) := by
  rw [inner_of hg.fit hn rfl (f := fun k => (memP ns k).1.toList ++ (memP ns k).2.1 :: (memP ns k).2.2.toList) fun k hk => by
    obtain ⟨nk, h1, h2⟩ := ha k hk
    have h2 : nk.k = 35 ∨ nk.k = 36 ∨ nk.k = 37 := by simpa using h2
    rw [ex_false h1 (by omega), if_neg (by decide), inner_mem_of hg h1 h2 (hp k hk)]; rfl]
  exact perm_two _ _ _
theorem objP_vals (ns : List Nd) (cs : Pl) (ks : List Nat) : (objP ns ks).map (fun p => cv (cs p)) = fld1 (ks.map fun k => memV cs (memP ns k)) ++ fld2 (ks.map fun k => memV cs (memP ns k)) := by
  unfold objP
  rw [List.map_append]
  congr 1
  · induction ks with
    | nil => rfl
    | cons a ks ih =>
      rw [List.flatMap_cons, List.map_append, ih]
      show _ = (memV cs (memP ns a)).1.toList ++ fld1 (ks.map fun k => memV cs (memP ns k))
      congr 1
      unfold memV
      cases (memP ns a).1 <;> rfl
  · induction ks with
    | nil => rfl
    | cons a ks ih =>
      rw [List.flatMap_cons, List.map_append, ih]
      show _ = ((memV cs (memP ns a)).2.1 :: (memV cs (memP ns a)).2.2.toList) ++ fld2 (ks.map fun k => memV cs (memP ns k))
      congr 1
      unfold memV
      cases (memP ns a).2.2 <;> rfl
end Go.Proofs.Ytincgkolpicipaa.kin

/- FnChildren: builder.field by contract: str; builder.field by contract: str, with params. -/
import Derived.Test.YtincgkolpicipaaC10
set_option linter.unusedVariables false
set_option linter.unusedSimpArgs false
namespace Go.Proofs.Ytincgkolpicipaa.kin
open Go.RowKit
open Go.Proofs.Ytincgkolpicipaa.stack (step_after Chg owns_chg owns_form)
set_option maxRecDepth 100000 in
set_option maxHeartbeats 8000000 in
theorem field_str {e : Env} (hg : Good e.ns) (hL : e.ns.length ≤ 400) (b : Nat) (hnb : NodeC e b) (hs : Sep e.ns [b]) (w : World) (cs : Pl) (U : Nat → Prop) (hst : St e w cs U) (hfr : Free e.ns cs [b]) (B : Nat) (hB : e.N < B) (v : Value) (hp : Plc B w v [b]) (k o m z : Int) (t : ByteArray) (ho : o = 0 ∨ o = 1 ∨ o = 2) (q1 : bits BinOp.andNot IntKind.i64 m 12 = 1) (q2 : bits BinOp.and IntKind.i64 m 8 = 0) (ss : Bool) (q3 : (bits BinOp.and IntKind.i64 m 4 != 0) = ss) :
    Calls Try.prog 112 #[.pointer (some ⟨e.b, 0, none⟩), .agg #[.int .i64 k, .int .i64 o, .string t, .int .i64 m, .int .i64 z], v] w (FieldR e w cs U [b] (fun _ _ => True)) := by
  have hfrom := hp
  have hfb := hfr
  obtain ⟨p, po, pc, rfl, hpc, hlen, hBp, hpw, -⟩ := hp.at (j := 0) (k := b) rfl
  have hcb : w.cell? ⟨p, po, none⟩ = some (.int .i64 b) := by
    obtain ⟨q, qo, qc, hv, -, -, -, -, h⟩ := hfrom.at (j := 0) (k := b) rfl
    injection hv with h1 h2 h3
    injection h1 with h1
    cases h1
    simpa using h
  have HCB := Lib.hid hcb
  clear hcb
  have HO := Lib.hid (hides_ok o ho)
  have HN := Lib.hid hst.nlt
  have HU := Lib.hid hst.lt
  have HFROM := Lib.hid hfrom
  have HFB := Lib.hid hfb
  have HNB := Lib.hid hnb
  have HG := Lib.hid hg
  have HL := Lib.hid hL
  have HST := Lib.hid hst
  have hpN : ¬ p = e.N := by omega
  have HPN := Lib.hid hpN
  have HB0 := Lib.hid hB
  have HPW := Lib.hid hpw
  have HAP := Lib.hid (show Apt e.ns [] [b] from fun a h => by simp at h)
  have HSB := Lib.hid hs
  clear hp hnb hst hfr hg hL ho hB hs hfrom hfb hpN hBp hpw hlen hpc
  go_enter Try.func112, Try.ntmps112
  go_upto_region 9 with (go_at_call 103; refine (HO.out _).mono ?_; rintro r w1 ⟨⟨y, rfl⟩, rfl⟩)
  have h4 := three_allocs w (.cells #[.int .i64 k, .int .i64 o, .string t, .int .i64 m, .int .i64 z] 37) (.cells #[.pointer none, .pointer none, .slice none 0 0, .slice none 0 0, .slice none 0 0, .slice none 0 0, .nilIface, .nilIface, .nilIface, .pointer none, .string ⟨#[]⟩, .int .i64 0, .int .i64 0, .int .i64 0, .int .i64 0, .int .i64 0, .int .i64 0, .bool false] 254) (.cells #[.pointer none, .pointer none, .slice none 0 0, .slice none 0 0, .slice none 0 0, .slice none 0 0, .nilIface, .nilIface, .nilIface, .pointer none, .string ⟨#[]⟩, .int .i64 0, .int .i64 0, .int .i64 0, .int .i64 0, .int .i64 0, .int .i64 y, .bool ss] 254)
  generalize (((w.alloc (.cells #[.int .i64 k, .int .i64 o, .string t, .int .i64 m, .int .i64 z] 37)).alloc (.cells #[.pointer none, .pointer none, .slice none 0 0, .slice none 0 0, .slice none 0 0, .slice none 0 0, .nilIface, .nilIface, .nilIface, .pointer none, .string ⟨#[]⟩, .int .i64 0, .int .i64 0, .int .i64 0, .int .i64 0, .int .i64 0, .int .i64 0, .bool false] 254)).alloc (.cells #[.pointer none, .pointer none, .slice none 0 0, .slice none 0 0, .slice none 0 0, .slice none 0 0, .nilIface, .nilIface, .nilIface, .pointer none, .string ⟨#[]⟩, .int .i64 0, .int .i64 0, .int .i64 0, .int .i64 0, .int .i64 0, .int .i64 y, .bool ss] 254)) = W0 at h4 ⊢
  obtain ⟨hb, hB0, hR, hF⟩ := h4
  have HB1 := Lib.hid hb
  have HBX := Lib.hid hB0
  have HR0 := Lib.hid hR
  have HF0 := Lib.hid hF
  have NF := Lib.hid (show w.heap.size + 1 + 1 ≠ e.N by have := HN.out; omega)
  have NR := Lib.hid (show w.heap.size + 1 ≠ e.N by have := HN.out; omega)
  have NB := Lib.hid (show w.heap.size ≠ e.N by have := HN.out; omega)
  have hbx2 := (row_parts hB0).1 2
  have HSA := Lib.hid (str_any e.b t W0 (HST.out.later hb).base.c1)
  clear hb hB0 hR hF
  go_upto_region 14 with (go_at_call 95; refine HSA.out.mono ?_; rintro r w1 ⟨CA, rfl, hCA1, hCA2, hbs⟩; have hv := row_parts (hkeep hbs HF0.out); obtain ⟨hv1, hv2⟩ := hv; have HBS := Lib.hid hbs; clear hbs hCA1 hCA2)
  clear hv1 hv2 hbx2
  have hch0 : Chg (· = e.N) w w1 := Chg.below (step_after HB1.out HBS.out)
  have hR0 := hkeep HBS.out HR0.out
  have hF0 := hkeep HBS.out HF0.out
  have hB0 := hkeep HBS.out HBX.out
  have hd0 := Done.none HST.out (step_after HB1.out HBS.out)
  have HUB := Lib.hid (show ∀ B, U B → B < w.heap.size from HU.out)
  have hUF : ¬ U (w.heap.size + 1 + 1) := fun h => by have := HUB.out _ h; omega
  have hR1 := (chg_one (w.heap.size + 1 + 1) _ 6 (.iface 191 (.pointer (some ⟨CA, 0, none⟩)))).keep ((chg_one (w.heap.size + 1 + 1) w1 15 (.int .i64 3)).keep hR0 (show ¬ w.heap.size + 1 = w.heap.size + 1 + 1 by omega)) (show ¬ w.heap.size + 1 = w.heap.size + 1 + 1 by omega)
  have hB1 := (chg_one (w.heap.size + 1 + 1) _ 6 (.iface 191 (.pointer (some ⟨CA, 0, none⟩)))).keep ((chg_one (w.heap.size + 1 + 1) w1 15 (.int .i64 3)).keep hB0 (show ¬ w.heap.size = w.heap.size + 1 + 1 by omega)) (show ¬ w.heap.size = w.heap.size + 1 + 1 by omega)
  have hF1 := blk_set (blk_set hF0 15 (.int .i64 3)) 6 (.iface 191 (.pointer (some ⟨CA, 0, none⟩)))
  simp only [List.setIfInBounds_toArray, List.set_cons_zero, List.set_cons_succ] at hF1
  have HD1 := Lib.hid (done_setIn (done_setIn hd0 (by omega) hUF NF.out 15 (.int .i64 3)) (by omega) hUF NF.out 6 (.iface 191 (.pointer (some ⟨CA, 0, none⟩))))
  have hbx3 := (row_parts hB1).1 3
  generalize World.setCell (World.setCell w1 ⟨w.heap.size + 1 + 1, 15, none⟩ (.int .i64 3)) ⟨w.heap.size + 1 + 1, 6, none⟩ (.iface 191 (.pointer (some ⟨CA, 0, none⟩))) = W1 at hR1 hF1 HD1 hbx3 ⊢
  clear hR0 hF0 hB0 hB1 hd0 hUF hch0
  have HR := Lib.hid hR1
  have HF := Lib.hid hF1
  have cB := HD1.out.chg.cell HCB.out HPN.out
  have HNX := Lib.hid (HNB.out.nx HG.out.fit HFB.out HAP.out W1 cs U HD1.out)
  clear hR1 hF1
  go_upto_region 19 with (go_at_call 55; refine HNX.out.mono ?_; rintro r w2 ⟨cs2, U2, T, C, rfl, hcj, hke, hd2, hd1⟩; have hv := row_parts (hd1.chg.keep HF.out NF.out); obtain ⟨hv1, hv2⟩ := hv; have HCJ := Lib.hid hcj; have HKE := Lib.hid hke; have HD2 := Lib.hid hd2; have HDI := Lib.hid hd1; clear hcj hd2 hd1 hke)
  try clear hv1 hv2
  have hU1 : ¬ U2 (w.heap.size + 1 + 1) := HDI.out.apart (Array.getElem?_eq_some_iff.1 HF.out).1 (fun h => by have := HUB.out _ h; omega)
  have hU2 : ¬ U2 (w.heap.size + 1) := HDI.out.apart (Array.getElem?_eq_some_iff.1 HR.out).1 (fun h => by have := HUB.out _ h; omega)
  have hRb := (chg_one (w.heap.size + 1 + 1) _ 7 (.iface T (.pointer (some ⟨C, 0, none⟩)))).keep (HDI.out.chg.keep HR.out NR.out) (show ¬ w.heap.size + 1 = w.heap.size + 1 + 1 by omega)
  have hFb := blk_set (HDI.out.chg.keep HF.out NF.out) 7 (.iface T (.pointer (some ⟨C, 0, none⟩)))
  simp only [List.setIfInBounds_toArray, List.set_cons_zero, List.set_cons_succ] at hFb
  have HD3 := Lib.hid (done_setIn HD2.out (by omega) hU1 NF.out 7 (.iface T (.pointer (some ⟨C, 0, none⟩))))
  have HU2 := Lib.hid hU2
  clear hU1 hU2 cB hbx3
  generalize World.setCell w2 ⟨w.heap.size + 1 + 1, 7, none⟩ (.iface T (.pointer (some ⟨C, 0, none⟩))) = W3 at hRb hFb HD3 ⊢
  obtain ⟨L, hL⟩ : ∃ L : List Value, L = [.pointer none, .pointer none, .slice none 0 0, .slice none 0 0, .slice none 0 0, .slice none 0 0, .iface 191 (.pointer (some ⟨CA, 0, none⟩)), .iface T (.pointer (some ⟨C, 0, none⟩)), .nilIface, .pointer none, .string ⟨#[]⟩, .int .i64 0, .int .i64 0, .int .i64 0, .int .i64 0, .int .i64 3, .int .i64 y, .bool ss] := ⟨_, rfl⟩
  rw [← hL] at hFb
  have hone : ∀ u ∈ L, u.oneCell' = true := by rw [hL]; simp [Value.oneCell']
  have hLen : L.length = 18 := by rw [hL]; rfl
  obtain ⟨hr1, hsto, hr2, hchg⟩ := whole_copy hFb hRb (by rw [hLen]; rfl) hone
  have RG := Lib.hid hr1
  have HLL := Lib.hid hLen
  have HON := Lib.hid hone
  have HLV := Lib.hid hL
  have HD4 := Lib.hid (HD3.out.step hchg fun B hB => by subst hB; exact ⟨by omega, HU2.out, NR.out⟩)
  have hlv := run_loadVar_mid (P := Try.prog) (W3.setCells (w.heap.size + 1) 0 L) (w.heap.size + 1) 0 254 L _ hr2 Try.underlying254 rfl (by rw [hLen]; exact Try.size254)
  generalize W3.setCells (w.heap.size + 1) 0 L = W4 at hsto hlv HD4
  clear hr1 hr2 hchg hRb hFb hone hL
  go_wp2_with (refine wpList_load_mid (hgd := rfl) (ty := 254) (x := .tmp 9) (ho := rfl) (b := w.heap.size + 1 + 1) (o := 0) (hx := by first | rfl | simp) (cs := L) (d := _) (hc := RG.out) (hu := Try.underlying254) (hd := rfl) (hi := by rw [HLL.out]; exact Try.size254) (h := ?_))
  refine bodyPost_ret (v := .agg L.toArray) ?_ rfl ?_
  · simp [results, Try.results112, asAddr, hlv]
  · exact ⟨cs2, U2, L, rfl, HLL.out, HON.out, HD4.out, trivial⟩
end Go.Proofs.Ytincgkolpicipaa.kin
namespace Go.Proofs.Ytincgkolpicipaa.kin
open Go.RowKit
open Go.Proofs.Ytincgkolpicipaa.stack (step_after Chg owns_chg owns_form)
set_option maxRecDepth 100000 in
set_option maxHeartbeats 8000000 in
theorem field_str_m {e : Env} (hg : Good e.ns) (hL : e.ns.length ≤ 400) (ps : List Nat) (b : Nat) (hpar : Kd e.ns [33] ps) (hno : ∀ p ∈ ps, ∀ a ∈ kids e.ns p, NodeC e a) (hbe : Ex e.ns b) (hnb : NodeC e b) (hs : Sep e.ns (ps ++ [b])) (w : World) (cs : Pl) (U : Nat → Prop) (hst : St e w cs U) (hfr : Free e.ns cs (ps ++ [b])) (B : Nat) (hB : e.N < B) (v : Value) (hp : Plc B w v (ps ++ [b])) (k o m z : Int) (t : ByteArray) (ho : o = 0 ∨ o = 1 ∨ o = 2) (q1 : bits BinOp.andNot IntKind.i64 m 12 = 1) (q2 : bits BinOp.and IntKind.i64 m 8 = 8) (ss : Bool) (q3 : (bits BinOp.and IntKind.i64 m 4 != 0) = ss) :
    Calls Try.prog 112 #[.pointer (some ⟨e.b, 0, none⟩), .agg #[.int .i64 k, .int .i64 o, .string t, .int .i64 m, .int .i64 z], v] w (FieldR e w cs U (ps ++ [b]) (fun _ _ => True)) := by
  have hfrom := hp
  have hfb := hfr
  obtain ⟨p, po, pc, rfl, hpc, hlen, hBp, hpw, -⟩ := hp.at (j := ps.length) (k := b) (by rw [List.getElem?_append_right (Nat.le_refl _)]; simp)
  have HO := Lib.hid (hides_ok o ho)
  have HN := Lib.hid hst.nlt
  have HU := Lib.hid hst.lt
  have HFROM := Lib.hid hfrom
  have HFB := Lib.hid hfb
  have HNB := Lib.hid hnb
  have HG := Lib.hid hg
  have HL := Lib.hid hL
  have HST := Lib.hid hst
  have hpN : ¬ p = e.N := by omega
  have HPN := Lib.hid hpN
  have HB0 := Lib.hid hB
  have HPW := Lib.hid hpw
  have HAP := Lib.hid (show Apt e.ns [] (ps ++ [b]) from fun a h => by simp at h)
  have HSB := Lib.hid hs
  have HPAR := Lib.hid hpar
  have HNO := Lib.hid hno
  have HBE := Lib.hid hbe
  clear hp hnb hst hfr hg hL ho hB hs hfrom hfb hpN hBp hpw hlen hpar hno hbe
  simp only [List.length_append, List.length_cons, List.length_nil, Nat.zero_add] at hpc ⊢
  generalize hml : ps.length = pl at hpc ⊢
  have HML := Lib.hid hml
  clear hml
  have hl0 : (((pl + 1 : Nat) : Int) == 0) = false := by simp; omega
  go_enter Try.func112, Try.ntmps112
  go_upto_region 9 with (go_at_call 103; refine (HO.out _).mono ?_; rintro r w1 ⟨⟨y, rfl⟩, rfl⟩)
  have h4 := three_allocs w (.cells #[.int .i64 k, .int .i64 o, .string t, .int .i64 m, .int .i64 z] 37) (.cells #[.pointer none, .pointer none, .slice none 0 0, .slice none 0 0, .slice none 0 0, .slice none 0 0, .nilIface, .nilIface, .nilIface, .pointer none, .string ⟨#[]⟩, .int .i64 0, .int .i64 0, .int .i64 0, .int .i64 0, .int .i64 0, .int .i64 0, .bool false] 254) (.cells #[.pointer none, .pointer none, .slice none 0 0, .slice none 0 0, .slice none 0 0, .slice none 0 0, .nilIface, .nilIface, .nilIface, .pointer none, .string ⟨#[]⟩, .int .i64 0, .int .i64 0, .int .i64 0, .int .i64 0, .int .i64 0, .int .i64 y, .bool ss] 254)
  generalize (((w.alloc (.cells #[.int .i64 k, .int .i64 o, .string t, .int .i64 m, .int .i64 z] 37)).alloc (.cells #[.pointer none, .pointer none, .slice none 0 0, .slice none 0 0, .slice none 0 0, .slice none 0 0, .nilIface, .nilIface, .nilIface, .pointer none, .string ⟨#[]⟩, .int .i64 0, .int .i64 0, .int .i64 0, .int .i64 0, .int .i64 0, .int .i64 0, .bool false] 254)).alloc (.cells #[.pointer none, .pointer none, .slice none 0 0, .slice none 0 0, .slice none 0 0, .slice none 0 0, .nilIface, .nilIface, .nilIface, .pointer none, .string ⟨#[]⟩, .int .i64 0, .int .i64 0, .int .i64 0, .int .i64 0, .int .i64 0, .int .i64 y, .bool ss] 254)) = W0 at h4 ⊢
  obtain ⟨hb, hB0, hR, hF⟩ := h4
  have HB1 := Lib.hid hb
  have HBX := Lib.hid hB0
  have HR0 := Lib.hid hR
  have HF0 := Lib.hid hF
  have NF := Lib.hid (show w.heap.size + 1 + 1 ≠ e.N by have := HN.out; omega)
  have NR := Lib.hid (show w.heap.size + 1 ≠ e.N by have := HN.out; omega)
  have NB := Lib.hid (show w.heap.size ≠ e.N by have := HN.out; omega)
  have hbx2 := (row_parts hB0).1 2
  have HSA := Lib.hid (str_any e.b t W0 (HST.out.later hb).base.c1)
  clear hb hB0 hR hF
  go_upto_region 14 with (go_at_call 95; refine HSA.out.mono ?_; rintro r w1 ⟨CA, rfl, hCA1, hCA2, hbs⟩; have hv := row_parts (hkeep hbs HF0.out); obtain ⟨hv1, hv2⟩ := hv; have HBS := Lib.hid hbs; clear hbs hCA1 hCA2)
  clear hv1 hv2 hbx2
  have hch0 : Chg (· = e.N) w w1 := Chg.below (step_after HB1.out HBS.out)
  have hR0 := hkeep HBS.out HR0.out
  have hF0 := hkeep HBS.out HF0.out
  have hB0 := hkeep HBS.out HBX.out
  have hd0 := Done.none HST.out (step_after HB1.out HBS.out)
  have HUB := Lib.hid (show ∀ B, U B → B < w.heap.size from HU.out)
  have hUF : ¬ U (w.heap.size + 1 + 1) := fun h => by have := HUB.out _ h; omega
  have hR1 := (chg_one (w.heap.size + 1 + 1) _ 6 (.iface 191 (.pointer (some ⟨CA, 0, none⟩)))).keep ((chg_one (w.heap.size + 1 + 1) w1 15 (.int .i64 3)).keep hR0 (show ¬ w.heap.size + 1 = w.heap.size + 1 + 1 by omega)) (show ¬ w.heap.size + 1 = w.heap.size + 1 + 1 by omega)
  have hB1 := (chg_one (w.heap.size + 1 + 1) _ 6 (.iface 191 (.pointer (some ⟨CA, 0, none⟩)))).keep ((chg_one (w.heap.size + 1 + 1) w1 15 (.int .i64 3)).keep hB0 (show ¬ w.heap.size = w.heap.size + 1 + 1 by omega)) (show ¬ w.heap.size = w.heap.size + 1 + 1 by omega)
  have hF1 := blk_set (blk_set hF0 15 (.int .i64 3)) 6 (.iface 191 (.pointer (some ⟨CA, 0, none⟩)))
  simp only [List.setIfInBounds_toArray, List.set_cons_zero, List.set_cons_succ] at hF1
  have HD1 := Lib.hid (done_setIn (done_setIn hd0 (by omega) hUF NF.out 15 (.int .i64 3)) (by omega) hUF NF.out 6 (.iface 191 (.pointer (some ⟨CA, 0, none⟩))))
  have hbx3 := (row_parts hB1).1 3
  generalize World.setCell (World.setCell w1 ⟨w.heap.size + 1 + 1, 15, none⟩ (.int .i64 3)) ⟨w.heap.size + 1 + 1, 6, none⟩ (.iface 191 (.pointer (some ⟨CA, 0, none⟩))) = W1 at hR1 hF1 HD1 hbx3 ⊢
  clear hR0 hF0 hB0 hB1 hd0 hUF hch0
  have HR := Lib.hid hR1
  have HF := Lib.hid hF1
  have HFN := Lib.hid (show Calls Try.prog 99 #[.pointer (some ⟨e.b, 0, none⟩), .slice (some ⟨p, po, none⟩) (pl + 1) pc] W1 (FnRes e W1 cs U ps b) from by
    have h1 := function_does HG.out HL.out ps b HPAR.out HNO.out HNB.out HSB.out W1 cs U HD1.out.st (HD1.out.free HAP.out HFB.out) B HB0.out _ (HFROM.out.chg HD1.out.chg fun q hq hx => by have := HB0.out; omega)
    simp only [List.length_append, List.length_cons, List.length_nil, Nat.zero_add, HML.out] at h1
    exact h1)
  clear hR1 hF1
  go_upto_region 19 with (go_at_call 99; refine HFN.out.mono ?_; rintro r w2 ⟨cs2, U2, O, vP, rfl, hd1, hO1, hO2, hO3, hO4, -, -⟩; have hv := row_parts (hd1.chg.keep HF.out NF.out); obtain ⟨hv1, hv2⟩ := hv; obtain ⟨⟨T, C⟩, hcb⟩ := Option.ne_none_iff_exists'.1 (hd1.ex b (Rs.mem HG.out.fit (List.mem_append.2 (.inr (by simp)))) HBE.out); rw [hcb] at hO4; have hneO : ¬ O = w.heap.size + 1 + 1 := (by have := (Array.getElem?_eq_some_iff.1 HF.out).1; omega); have hneP : ¬ w.heap.size + 1 + 1 = O := (by omega); simp only [cv] at hO4; have HDI := Lib.hid hd1; clear hcb hd1 hO1 hO2 hO3)
  try clear hv1 hv2
  try clear hO4
  have hU1 : ¬ U2 (w.heap.size + 1 + 1) := HDI.out.apart (Array.getElem?_eq_some_iff.1 HF.out).1 (fun h => by have := HUB.out _ h; omega)
  have hU2 : ¬ U2 (w.heap.size + 1) := HDI.out.apart (Array.getElem?_eq_some_iff.1 HR.out).1 (fun h => by have := HUB.out _ h; omega)
  have hRb := (chg_one (w.heap.size + 1 + 1) _ 7 (.iface T (.pointer (some ⟨C, 0, none⟩)))).keep ((chg_one (w.heap.size + 1 + 1) _ 0 (.pointer (some ⟨O, 0, none⟩))).keep (HDI.out.chg.keep HR.out NR.out) (show ¬ w.heap.size + 1 = w.heap.size + 1 + 1 by omega)) (show ¬ w.heap.size + 1 = w.heap.size + 1 + 1 by omega)
  have hFb := blk_set (blk_set (HDI.out.chg.keep HF.out NF.out) 0 (.pointer (some ⟨O, 0, none⟩))) 7 (.iface T (.pointer (some ⟨C, 0, none⟩)))
  simp only [List.setIfInBounds_toArray, List.set_cons_zero, List.set_cons_succ] at hFb
  have HD3 := Lib.hid (done_setIn (done_setIn (HD1.out.app HDI.out HAP.out) (by omega) hU1 NF.out 0 (.pointer (some ⟨O, 0, none⟩))) (by omega) hU1 NF.out 7 (.iface T (.pointer (some ⟨C, 0, none⟩))))
  have HU2 := Lib.hid hU2
  clear hU1 hU2 hbx3 hneO hneP
  generalize World.setCell (World.setCell w2 ⟨w.heap.size + 1 + 1, 0, none⟩ (.pointer (some ⟨O, 0, none⟩))) ⟨w.heap.size + 1 + 1, 7, none⟩ (.iface T (.pointer (some ⟨C, 0, none⟩))) = W3 at hRb hFb HD3 ⊢
  obtain ⟨L, hL⟩ : ∃ L : List Value, L = [.pointer (some ⟨O, 0, none⟩), .pointer none, .slice none 0 0, .slice none 0 0, .slice none 0 0, .slice none 0 0, .iface 191 (.pointer (some ⟨CA, 0, none⟩)), .iface T (.pointer (some ⟨C, 0, none⟩)), .nilIface, .pointer none, .string ⟨#[]⟩, .int .i64 0, .int .i64 0, .int .i64 0, .int .i64 0, .int .i64 3, .int .i64 y, .bool ss] := ⟨_, rfl⟩
  rw [← hL] at hFb
  have hone : ∀ u ∈ L, u.oneCell' = true := by rw [hL]; simp [Value.oneCell']
  have hLen : L.length = 18 := by rw [hL]; rfl
  obtain ⟨hr1, hsto, hr2, hchg⟩ := whole_copy hFb hRb (by rw [hLen]; rfl) hone
  have RG := Lib.hid hr1
  have HLL := Lib.hid hLen
  have HON := Lib.hid hone
  have HLV := Lib.hid hL
  have HD4 := Lib.hid (HD3.out.step hchg fun B hB => by subst hB; exact ⟨by omega, HU2.out, NR.out⟩)
  have hlv := run_loadVar_mid (P := Try.prog) (W3.setCells (w.heap.size + 1) 0 L) (w.heap.size + 1) 0 254 L _ hr2 Try.underlying254 rfl (by rw [hLen]; exact Try.size254)
  generalize W3.setCells (w.heap.size + 1) 0 L = W4 at hsto hlv HD4
  clear hr1 hr2 hchg hRb hFb hone hL
  go_wp2_with (refine wpList_load_mid (hgd := rfl) (ty := 254) (x := .tmp 9) (ho := rfl) (b := w.heap.size + 1 + 1) (o := 0) (hx := by first | rfl | simp) (cs := L) (d := _) (hc := RG.out) (hu := Try.underlying254) (hd := rfl) (hi := by rw [HLL.out]; exact Try.size254) (h := ?_))
  refine bodyPost_ret (v := .agg L.toArray) ?_ rfl ?_
  · simp [results, Try.results112, asAddr, hlv]
  · exact ⟨cs2, U2, L, rfl, HLL.out, HON.out, HD4.out, trivial⟩
end Go.Proofs.Ytincgkolpicipaa.kin

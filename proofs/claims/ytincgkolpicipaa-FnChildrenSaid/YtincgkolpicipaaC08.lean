/- FnChildren: builder.bind by contract; builder.binds by contract; builder.arguments by contract. -/
import Derived.Test.YtincgkolpicipaaC07
set_option linter.unusedVariables false
set_option linter.unusedSimpArgs false
namespace Go.Proofs.Ytincgkolpicipaa.kin
open Go.RowKit
open Go.Proofs.Ytincgkolpicipaa.stack (step_after Chg owns_chg owns_form)
def biCells (t : ByteArray) (x f : Value) : Array Value := #[.slice none 0 0, x, .slice none 0 0, .string t, .slice none 0 0, f, .pointer none, .string ⟨#[]⟩, .int .i64 0, .int .i64 0, .int .i64 0, .int .i64 0]
/-- What builder.bind tells: the name, the body, the function or none. -/
def BindRes (e : Env) (w : World) (cs : Pl) (U : Nat → Prop) (j bd : Nat) (t : ByteArray) (m : Int) (r : Ending) (w' : World) : Prop :=
  ∃ (cs' : Pl) (U' : Nat → Prop) (f : Option Addr), r = .returned (.agg (biCells t (cv (cs' bd)) (.pointer f))) ∧ (m = 0 → f = none) ∧ Done e (Rs e.ns [j]) w w' cs cs' U U'
/-- The kids of a bind: the params, and the body. -/
theorem bind_kids {ns : List Nd} (hg : Good ns) {k : Nat} {n : Nd} (hn : ns[k]? = some n) (hk : n.k = 32) : ∃ ps b, kids ns k = ps ++ [b] ∧ Ex ns b ∧ Kd ns [33] ps ∧ (n.m = 0 ∧ ps = [] ∨ n.m = 1) := by
  have hs := hg.shp k n hn
  generalize kids ns k = ks at hs
  cases hs with
  | bind0 h hm hb => exact ⟨[], _, rfl, hb, fun _ h => by simp at h, .inl ⟨hm, rfl⟩⟩
  | bindf h hm hp hb => exact ⟨_, _, rfl, hb, hp, .inr hm⟩
  | _ => exfalso; omega
/-- Twelve stores: the block. -/

theorem set12 (W : World) (R : Nat) (T : TypeId) (a0 a1 a2 a3 a4 a5 a6 a7 a8 a9 a10 a11 : Value) (h : W.heap[R]? = some (.cells #[a0, a1, a2, a3, a4, a5, a6, a7, a8, a9, a10, a11] T (0, 0))) (v0 v1 v2 v3 v4 v5 v6 v7 v8 v9 v10 v11 : Value) :
    ((((((((((((W.setCell ⟨R, 0, none⟩ v0).setCell ⟨R, 1, none⟩ v1).setCell ⟨R, 2, none⟩ v2).setCell ⟨R, 3, none⟩ v3).setCell ⟨R, 4, none⟩ v4).setCell ⟨R, 5, none⟩ v5).setCell ⟨R, 6, none⟩ v6).setCell ⟨R, 7, none⟩ v7).setCell ⟨R, 8, none⟩ v8).setCell ⟨R, 9, none⟩ v9).setCell ⟨R, 10, none⟩ v10).setCell ⟨R, 11, none⟩ v11).heap[R]? = some (.cells #[v0, v1, v2, v3, v4, v5, v6, v7, v8, v9, v10, v11] T (0, 0)) ∧ Chg (· = R) W ((((((((((((W.setCell ⟨R, 0, none⟩ v0).setCell ⟨R, 1, none⟩ v1).setCell ⟨R, 2, none⟩ v2).setCell ⟨R, 3, none⟩ v3).setCell ⟨R, 4, none⟩ v4).setCell ⟨R, 5, none⟩ v5).setCell ⟨R, 6, none⟩ v6).setCell ⟨R, 7, none⟩ v7).setCell ⟨R, 8, none⟩ v8).setCell ⟨R, 9, none⟩ v9).setCell ⟨R, 10, none⟩ v10).setCell ⟨R, 11, none⟩ v11) := by
  refine ⟨?_, ?_⟩
  · have h1 := blk_set (blk_set (blk_set (blk_set (blk_set (blk_set (blk_set (blk_set (blk_set (blk_set (blk_set (blk_set h 0 v0) 1 v1) 2 v2) 3 v3) 4 v4) 5 v5) 6 v6) 7 v7) 8 v8) 9 v9) 10 v10) 11 v11
    rw [h1]
    simp only [List.setIfInBounds_toArray, List.set_cons_zero, List.set_cons_succ]
  · have hc : ∀ (W : World) (j : Nat) (u : Value), Chg (· = R) W (W.setCell ⟨R, j, none⟩ u) := fun W j u => Chg.setCell (X := (· = R)) (p := ⟨R, j, none⟩) (Chg.refl _ W) (fun _ => rfl) u
    exact (((((((((((hc W 0 v0).trans (hc _ 1 v1)).trans (hc _ 2 v2)).trans (hc _ 3 v3)).trans (hc _ 4 v4)).trans (hc _ 5 v5)).trans (hc _ 6 v6)).trans (hc _ 7 v7)).trans (hc _ 8 v8)).trans (hc _ 9 v9)).trans (hc _ 10 v10)).trans (hc _ 11 v11)
set_option maxRecDepth 100000 in
set_option maxHeartbeats 8000000 in
theorem bind_does {e : Env} (hg : Good e.ns) (hL : e.ns.length ≤ 400) (j : Nat) (ps : List Nat) (bd : Nat) (o0 m0 z0 : Int) (t0 : ByteArray) (hn : e.ns[j]? = some ⟨32, o0, t0, m0, z0⟩) (hk : kids e.ns j = ps ++ [bd]) (hpar : Kd e.ns [33] ps) (hm : m0 = 0 ∧ ps = [] ∨ m0 = 1) (hno : ∀ p ∈ ps, ∀ a ∈ kids e.ns p, NodeC e a) (hnb : NodeC e bd) (hbe : Ex e.ns bd) (w : World) (cs : Pl) (U : Nat → Prop) (hst : St e w cs U) (hfr : Free e.ns cs [j]) :
    Calls Try.prog 104 #[.pointer (some ⟨e.b, 0, none⟩), .int .i64 j] w (BindRes e w cs U j bd t0 m0) := by
  have hjl : (j : Int) < (e.ns.length : Int) := by have := (List.getElem?_eq_some_iff.1 hn).1; omega
  have HD0 := Lib.hid (Done.none hst ((Below.refl w.heap.size w).alloc (Nat.le_refl _) (.cells #[.slice none 0 0, .nilIface, .slice none 0 0, .string ⟨#[]⟩, .slice none 0 0, .pointer none, .pointer none, .string ⟨#[]⟩, .int .i64 0, .int .i64 0, .int .i64 0, .int .i64 0] 241)))
  have HBW0 := Lib.hid ((Below.refl w.heap.size w).alloc (Nat.le_refl _) (.cells #[.slice none 0 0, .nilIface, .slice none 0 0, .string ⟨#[]⟩, .slice none 0 0, .pointer none, .pointer none, .string ⟨#[]⟩, .int .i64 0, .int .i64 0, .int .i64 0, .int .i64 0] 241))
  have HR0 := Lib.hid (heap_alloc_new w (.cells #[.slice none 0 0, .nilIface, .slice none 0 0, .string ⟨#[]⟩, .slice none 0 0, .pointer none, .pointer none, .string ⟨#[]⟩, .int .i64 0, .int .i64 0, .int .i64 0, .int .i64 0] 241))
  have HG := Lib.hid hg
  have HL := Lib.hid hL
  have HKJ := Lib.hid hk
  have HPAR := Lib.hid hpar
  have HM := Lib.hid hm
  have HNO := Lib.hid hno
  have HNB := Lib.hid hnb
  have HFR := Lib.hid hfr
  have HN := Lib.hid hst.nlt
  have HBE := Lib.hid hbe
  have HUR := Lib.hid (show ¬ U w.heap.size from fun h => absurd (hst.lt _ h) (Nat.lt_irrefl _))
  clear hg hL hk hpar hm hno hnb hst hfr hbe
  go_enter Try.func104, Try.ntmps104
  go_upto_region 1 with fail
  generalize (w.alloc (.cells #[.slice none 0 0, .nilIface, .slice none 0 0, .string ⟨#[]⟩, .slice none 0 0, .pointer none, .pointer none, .string ⟨#[]⟩, .int .i64 0, .int .i64 0, .int .i64 0, .int .i64 0] 241)) = wr at HD0 HR0 HBW0 ⊢
  have hbase := HD0.out.st.base
  have S1 := Lib.hid (nodeS hbase hn)
  have HK := Lib.hid (kidsB HL.out HG.out.fit hbase hn)
  have SA := Lib.hid (show ∀ (w' : World) (o1 : Obj), (w'.cell? ⟨e.b, 0, none⟩ = some (.slice (some ⟨e.q, e.o, none⟩) e.ns.length e.cap) ∧ w'.cell? ⟨e.q, e.o + j * 5, none⟩ = some (.int .i64 32) ∧ w'.cell? ⟨e.q, e.o + j * 5 + 1, none⟩ = some (.int .i64 o0) ∧ w'.cell? ⟨e.q, e.o + j * 5 + 2, none⟩ = some (.string t0) ∧ w'.cell? ⟨e.q, e.o + j * 5 + 3, none⟩ = some (.int .i64 m0) ∧ w'.cell? ⟨e.q, e.o + j * 5 + 4, none⟩ = some (.int .i64 z0)) ∧ Below wr.heap.size wr w' → _ from fun w' o1 hh => S1.out (w'.alloc o1) (hh.2.alloc hh.2.size o1))
  have SB := Lib.hid (show ∀ (o1 : Obj), _ from fun o1 => S1.out (wr.alloc o1).drew ((Below.refl _ _).alloc (Nat.le_refl _) o1).drew)
  obtain ⟨⟨e0, n0, n1, n2, n3, n4⟩, -⟩ := S1.out wr (Below.refl _ _)
  have HNJ := Lib.hid hn
  clear hn hbase
  go_cut [5, 6] (fun s8 s9 wx => ∃ P : Nat, s8 = .pointer (some ⟨P, 0, none⟩) ∧ Plc wr.heap.size wx s9 (kids e.ns j) ∧ Box wx P 32 o0 m0 z0 t0 ∧ Below wr.heap.size wr wx)
  case first =>
    go_region_held3 (fun w' => (w'.cell? ⟨e.b, 0, none⟩ = some (.slice (some ⟨e.q, e.o, none⟩) e.ns.length e.cap) ∧ w'.cell? ⟨e.q, e.o + j * 5, none⟩ = some (.int .i64 32) ∧ w'.cell? ⟨e.q, e.o + j * 5 + 1, none⟩ = some (.int .i64 o0) ∧ w'.cell? ⟨e.q, e.o + j * 5 + 2, none⟩ = some (.string t0) ∧ w'.cell? ⟨e.q, e.o + j * 5 + 3, none⟩ = some (.int .i64 m0) ∧ w'.cell? ⟨e.q, e.o + j * 5 + 4, none⟩ = some (.int .i64 z0)) ∧ Below wr.heap.size wr w')
      (first | (with_reducible exact S1.out _ ((Below.refl _ _).drew)) | (with_reducible exact SA.out _ _ (by assumption)) | (with_reducible exact S1.out _ hb) | (with_reducible exact S1.out _ (hb.alloc hzw _)) | (with_reducible exact SB.out _) | (with_reducible exact S1.out _ (((((hb.setCell (by exact Nat.le_refl _) _).setCell (by exact Nat.le_refl _) _).setCell (by exact Nat.le_refl _) _).setCell (by exact Nat.le_refl _) _).setCell (by exact Nat.le_refl _) _)))
      (first | (go_at_call 81; refine (HK.out _ (And.right (by assumption))).mono ?_; rintro e w1 ⟨v, rfl, hkd, hb, hb2, hkd2⟩; have HKD := Lib.hid hkd; have HKD2 := Lib.hid hkd2; clear hkd hkd2; have hzw := hb.size; try (first | (have hv := row_parts (hkeep hb2 (heap_alloc_new wr _)); obtain ⟨hv1, hv2⟩ := hv) | (have hv := row_parts (hkeep hb2 (heap_alloc_new wr.drew _)); obtain ⟨hv1, hv2⟩ := hv))))
    all_goals (go_wp2_with fail; go_meet)
    · exact ⟨w1.heap.size, rfl, HKD.out.later ((Below.refl _ _).alloc (Nat.le_refl _) _), ⟨by simp [World.cell?_alloc_new], by simp [World.cell?_alloc_new], by simp [World.cell?_alloc_new], by simp [World.cell?_alloc_new], by simp [World.cell?_alloc_new]⟩, hb.alloc hzw _⟩
    · exact ⟨wr.heap.size, rfl, ((((((HKD2.out.setCell (by simp) _).setCell (by simp) _).setCell (by simp) _).setCell (by simp) _).setCell (by simp) _).mono (by simp)), by simp [Box, go_sem, hv1], (((((hb.setCell (by exact Nat.le_refl _) _).setCell (by exact Nat.le_refl _) _).setCell (by exact Nat.le_refl _) _).setCell (by exact Nat.le_refl _) _).setCell (by exact Nat.le_refl _) _)⟩
  case rest =>
    obtain ⟨P, rfl, hkd, ⟨b0, b1, b2, b3, b4⟩, hb⟩ := hcut
    have HD1 := Lib.hid (HD0.out.later hb)
    have HR1 := Lib.hid (hkeep hb HR0.out)
    have HBC := Lib.hid hb
    have hfk := HFR.out.kids HG.out.fit HNJ.out
    rw [HKJ.out] at hkd hfk
    clear hb e0 n0 n1 n2 n3 n4 S1 SA SB HK
    rename World => wd
    have d0 : ∀ o1, (wd.alloc o1).cell? ⟨P, 0, none⟩ = some (.int .i64 32) := fun o1 => cell_later ((Below.refl _ _).alloc (Nat.le_refl _) o1) b0
    have d3 : ∀ o1, (wd.alloc o1).cell? ⟨P, 3, none⟩ = some (.int .i64 m0) := fun o1 => cell_later ((Below.refl _ _).alloc (Nat.le_refl _) o1) b3
    have NE := Lib.hid (show wd.heap.size ≠ e.N by have h1 := HD1.out.chg.size; have h2 := HN.out; omega)
    have hlt0 : w.heap.size < wd.heap.size := (Array.getElem?_eq_some_iff.1 HR1.out).1
    have hne1 : ¬ wd.heap.size = w.heap.size := by omega
    have hne2 : ¬ w.heap.size = wd.heap.size := by omega
    have NR := Lib.hid (show w.heap.size ≠ e.N by have h2 := HN.out; omega)
    have hx : ¬ Ex e.ns j := by
      rintro ⟨n, h1, h2, h3⟩
      rw [HNJ.out] at h1; cases h1; simp at h3
    have HX := Lib.hid hx
    clear hx
    rcases HM.out with ⟨rfl, rfl⟩ | rfl
    · rw [List.nil_append] at hkd hfk
      obtain ⟨g, go, pc2, rfl, -, -, -, -, cA⟩ := hkd.at (j := 0) (k := bd) rfl
      rw [Nat.add_zero] at cA
      have hcA : ∀ o1, (wd.alloc o1).cell? ⟨g, go, none⟩ = some (.int .i64 bd) := fun o1 => cell_later ((Below.refl _ _).alloc (Nat.le_refl _) o1) cA
      have HNX := Lib.hid (fun o1 => HNB.out.nx HG.out.fit hfk (l := []) (fun a h => by simp at h) (wd.alloc o1) cs U (HD1.out.later ((Below.refl _ _).alloc (Nat.le_refl _) o1)))
      clear cA hkd hfk
      go_wp2_with (go_at_call 55; refine (HNX.out _).mono ?_; rintro r w2 ⟨cs2, U2, T, C, rfl, hcj, -, hd2, hd1⟩; have hv := row_parts (hd1.chg.keep (heap_alloc_new wd _) NE.out); obtain ⟨hv1, hv2⟩ := hv; have hr := row_parts (hd1.chg.keep (hkeep ((Below.refl _ _).alloc (Nat.le_refl _) _) HR1.out) NR.out); obtain ⟨hr1, hr2⟩ := hr; have HCJ := Lib.hid hcj; have HD2 := Lib.hid hd2; have HDI := Lib.hid hd1; clear hcj hd2 hd1)
      have hU1 : ¬ U2 wd.heap.size := HDI.out.apart (by simp) fun h => absurd (HD1.out.st.lt _ h) (Nat.lt_irrefl _)
      have hU2 : ¬ U2 w.heap.size := HDI.out.apart (by simp; omega) HUR.out
      have hd := (HD2.out.set (S' := Rs e.ns [j]) (fun x hx => kids_up HG.out.fit HNJ.out (by rw [HKJ.out]; exact hx)) (fun x hx he => by
        have h1 := (kids_rs HG.out.fit HNJ.out x)
        rw [HKJ.out] at h1
        refine h1.2 ?_
        have h2 := Rs.one.1 hx
        have h3 : x ≠ j := by rintro rfl; exact HX.out he
        omega))
      have hc1 : Chg (· = wd.heap.size) w2 (w2.setCell ⟨wd.heap.size, 1, none⟩ (.iface T (.pointer (some ⟨C, 0, none⟩)))) := Chg.setCell (X := (· = wd.heap.size)) (p := ⟨wd.heap.size, 1, none⟩) (Chg.refl _ w2) (fun _ => rfl) _
      have hz := set12 (w2.setCell ⟨wd.heap.size, 1, none⟩ (.iface T (.pointer (some ⟨C, 0, none⟩)))) w.heap.size 241 _ _ _ _ _ _ _ _ _ _ _ _ (hc1.keep (HDI.out.chg.keep (hkeep ((Below.refl _ _).alloc (Nat.le_refl _) _) HR1.out) NR.out) hne2) (.slice none 0 0) (.iface T (.pointer (some ⟨C, 0, none⟩))) (.slice none 0 0) (.string t0) (.slice none 0 0) (.pointer none) (.pointer none) (.string ⟨#[]⟩) (.int .i64 0) (.int .i64 0) (.int .i64 0) (.int .i64 0)
      have hd3 := done_setIn hd (Nat.le_of_lt hlt0) hU1 NE.out 1 (.iface T (.pointer (some ⟨C, 0, none⟩)))
      clear hv1 hv2 hr1 hr2
      generalize (World.setCell _ ⟨w.heap.size, 11, none⟩ _) = W3 at hz ⊢
      obtain ⟨hz1, hz2⟩ := hz
      have hz3 := (row_parts hz1).1
      have HZ2 := Lib.hid hz2
      have HD3 := Lib.hid hd3
      clear hz2 hd3 hc1 hd
      exact bodyPost_ret (v := .agg (biCells t0 (.iface T (.pointer (some ⟨C, 0, none⟩))) (.pointer none))) (by simp [results, Try.results104, go_sem, hz3, biCells]) rfl ⟨cs2, U2, none, by rw [HCJ.out]; rfl, fun _ => rfl, HD3.out.step HZ2.out fun B hB => by subst hB; exact ⟨Nat.le_refl _, hU2, NR.out⟩⟩
    · obtain ⟨A2, pc2, rfl, -, -⟩ := hkd.form
      have hcore : ∀ o1, (wd.alloc o1).cell? ⟨e.b, 1, none⟩ = some (.bool false) := fun o1 => cell_later ((Below.refl _ _).alloc (Nat.le_refl _) o1) HD1.out.st.base.c1
      have t0' : (((ps ++ [bd]).length : Int) == 0) = false := by simp; omega
      have hsk := sep_kids HG.out.fit HNJ.out
      rw [HKJ.out] at hsk
      have hBN : e.N < wr.heap.size := by have h1 := HD0.out.chg.size; have h2 := HN.out; omega
      have HFN := Lib.hid (fun o1 => function_does HG.out HL.out ps bd HPAR.out HNO.out HNB.out hsk (wd.alloc o1) cs U (HD1.out.st.later ((Below.refl _ _).alloc (Nat.le_refl _) o1)) hfk wr.heap.size hBN _ (hkd.later ((Below.refl _ _).alloc (Nat.le_refl _) o1)))
      have HDA := Lib.hid (fun o1 => HD1.out.later ((Below.refl _ _).alloc (Nat.le_refl _) o1))
      clear hkd hfk hsk hBN
      generalize (ps ++ [bd]).length = len at t0' HFN ⊢
      go_wp2_with (go_at_call 99; refine (HFN.out _).mono ?_; rintro r w2 ⟨cs2, U2, O, vP, rfl, hd1, hO1, hO2, hO3, hO4, -, -⟩; have hv := row_parts (hd1.chg.keep (heap_alloc_new wd _) NE.out); obtain ⟨hv1, hv2⟩ := hv; have hr := row_parts (hd1.chg.keep (hkeep ((Below.refl _ _).alloc (Nat.le_refl _) _) HR1.out) NR.out); obtain ⟨hr1, hr2⟩ := hr; obtain ⟨⟨T, C⟩, hcb⟩ := Option.ne_none_iff_exists'.1 (hd1.ex bd (Rs.mem HG.out.fit (List.mem_append.2 (.inr (by simp)))) HBE.out); rw [hcb] at hO4; have hneO : ¬ O = wd.heap.size := (by simp at hO1; omega); have hneP : ¬ wd.heap.size = O := (by omega); simp only [cv] at hO4; have HCB := Lib.hid hcb; have HDI := Lib.hid hd1; have HOO := Lib.hid (And.intro hO1 (And.intro hO2 hO3)); clear hcb hd1 hO1 hO2 hO3)
      have hU1 : ¬ U2 wd.heap.size := HDI.out.apart (by simp) fun h => absurd (HD1.out.st.lt _ h) (Nat.lt_irrefl _)
      have hU2 : ¬ U2 w.heap.size := HDI.out.apart (by simp; omega) HUR.out
      have hd0 : Done e (Rs e.ns (ps ++ [bd])) w w2 cs cs2 U U2 := HDI.out.before ((step_after HBW0.out HBC.out).alloc (step_after HBW0.out HBC.out).size _)
      have hd := (hd0.set (S' := Rs e.ns [j]) (fun x hx => kids_up HG.out.fit HNJ.out (by rw [HKJ.out]; exact hx)) (fun x hx he => by
        have h1 := (kids_rs HG.out.fit HNJ.out x)
        rw [HKJ.out] at h1
        refine h1.2 ?_
        have h2 := Rs.one.1 hx
        have h3 : x ≠ j := by rintro rfl; exact HX.out he
        omega))
      have hcc : ∀ (W : World) (i : Nat) (u : Value), Chg (· = wd.heap.size) W (W.setCell ⟨wd.heap.size, i, none⟩ u) := fun W i u => Chg.setCell (X := (· = wd.heap.size)) (p := ⟨wd.heap.size, i, none⟩) (Chg.refl _ W) (fun _ => rfl) u
      have hz := set12 ((w2.setCell ⟨wd.heap.size, 5, none⟩ (.pointer (some ⟨O, 0, none⟩))).setCell ⟨wd.heap.size, 1, none⟩ (.iface T (.pointer (some ⟨C, 0, none⟩)))) w.heap.size 241 _ _ _ _ _ _ _ _ _ _ _ _ ((hcc _ _ _).keep ((hcc _ _ _).keep (HDI.out.chg.keep (hkeep ((Below.refl _ _).alloc (Nat.le_refl _) _) HR1.out) NR.out) hne2) hne2) (.slice none 0 0) (.iface T (.pointer (some ⟨C, 0, none⟩))) (.slice none 0 0) (.string t0) (.slice none 0 0) (.pointer (some ⟨O, 0, none⟩)) (.pointer none) (.string ⟨#[]⟩) (.int .i64 0) (.int .i64 0) (.int .i64 0) (.int .i64 0)
      have hd3 := done_setIn (done_setIn hd (Nat.le_of_lt hlt0) hU1 NE.out 5 (.pointer (some ⟨O, 0, none⟩))) (Nat.le_of_lt hlt0) hU1 NE.out 1 (.iface T (.pointer (some ⟨C, 0, none⟩)))
      clear hv1 hv2 hr1 hr2
      generalize (World.setCell _ ⟨w.heap.size, 11, none⟩ _) = W3 at hz ⊢
      obtain ⟨hz1, hz2⟩ := hz
      have hz3 := (row_parts hz1).1
      have HZ2 := Lib.hid hz2
      have HD3 := Lib.hid hd3
      clear hz2 hd3 hcc hd hd0
      exact bodyPost_ret (v := .agg (biCells t0 (.iface T (.pointer (some ⟨C, 0, none⟩))) (.pointer (some ⟨O, 0, none⟩)))) (by simp [results, Try.results104, go_sem, hz3, biCells]) rfl ⟨cs2, U2, some ⟨O, 0, none⟩, by rw [HCB.out]; rfl, fun h => by simp at h, HD3.out.step HZ2.out fun B hB => by subst hB; exact ⟨Nat.le_refl _, hU2, NR.out⟩⟩
end Go.Proofs.Ytincgkolpicipaa.kin
namespace Go.Proofs.Ytincgkolpicipaa.kin
open Go.RowKit
open Go.Proofs.Ytincgkolpicipaa.stack (step_after Chg owns_chg owns_form)
def bodyOf (ns : List Nd) (k : Nat) : Nat := (kids ns k).getLastD 0
/-- What builder.bind does. -/
def BindC (e : Env) (k : Nat) : Prop := ∀ (w : World) (cs : Pl) (U : Nat → Prop), St e w cs U → Free e.ns cs [k] →
  Calls Try.prog 104 #[.pointer (some ⟨e.b, 0, none⟩), .int .i64 k] w fun r w' => ∃ (cs' : Pl) (U' : Nat → Prop) (t : ByteArray) (f : Option Addr), r = .returned (.agg #[.slice none 0 0, cv (cs' (bodyOf e.ns k)), .slice none 0 0, .string t, .slice none 0 0, .pointer f, .pointer none, .string ⟨#[]⟩, .int .i64 0, .int .i64 0, .int .i64 0, .int .i64 0]) ∧ ((∃ n, e.ns[k]? = some n ∧ n.m = 0) → f = none) ∧ Done e (Rs e.ns [k]) w w' cs cs' U U'
theorem bindC_of {e : Env} (hg : Good e.ns) (hL : e.ns.length ≤ 400) (k : Nat) (n : Nd) (hn : e.ns[k]? = some n) (hk : n.k = 32) (hno : ∀ j, k < j → j < k + sz e.ns k → Ex e.ns j → NodeC e j) : BindC e k ∧ bodyOf e.ns k ∈ kids e.ns k := by
  obtain ⟨ps, b, hkk, hb, hpar, hm⟩ := bind_kids hg hn hk
  have hbo : bodyOf e.ns k = b := by unfold bodyOf; rw [hkk]; simp
  have hin := fun x (hx : x ∈ kids e.ns k) => hg.fit.kid hn hx
  refine ⟨fun w cs U hst hfr => ?_, by rw [hbo, hkk]; simp⟩
  obtain ⟨k0, o0, t0, m0, z0⟩ := n
  dsimp only at hk hm
  subst hk
  have hbk := hin b (by rw [hkk]; simp)
  refine (bind_does hg hL k ps b o0 m0 z0 t0 hn hkk hpar hm (fun p hp a ha => ?_) (hno b hbk.1 (by omega) hb) hb w cs U hst hfr).mono ?_
  · have h1 := hin p (by rw [hkk]; simp [hp])
    obtain ⟨np, hnp⟩ := getElem?_lt h1.2.2.2.2
    have h2 := hg.fit.kid hnp ha
    obtain ⟨np2, hnp2, hk33⟩ := hpar p hp
    rcases param_kids hg hnp2 (by simpa using hk33) with h0 | ⟨x, hx, hex⟩
    · rw [h0] at ha; simp at ha
    · rw [hx, List.mem_singleton] at ha
      subst ha
      exact hno a (by omega) (by omega) hex
  · rintro r w' ⟨cs', U', f, hr, hf, hd⟩
    refine ⟨cs', U', t0, f, by rw [hbo]; exact hr, ?_, hd⟩
    rintro ⟨n, hn', hm0⟩
    rw [hn] at hn'; cases hn'; exact hf hm0
def biRow (x : ByteArray × Value × Option Addr) : List Value := [.slice none 0 0, x.2.1, .slice none 0 0, .string x.1, .slice none 0 0, .pointer x.2.2, .pointer none, .string ⟨#[]⟩, .int .i64 0, .int .i64 0, .int .i64 0, .int .i64 0]
theorem Try.info241 : (Try.prog.info? 241).map (fun i => (i.zero, i.size, i.bytes)) = some (some (.agg #[.slice none 0 0, .nilIface, .slice none 0 0, .string ⟨#[]⟩, .slice none 0 0, .pointer none, .pointer none, .string ⟨#[]⟩, .int .i64 0, .int .i64 0, .int .i64 0, .int .i64 0]), 12, 168) := by kernel_rfl
def BindsR (e : Env) (w : World) (cs : Pl) (U : Nat → Prop) (ks : List Nat) (r : Ending) (w' : World) : Prop :=
  ∃ (u : Value) (cs' : Pl) (U' : Nat → Prop), r = .returned u ∧ Done e (Rs e.ns ks) w w' cs cs' U U' ∧ Elems (rd w' U') 12 1 u (ks.map fun k => cv (cs' (bodyOf e.ns k)))
theorem split_at {ks l : List Nat} {k j : Nat} (hl : l = ks.take k) (hj : ks[k]? = some j) : ks = l ++ j :: ks.drop (k + 1) := by
  rw [hl]
  have h1 : ks.drop k = j :: ks.drop (k + 1) := by
    have hkl := (List.getElem?_eq_some_iff.1 hj).1
    rw [List.drop_eq_getElem_cons hkl]
    rw [List.getElem?_eq_getElem hkl] at hj
    rw [Option.some.inj hj]
  rw [← h1, List.take_append_drop]
theorem apt_at {ns : List Nd} {ks l : List Nat} {k j : Nat} (hs : Sep ns ks) (hl : l = ks.take k) (hj : ks[k]? = some j) : Apt ns l [j] := by
  have h1 := hs
  rw [split_at hl hj] at h1
  exact h1.app.2.2.sub (fun _ h => h) (fun x hx => by rw [List.mem_singleton] at hx; simp [hx])
set_option maxRecDepth 100000 in
set_option maxHeartbeats 4000000 in
theorem binds_does {e : Env} (hft : Fit e.ns) (ks : List Nat) (hno : ∀ k ∈ ks, BindC e k ∧ bodyOf e.ns k ∈ kids e.ns k ∧ ∃ n, e.ns[k]? = some n) (hs : Sep e.ns ks) (w : World) (cs : Pl) (U : Nat → Prop) (hst : St e w cs U) (hfr : Free e.ns cs ks) (B : Nat) (hB : e.N < B) (v : Value) (hp : Plc B w v ks) :
    Calls Try.prog 100 #[.pointer (some ⟨e.b, 0, none⟩), v] w (BindsR e w cs U ks) := by
  obtain ⟨i0, hi, hz0, hz1, hz2⟩ := info_parts Try.info241
  obtain ⟨A, pc, rfl, -, hl⟩ := hp.form
  have HP := Lib.hid hp
  have HNO := Lib.hid hno
  have HS := Lib.hid hs
  have HFR := Lib.hid hfr
  have HN := Lib.hid hst.nlt
  have HD0 := Lib.hid (Done.none hst (Below.refl _ _))
  have HM0 := Lib.hid (Mine.nil w w.heap.size U 241 12)
  have HFT := Lib.hid hft
  have HB := Lib.hid hB
  clear hp hno hs hst hfr hft hB
  generalize hm : ks.length = m at hl HP ⊢
  have HM := Lib.hid hm
  clear hm
  go_enter Try.func100, Try.ntmps100
  go_wp2
  go_loopw [5, 7, 10] (fun v _ i wr => ∃ (k : Nat) (l : List Nat) (rs : List (ByteArray × Value × Option Addr)) (cs1 : Pl) (U1 : Nat → Prop), k ≤ m ∧ i = .int .i64 k ∧ Hid (l = ks.take k) ∧ Hid (rs.map (fun x => x.2.1) = l.map fun k => cv (cs1 (bodyOf e.ns k))) ∧ Hid (Done e (Rs e.ns l) w wr cs cs1 U U1) ∧ Mine wr w.heap.size U1 241 12 v rs.length (rs.flatMap biRow)) (fun _ _ i _ => m - (intOf i).toNat)
  case atStart => exact ⟨0, [], [], cs, U, Nat.zero_le _, rfl, Lib.hid (by simp), Lib.hid rfl, HD0, HM0.out⟩
  case round =>
    obtain ⟨k, l, rs, cs1, U1, hk, rfl, HLL, HRS, HD, hmine⟩ := hrel
    obtain ⟨A1, vc, rfl, -⟩ := owns_form hmine.own
    have HMI := Lib.hid hmine
    by_cases hlt : k < m
    · obtain ⟨j, hj⟩ := getElem?_lt (show k < ks.length by have := HM.out; omega)
      obtain ⟨p, po, rfl, hpB, hpw, cx⟩ := HP.out.here hj
      have cx1 := HD.out.chg.cell cx (show ¬ p = e.N by have := HB.out; omega)
      have hki : (k : Int) < (m : Int) := by omega
      have hlk : rs.length ≤ 400 := by
        have h1 := congrArg List.length HRS.out
        rw [List.length_map, List.length_map, HLL.out, List.length_take] at h1; omega
      have hjm := List.mem_of_getElem? hj
      have hapt := apt_at HS.out HLL.out hj
      have HBI := Lib.hid ((HNO.out j hjm).1 wr cs1 U1 HD.out.st (HD.out.free hapt (HFR.out.sub fun x hx => by rw [List.mem_singleton] at hx; rw [hx]; exact hjm)))
      have HAP := Lib.hid hapt
      have HLS := Lib.hid (show l ++ [j] = ks.take (k + 1) by rw [HLL.out, List.take_add_one, hj]; rfl)
      have HBO := Lib.hid (show ∀ x ∈ l, Rs e.ns l (bodyOf e.ns x) from fun x hx => by
        have hxk : x ∈ ks := by rw [HLL.out] at hx; exact List.mem_of_mem_take hx
        obtain ⟨-, h2, n, h3⟩ := HNO.out x hxk
        have := HFT.out.kid h3 h2
        exact ⟨x, hx, by omega, by omega⟩)
      clear hmine cx hj hapt
      go_wp2_with (first | (go_at_call 104; refine HBI.out.mono ?_; rintro r w2 ⟨cs2, U2, t, f, rfl, hf, hd1⟩; have hmine2 := HMI.out.done hd1 HN.out; have hown2 := hmine2.own; have HM2 := Lib.hid hmine2; have HD1 := Lib.hid hd1; clear hf hd1 hmine2) | (at_builtin; refine wpList_append_own_at (hgd := rfl) (s := _) (x := _) (t := 237) (ho := rfl) (base := w.heap.size) (e := 241) (i := i0) (z := _) (size := 12) (bytes := 168) (ht := Try.underlying237) (hi := hi) (hz := hz0) (hsize := hz1) (hby := hz2) (hzs := rfl) (hsz := by decide) (v := _) (n := rs.length) (xs := rs.flatMap biRow) (hs := rfl) (hown := hown2.alloc _) (ad := ⟨w2.heap.size, 0, none⟩) (m := 1) (c := 1) (news := biRow (t, cv (cs2 (bodyOf e.ns j)), f)) (hx := rfl) (hl := rfl) (hnews := World.news_of_block (heap_alloc_new w2 _)) (h1 := ?q2) (h63 := ?q3) (hbytes := ?q4) (hbase := ?q5) (h := ?_)))
      case q2 =>
        intro u hu
        simp [biRow] at hu
        rcases hu with rfl | rfl | rfl | rfl | rfl | rfl | rfl | rfl | rfl
        all_goals first | rfl | exact cv_one _
      case q3 => simp [maxLen]; omega
      case q4 => omega
      case q5 => have h1 := HD.out.chg.size; have h2 := HD1.out.chg.size; simp; omega
      intro v2 W2 hown3 hg3 _ hat
      have hba := (Below.refl w2.heap.size w2).alloc (Nat.le_refl _) (.cells (biRow (t, cv (cs2 (bodyOf e.ns j)), f)).toArray 241)
      have hma := HM2.out.later hba
      have hda := (HD.out.app HD1.out HAP.out).later hba
      have HD3 := Lib.hid (hda.grown hma (Nat.le_refl _) HN.out hg3)
      have HM3 := Lib.hid (show Mine W2 w.heap.size U2 241 12 v2 (rs ++ [(t, cv (cs2 (bodyOf e.ns j)), f)]).length ((rs ++ [(t, cv (cs2 (bodyOf e.ns j)), f)]).flatMap biRow) by
        rw [List.flatMap_append, List.length_append]
        simp only [List.flatMap_cons, List.flatMap_nil, List.append_nil]
        exact hma.grown hda.st.lt hown3 (by simpa using hat))
      have HR3 := Lib.hid (show (rs ++ [(t, cv (cs2 (bodyOf e.ns j)), f)]).map (fun x => x.2.1) = (l ++ [j]).map fun k => cv (cs2 (bodyOf e.ns k)) by
        rw [List.map_append, List.map_append, HRS.out]
        congr 1
        exact List.map_congr_left fun x hx => by rw [HD1.out.out _ (HAP.out.dis (HBO.out x hx))])
      clear hba hma hda hat hown3 hg3 hown2
      go_wp2
      go_roundw
      case rel => exact ⟨k + 1, l ++ [j], _, cs2, U2, by omega, by go_num, HLS, HR3, HD3, HM3.out⟩
      case measure => simp [intOf]; omega
    · have hki : ¬ (k : Int) < (m : Int) := by omega
      clear hmine
      go_wp2
      go_ret
      have hll := HLL.out
      rw [List.take_of_length_le (by have := HM.out; omega)] at hll
      have hm2 := HM.out
      subst hll
      have hrl : rs.length = l.length := by have := congrArg List.length HRS.out; simpa using this
      refine ⟨_, cs1, _, rfl, HMI.out.fin HD.out (Nat.le_refl _) HN.out, ?_⟩
      have hel := HMI.out.elems (f := biRow) (g := fun x => x.2.1) (d := 1) (by omega) (fun _ _ => rfl) (by decide) (fun _ _ => rfl) (fun x hx u hu => by
        simp [biRow] at hu
        rcases hu with rfl | rfl | rfl | rfl | rfl | rfl | rfl | rfl | rfl
        all_goals first | rfl | exact one_of_map HRS.out x hx)
      rw [HRS.out] at hel
      exact hel
end Go.Proofs.Ytincgkolpicipaa.kin
namespace Go.Proofs.Ytincgkolpicipaa.kin
open Go.RowKit
open Go.Proofs.Ytincgkolpicipaa.stack (step_after Chg owns_chg owns_form)
theorem own_types {W : World} {base E z n base' E' z' n' : Nat} {v v' : Value} {xs xs' : List Value} (h : W.ownsRow base E z v n xs) (h' : W.ownsRow base' E' z' v' n' xs') (hne : E ≠ E') {g : Nat} (hg : v.ownBlock = some g) : v'.ownBlock ≠ some g := fun hg' => by
  rcases h.2 with ⟨rfl, -⟩ | ⟨a, cap, cur, rfl, -, hh, -⟩
  · simp [Value.ownBlock] at hg
  rcases h'.2 with ⟨rfl, -⟩ | ⟨b, cap', cur', rfl, -, hh', -⟩
  · simp [Value.ownBlock] at hg'
  simp [Value.ownBlock] at hg hg'
  subst hg; subst hg'
  rw [hh] at hh'
  injection hh' with h1
  injection h1 with _ h2
  exact hne h2
def posRow (e : Env) (cs : Pl) (k : Nat) : List Value := [cv (cs (bodyOf e.ns k)), .slice none 0 0]
def nmRow (x : ByteArray × Value) : List Value := [.slice none 0 0, .string x.1, .slice none 0 0, x.2, .slice none 0 0]
/-- Where builder.arguments stands: l is built, of which l1 have no names, l2 have. -/
structure ArS (e : Env) (w : World) (cs : Pl) (U : Nat → Prop) (l l1 l2 : List Nat) (rs : List (ByteArray × Value)) (wr : World) (cs1 : Pl) (U1 : Nat → Prop) (u v : Value) : Prop where
  done : Done e (Rs e.ns l) w wr cs cs1 U U1
  res : wr.heap[w.heap.size]? = some (.cells #[.slice none 0 0, .slice none 0 0] 169 (0, 0))
  blk : wr.heap[w.heap.size + 1]? = some (.cells #[u, v] 169 (0, 0))
  pos : Mine wr (w.heap.size + 2) U1 226 2 u l1.length (l1.flatMap (posRow e cs1))
  nam : Mine wr (w.heap.size + 2) U1 228 5 v rs.length (rs.flatMap nmRow)
  vals : rs.map (fun x => x.2) = l2.map fun k => cv (cs1 (bodyOf e.ns k))
  r1 : ¬ U1 w.heap.size
  r2 : ¬ U1 (w.heap.size + 1)
section
variable {e : Env} {w : World} {cs : Pl} {U : Nat → Prop} {l l1 l2 : List Nat} {rs : List (ByteArray × Value)} {wr W w2 : World} {cs1 cs2 : Pl} {U1 U2 : Nat → Prop} {u v : Value}
theorem ArS.later (h : ArS e w cs U l l1 l2 rs wr cs1 U1 u v) (hb : Below wr.heap.size wr W) : ArS e w cs U l l1 l2 rs W cs1 U1 u v :=
  ⟨h.done.later hb, hkeep hb h.res, hkeep hb h.blk, h.pos.later hb, h.nam.later hb, h.vals, h.r1, h.r2⟩
theorem ArS.node {j : Nat} (h : ArS e w cs U l l1 l2 rs wr cs1 U1 u v) (hN : e.N < w.heap.size) (hd : Done e (Rs e.ns [j]) wr W cs1 cs2 U1 U2) (ha : Apt e.ns l [j]) (hin : ∀ x ∈ l1 ++ l2, Rs e.ns l (bodyOf e.ns x)) : ArS e w cs U (l ++ [j]) l1 l2 rs W cs2 U2 u v := by
  have hsame : ∀ x ∈ l1 ++ l2, cs2 (bodyOf e.ns x) = cs1 (bodyOf e.ns x) := fun x hx => hd.out _ (ha.dis (hin x hx))
  refine ⟨h.done.app hd ha, hd.chg.keep h.res (by omega), hd.chg.keep h.blk (by omega), ?_, h.nam.done hd (by omega), ?_, hd.apart (Array.getElem?_eq_some_iff.1 h.res).1 h.r1, hd.apart (Array.getElem?_eq_some_iff.1 h.blk).1 h.r2⟩
  · have := h.pos.done hd (by omega)
    rw [flat_same (f := posRow e cs1) (g := posRow e cs2) fun x hx => by simp [posRow, hsame x (List.mem_append.2 (.inl hx))]] at this
    exact this
  · rw [h.vals]
    exact List.map_congr_left fun x hx => by rw [hsame x (List.mem_append.2 (.inr hx))]
theorem ArS.pushPos {j : Nat} (h : ArS e w cs U l l1 l2 rs wr cs1 U1 u v) (hN : e.N < w.heap.size) (W w2 : World) (hb : Below wr.heap.size wr W) (hg : W.grownBy w2 u.ownBlock) (g k : Nat) (hown : w2.ownsRow (w.heap.size + 2) 226 2 (.slice (some ⟨g, 0, none⟩) (l1.length + 1) k) (l1.length + 1) (l1.flatMap (posRow e cs1) ++ posRow e cs1 j)) (hat : u.ownBlock = some g ∨ g = W.heap.size) :
    w2.heap[w.heap.size + 1]? = some (.cells #[u, v] 169 (0, 0)) ∧ ArS e w cs U l (l1 ++ [j]) l2 rs (w2.setCell ⟨w.heap.size + 1, 0, none⟩ (.slice (some ⟨g, 0, none⟩) (l1.length + 1) k)) cs1 U1 (.slice (some ⟨g, 0, none⟩) (l1.length + 1) k) v := by
  have hW := h.later hb
  have hc0 : Chg (fun B => u.ownBlock = some B) W w2 := (Chg.refl _ _).grown hg fun _ hk _ => hk
  have hne : ∀ B, B < w.heap.size + 2 → u.ownBlock ≠ some B := fun B hB hx => by have := (own_lt hW.pos.own hx).1; omega
  have hblk := hc0.keep hW.blk (hne _ (by omega))
  have hres := hc0.keep hW.res (hne _ (by omega))
  have hnam := hW.nam.other hc0 fun B hB => own_types hW.pos.own hW.nam.own (by decide) hB
  have hat2 : Value.ownBlock (.slice (some ⟨g, 0, none⟩) (l1.length + 1) k) = u.ownBlock ∨ Value.ownBlock (.slice (some ⟨g, 0, none⟩) (l1.length + 1) k) = some W.heap.size := by
    rcases hat with h | h
    · exact .inl h.symm
    · exact .inr (by rw [← h]; rfl)
  have hgr := hW.pos.grown hW.done.st.lt hown hat2
  have hc : ∀ x : Value, Chg (· = w.heap.size + 1) w2 (w2.setCell ⟨w.heap.size + 1, 0, none⟩ x) := fun x => Chg.setCell (X := (· = w.heap.size + 1)) (p := ⟨w.heap.size + 1, 0, none⟩) (Chg.refl _ w2) (fun _ => rfl) x
  have hsep : ∀ {E z n : Nat} {y : Value} {ys : List Value}, w2.ownsRow (w.heap.size + 2) E z y n ys → ∀ B, B = w.heap.size + 1 → y.ownBlock ≠ some B := fun ho B hB hx => by have := (own_lt ho hx).1; omega
  refine ⟨hblk, done_setIn (hW.done.grown hW.pos (by omega) (by omega) hg) (by omega) h.r2 (by omega) _ _, (hc _).keep hres (by omega), blk_set hblk 0 _, ?_, hnam.other (hc _) (hsep hnam.own), h.vals, h.r1, h.r2⟩
  have := hgr.other (hc (.slice (some ⟨g, 0, none⟩) (l1.length + 1) k)) (hsep hgr.own)
  rw [List.flatMap_append, List.length_append]
  simpa using this
theorem ArS.pushNam {j : Nat} {t : ByteArray} (h : ArS e w cs U l l1 l2 rs wr cs1 U1 u v) (hN : e.N < w.heap.size) (W w2 : World) (hb : Below wr.heap.size wr W) (hg : W.grownBy w2 v.ownBlock) (g k : Nat) (hown : w2.ownsRow (w.heap.size + 2) 228 5 (.slice (some ⟨g, 0, none⟩) (rs.length + 1) k) (rs.length + 1) (rs.flatMap nmRow ++ nmRow (t, cv (cs1 (bodyOf e.ns j))))) (hat : v.ownBlock = some g ∨ g = W.heap.size) :
    w2.heap[w.heap.size + 1]? = some (.cells #[u, v] 169 (0, 0)) ∧ ArS e w cs U l l1 (l2 ++ [j]) (rs ++ [(t, cv (cs1 (bodyOf e.ns j)))]) (w2.setCell ⟨w.heap.size + 1, 1, none⟩ (.slice (some ⟨g, 0, none⟩) (rs.length + 1) k)) cs1 U1 u (.slice (some ⟨g, 0, none⟩) (rs.length + 1) k) := by
  have hW := h.later hb
  have hc0 : Chg (fun B => v.ownBlock = some B) W w2 := (Chg.refl _ _).grown hg fun _ hk _ => hk
  have hne : ∀ B, B < w.heap.size + 2 → v.ownBlock ≠ some B := fun B hB hx => by have := (own_lt hW.nam.own hx).1; omega
  have hblk := hc0.keep hW.blk (hne _ (by omega))
  have hres := hc0.keep hW.res (hne _ (by omega))
  have hpos := hW.pos.other hc0 fun B hB => own_types hW.nam.own hW.pos.own (by decide) hB
  have hat2 : Value.ownBlock (.slice (some ⟨g, 0, none⟩) (rs.length + 1) k) = v.ownBlock ∨ Value.ownBlock (.slice (some ⟨g, 0, none⟩) (rs.length + 1) k) = some W.heap.size := by
    rcases hat with h | h
    · exact .inl h.symm
    · exact .inr (by rw [← h]; rfl)
  have hgr := hW.nam.grown hW.done.st.lt hown hat2
  have hc : ∀ x : Value, Chg (· = w.heap.size + 1) w2 (w2.setCell ⟨w.heap.size + 1, 1, none⟩ x) := fun x => Chg.setCell (X := (· = w.heap.size + 1)) (p := ⟨w.heap.size + 1, 1, none⟩) (Chg.refl _ w2) (fun _ => rfl) x
  have hsep : ∀ {E z n : Nat} {y : Value} {ys : List Value}, w2.ownsRow (w.heap.size + 2) E z y n ys → ∀ B, B = w.heap.size + 1 → y.ownBlock ≠ some B := fun ho B hB hx => by have := (own_lt ho hx).1; omega
  refine ⟨hblk, done_setIn (hW.done.grown hW.nam (by omega) (by omega) hg) (by omega) h.r2 (by omega) _ _, (hc _).keep hres (by omega), blk_set hblk 1 _, hpos.other (hc _) (hsep hpos.own), ?_, ?_, h.r1, h.r2⟩
  · have := hgr.other (hc (.slice (some ⟨g, 0, none⟩) (rs.length + 1) k)) (hsep hgr.own)
    rw [List.flatMap_append, List.length_append]
    simpa using this
  · rw [List.map_append, List.map_append, h.vals]; rfl
end
theorem Try.info228 : (Try.prog.info? 228).map (fun i => (i.zero, i.size, i.bytes)) = some (some (.agg #[.slice none 0 0, .string ⟨#[]⟩, .slice none 0 0, .nilIface, .slice none 0 0]), 5, 104) := by kernel_rfl
def ArgsR (e : Env) (w : World) (cs : Pl) (U : Nat → Prop) (ks : List Nat) (r : Ending) (w' : World) : Prop :=
  ∃ (u v : Value) (cs' : Pl) (U' : Nat → Prop) (xs ys : List Value), r = .returned (.agg #[u, v]) ∧ Done e (Rs e.ns ks) w w' cs cs' U U' ∧ Elems (rd w' U') 2 0 u xs ∧ Elems (rd w' U') 5 3 v ys ∧ xs ++ ys = ks.map fun k => cv (cs' (bodyOf e.ns k))
theorem arg_kids {ns : List Nd} (hg : Good ns) {k : Nat} {n : Nd} (hn : ns[k]? = some n) (hk : n.k = 34) : ∃ a, kids ns k = [a] ∧ Ex ns a ∧ bodyOf ns k = a := by
  have hs := hg.shp k n hn
  have : ∃ a, kids ns k = [a] ∧ Ex ns a := by
    generalize kids ns k = ks at hs
    cases hs with
    | one h ha => exact ⟨_, rfl, ha⟩
    | _ => exfalso; omega
  obtain ⟨a, h1, h2⟩ := this
  exact ⟨a, h1, h2, by unfold bodyOf; rw [h1]; rfl⟩
end Go.Proofs.Ytincgkolpicipaa.kin

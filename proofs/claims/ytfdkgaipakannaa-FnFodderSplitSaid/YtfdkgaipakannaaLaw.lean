/- FnFodderSplit: the walk of the law. -/
import Derived.Test.YtfdkgaipakannaaPl
namespace Go.Proofs.Ytfdkgaipakannaa.split
open Go.RowKit
theorem add_off (q o j : Nat) : (⟨q, o, none⟩ : Addr).add j = ⟨q, o + j, none⟩ := by unfold Addr.add; split <;> simp_all
theorem els_prefix {W : World} {q o cap : Nat} {es : List El} (h : Els W (.slice (some ⟨q, o, none⟩) es.length cap) es) : ∀ m, m ≤ es.length → ∃ ps : List (Value × El), ps.map (·.2) = es.take m ∧ (∀ j u, (rowE ps)[j]? = some u → W.cell? ⟨q, o + j, none⟩ = some u) ∧ ∀ p ∈ ps, Strs W p.1 p.2.c
  | 0, _ => ⟨[], rfl, fun j u h => by simp [rowE] at h, fun p h => by cases h⟩
  | m + 1, hm => by
    obtain ⟨ps, h1, h2, h3⟩ := els_prefix h m (by omega)
    obtain ⟨A, c, hv, _, hc⟩ := h
    cases hv
    have hx : es[m]? = some es[m] := List.getElem?_eq_getElem (by omega)
    obtain ⟨q', o', ha, hel⟩ := hc m _ hx
    cases ha
    obtain ⟨c0, c1, c2, cv, c3, hst⟩ := hel
    have hlen : ps.length = m := by have := congrArg List.length h1; simp at this; omega
    refine ⟨ps ++ [(cv, es[m])], ?_, fun j u hj => ?_, fun p hp => ?_⟩
    · rw [List.map_append, h1, List.take_add_one, hx]; rfl
    · rw [rowE_snoc] at hj
      by_cases hlt : j < (rowE ps).length
      · rw [List.getElem?_append_left hlt] at hj
        exact h2 j u hj
      · rw [List.getElem?_append_right (by omega), rowE_len, hlen] at hj
        rw [rowE_len, hlen] at hlt
        obtain ⟨i, hi⟩ : ∃ i, j = m * 4 + i := ⟨j - m * 4, by omega⟩
        subst hi
        have e : m * 4 + i - m * 4 = i := by omega
        rw [e] at hj
        have hi4 : i < 4 := by have := (List.getElem?_eq_some_iff.1 hj).1; simpa using this
        have hc4 : i = 0 ∨ i = 1 ∨ i = 2 ∨ i = 3 := by omega
        rcases hc4 with rfl | rfl | rfl | rfl <;> simp at hj <;> subst hj <;> rw [← Nat.add_assoc] <;> assumption
    · rcases List.mem_append.1 hp with hp | hp
      · exact h3 p hp
      · obtain rfl := List.mem_singleton.1 hp
        exact hst
theorem rowE_one (ps : List (Value × El)) {W : World} (h : ∀ p ∈ ps, Strs W p.1 p.2.c) : ∀ u ∈ rowE ps, u.oneCell' = true := by
  intro u hu
  simp only [rowE, List.mem_flatMap] at hu
  obtain ⟨p, hp, hu⟩ := hu
  obtain ⟨A, c, hv⟩ := (h p hp).form
  simp only [List.mem_cons, List.mem_nil_iff, or_false] at hu
  rcases hu with rfl | rfl | rfl | rfl
  · rfl
  · rfl
  · rfl
  · rw [hv]; rfl
theorem cmt_of_strs {W : World} {v : Value} {ss : List ByteArray} (h : Strs W v ss) : Cmt W.heap.size W v ss := by
  refine ⟨h, fun q o n c e hn => .inl ?_⟩
  obtain ⟨A, cap, hv, _, hc⟩ := h
  rw [e] at hv
  cases hv
  obtain ⟨s, hs⟩ : ∃ s, ss[0]? = some s := ⟨_, List.getElem?_eq_getElem hn⟩
  obtain ⟨_, q', o', ha, hcell⟩ := hc 0 s hs
  cases ha
  exact block_lt_of_cell hcell
theorem rowE_set_last (ps : List (Value × El)) (cv : Value) (e : El) (z : Int) : (rowE (ps ++ [(cv, e)])).set (ps.length * 4 + 1) (.int .i64 z) = rowE (ps ++ [(cv, { e with b := z })]) := by
  rw [rowE_snoc, rowE_snoc, List.set_append_right _ _ (by rw [rowE_len]; omega), rowE_len]
  have : ps.length * 4 + 1 - ps.length * 4 = 1 := by omega
  rw [this]
  rfl
theorem fresh_row (w : World) : (w.alloc (.cells #[] 34)).ownsRow w.heap.size 34 4 (.slice (some ⟨w.heap.size, 0, none⟩) 0 0) 0 [] :=
  ⟨rfl, .inr ⟨w.heap.size, 0, #[], rfl, Nat.le_refl _, heap_alloc_new w _, Nat.le_refl _, Nat.zero_le _, rfl, rfl⟩⟩
theorem first_step {w3 w4 : World} {g cp k : Nat} {r : List (Value × El)} {cv : Value} {x : El} (hr : r.length = k) (hs : ∀ p ∈ r ++ [(cv, x)], Strs w3 p.1 p.2.c) (hb : 0 ≤ x.b)
    (hown : w4.ownsRow w3.heap.size 34 4 (.slice (some ⟨g, 0, none⟩) (0 + (k + 1)) cp) (0 + (k + 1)) ([] ++ rowE (r ++ [(cv, x)]))) (hg : (w3.alloc (.cells #[] 34)).grownBy w4 (some w3.heap.size)) :
    (w4.cell? ⟨g, k * 4 + 1, none⟩ = some (.int .i64 x.b) ∧ w4.frozen? ⟨g, k * 4 + 1, none⟩ = false) ∧
    Els (w4.setCell ⟨g, k * 4 + 1, none⟩ (.int .i64 0)) (.slice (some ⟨g, 0, none⟩) (k + 1) cp) (r.map (·.2) ++ [bare x]) ∧ Below w3.heap.size w3 (w4.setCell ⟨g, k * 4 + 1, none⟩ (.int .i64 0)) := by
  subst hr
  rw [Nat.zero_add, List.nil_append] at hown
  have hb4 : Below w3.heap.size w3 w4 := ((Below.refl _ _).alloc (Nat.le_refl _) _).grown hg (by simp) (fun k hk => by cases hk; exact Nat.le_refl _)
  have hge : w3.heap.size ≤ g := (hown.lt g rfl).1
  have hb5 : Below w3.heap.size w3 (w4.setCell ⟨g, r.length * 4 + 1, none⟩ (.int .i64 0)) := hb4.setCell hge _
  have hbare : bare x = { x with b := 0 } := by
    unfold bare
    split
    · rfl
    · have : x.b = 0 := by omega
      cases x; simp at this; subst this; rfl
  refine ⟨⟨?_, hown.frozenAt _⟩, ?_, hb5⟩
  · rw [hown.cellAt _ (by omega)]
    exact (rowE_at (r ++ [(cv, x)]) r.length (cv, x) (by simp)).2.1
  · have hst := (hown.stored (r.length * 4 + 1) (.int .i64 0)).1
    rw [rowE_set_last] at hst
    have ho : OwnE (w4.setCell ⟨g, r.length * 4 + 1, none⟩ (.int .i64 0)) w3.heap.size w3.heap.size (.slice (some ⟨g, 0, none⟩) (r.length + 1) cp) (r ++ [(cv, { x with b := 0 })]) := by
      refine ⟨by simpa using hst, fun p hp => ?_⟩
      have hp' : Strs w3 p.1 p.2.c := by
        rcases List.mem_append.1 hp with hp | hp
        · exact hs p (List.mem_append_left _ hp)
        · obtain rfl := List.mem_singleton.1 hp
          exact hs (cv, x) (by simp)
      exact (cmt_of_strs hp').later hb5
    have := ho.reads
    rw [hbare]
    simpa using this
set_option maxRecDepth 100000 in
set_option maxHeartbeats 4000000 in
theorem law (A : Option Addr) (cap : Nat) (es : List El) (w : World) (hcap : es.length ≤ cap) (h : Els w (.slice A es.length cap) es) : Calls Try.prog 5 #[.slice A es.length cap] w fun e w' => e = .returned (.bool true) ∧ Below w.heap.size w w' := by
  have H7 := Lib.hid (fits7_any _ es w h)
  have HP := Lib.hid (fun w' (hb : Below w.heap.size w w') => plain_any _ es w' (h.later hb))
  go_enter Try.func5, Try.ntmps5
  go_wp2_with fail
  refine H7.out.mono ?_
  rintro e w1 ⟨⟨b, rfl⟩, hb⟩
  have HB1 := Lib.hid hb
  clear hb
  cases b
  · go_wp2
    go_ret
    exact ⟨rfl, HB1.out⟩
  go_wp2_with fail
  refine (HP.out _ HB1.out).mono ?_
  rintro e w2 ⟨⟨b, rfl, hgood⟩, hb⟩
  have HB2 := Lib.hid (step_after HB1.out hb)
  clear hb
  cases b
  · clear hgood
    go_wp2
    go_ret
    exact ⟨rfl, HB2.out⟩
  have hg := hgood rfl
  have hlen := hg.len
  have hkinds := kinds_of_good es hg
  have HS := Lib.hid (fodderSplit_any _ es w2 (h.later HB2.out) hkinds (fine_of_good es hg) (by omega))
  have HK := Lib.hid hkinds
  have HGD := Lib.hid hg
  have HE := Lib.hid (fun w' (hb : Below w.heap.size w w') => h.later hb)
  clear hgood hg hkinds
  go_wp2_with fail
  refine HS.out.mono ?_
  rintro e w3 ⟨va, vb, rfl, ha, hbb, hb3⟩
  have HB3 := Lib.hid (step_after HB2.out hb3)
  have HA := Lib.hid (fun w' (hb : Below w3.heap.size w3 w') => ha.later hb)
  have HBv := Lib.hid (fun w' (hb : Below w3.heap.size w3 w') => hbb.later hb)
  obtain ⟨Ab, capb, hvb, -, -⟩ := hbb
  subst hvb
  obtain ⟨A', cap', hvv, -, hc⟩ := h
  cases hvv
  have HC := Lib.hid hc
  clear ha hb3 hc
  rcases split_at es with hone | ⟨pre, x, post, hes, hpre, hx⟩
  · have hsp := sp_ones es hone
    rw [hsp] at HA HBv ⊢
    have HSM := Lib.hid (fun w' (hb : Below w3.heap.size w3 w') => same_any va (.slice A es.length cap) es w' (HA.out w' hb) (HE.out w' (step_after HB3.out hb)))
    have HONE := Lib.hid (fun (k : Nat) (s : El) (hs : es[k]? = some s) => hone s (List.mem_of_getElem? hs))
    clear hone hsp
    go_wp2_with fail
    go_loop [6] (fun i => ∃ k : Nat, k ≤ es.length ∧ i = .int .i64 k) (fun i => es.length - (intOf i).toNat)
    case atStart => exact ⟨0, Nat.zero_le _, rfl⟩
    case round =>
      obtain ⟨k, hk, rfl⟩ := hrel
      by_cases hlt : k < es.length
      · obtain ⟨s, hs⟩ : ∃ s, es[k]? = some s := ⟨_, List.getElem?_eq_getElem hlt⟩
        obtain ⟨q, o, rfl, hcc⟩ := HC.out k s hs
        have c0 := cell_later HB3.out hcc.1
        rw [HONE.out k s hs] at c0
        have hki : (k : Int) < (es.length : Int) := by omega
        clear hs hcc
        go_wp2
        exact ⟨⟨k + 1, by omega, by go_num⟩, by simp [intOf]; omega⟩
      · obtain rfl : k = es.length := by omega
        have hki : ¬ ((es.length : Int) < (es.length : Int)) := by omega
        clear hlt
        go_wp2_with (go_at_call 13; refine (HSM.out _ (Below.refl _ _)).mono ?_; rintro e w4 ⟨rfl, hb⟩; have HB4 := Lib.hid hb; clear hb)
        go_ret
        exact ⟨rfl, step_after HB3.out HB4.out⟩
  · have hxi : es[pre.length]? = some x := by rw [hes]; simp
    have hnl : pre.length < es.length := by rw [hes]; simp
    have HONE := Lib.hid (fun (k : Nat) (s : El) (hk : k < pre.length) (hs : es[k]? = some s) => hpre s (by rw [hes, List.getElem?_append_left hk] at hs; exact List.mem_of_getElem? hs))
    have hsp := sp_at pre post x hpre hx
    rw [← hes] at hsp
    have HSPA := Lib.hid (show (sp es).a = pre ++ [bare x] by rw [hsp])
    have HX := Lib.hid hx
    have HXI := Lib.hid hxi
    have HES := Lib.hid hes
    have HPRE := Lib.hid hpre
    have HXG := Lib.hid (HGD.out.all.el pre.length x hnl hxi)
    obtain ⟨q, o, rfl, hcc⟩ := HC.out _ x hxi
    have d0 := cell_later HB3.out hcc.1
    have hkx : (x.k == 1) = false := by simpa using hx
    clear hsp hx hxi hes hpre hcc
    generalize hn : pre.length = n at *
    have HN := Lib.hid hn
    clear hn
    go_wp2_with fail
    go_loop [6] (fun i => ∃ k : Nat, k ≤ n ∧ i = .int .i64 k) (fun i => n - (intOf i).toNat)
    case atStart => exact ⟨0, Nat.zero_le _, rfl⟩
    case round =>
      obtain ⟨k, hk, rfl⟩ := hrel
      have hki : (k : Int) < (es.length : Int) := by omega
      by_cases hlt : k < n
      · obtain ⟨s, hs⟩ : ∃ s, es[k]? = some s := ⟨_, List.getElem?_eq_getElem (by omega)⟩
        obtain ⟨q', o', hqo, hcc⟩ := HC.out k s hs
        cases hqo
        have c0 := cell_later HB3.out hcc.1
        rw [HONE.out k s hlt hs] at c0
        clear hs hcc d0
        go_wp2
        exact ⟨⟨k + 1, by omega, by go_num⟩, by simp [intOf]; omega⟩
      · obtain rfl : k = n := by omega
        have hne : ((k : Int) == (es.length : Int)) = false := by simp; omega
        clear hlt
        have hci : (k : Int) + 1 ≤ (cap : Int) := by omega
        obtain ⟨ps', hps', hcells, hstr⟩ := els_prefix (HE.out w3 HB3.out) (k + 1) (by omega)
        rcases List.eq_nil_or_concat ps' with rfl | ⟨r, ⟨cv, y⟩, rfl⟩
        · rw [List.take_add_one, HXI.out] at hps'; simp at hps'
        rw [List.concat_eq_append, List.map_append, List.take_add_one, HXI.out] at hps'
        obtain ⟨hr1, hr2⟩ := List.append_inj' hps' rfl
        simp at hr2
        subst hr2
        rw [List.concat_eq_append] at hcells hstr
        have hrl : r.length = k := by have := congrArg List.length hr1; simp at this; omega
        have HFS := Lib.hid (fun w4 g cp h1 h2 => first_step (w4 := w4) (g := g) (cp := cp) hrl hstr HXG.out.b0 h1 h2)
        have HRN := Lib.hid (rowE_one _ hstr)
        have HCL := Lib.hid (show ∀ j u, (rowE (r ++ [(cv, y)]))[j]? = some u → (w3.alloc (.cells #[] 34)).cell? ((⟨q, o, none⟩ : Addr).add j) = some u from fun j u hj => by
          rw [add_off]; exact cell_later ((Below.refl _ _).alloc (Nat.le_refl _) _) (hcells j u hj))
        have HRL := Lib.hid (show (rowE (r ++ [(cv, y)])).length = (k + 1) * 4 by rw [rowE_len]; simp [hrl])
        have HR1 := Lib.hid hr1
        obtain ⟨i0, hi, hz0, hz1, hz2⟩ := info_parts Try.info34
        have HI : Hid (Try.prog.info? 34 = some i0 ∧ i0.zero = some (.agg #[.int .i64 0, .int .i64 0, .int .i64 0, .slice none 0 0]) ∧ i0.size = 4 ∧ i0.bytes = 48) := ⟨hi, hz0, hz1, hz2⟩
        clear hps' hcells hstr hr1 hrl hi hz0 hz1 hz2
        have HELK := Lib.hid (show ∀ w', Below w.heap.size w w' → ElAt w' q (o + k * 4) y from fun w' hb => by
          obtain ⟨A5, c5, h5, -, h6⟩ := HE.out w' hb
          cases h5
          obtain ⟨q7, o7, h7, h8⟩ := h6 k y HXI.out
          cases h7
          exact h8)
        have HSB := Lib.hid (show (sp (es.take (k + 1))).b = rest0 y ∧ (sp (es.take (k + 1))).f = true from by
          have e : es.take (k + 1) = pre ++ y :: [] := by
            rw [HES.out, ← HN.out]
            have e2 : pre ++ y :: post = (pre ++ [y]) ++ post := by simp
            rw [e2, List.take_append_of_le_length (by simp), List.take_of_length_le (by simp)]
          rw [e, sp_at pre [] y HPRE.out HX.out]
          exact ⟨rfl, rfl⟩)
        go_upto_if 68 with (at_builtin; refine wpList_append_lies _ rfl (.tmp 53) (.tmp 57) 28 rfl w3.heap.size 34 i0 _ 4 48 Try.underlying28 HI.out.1 HI.out.2.1 HI.out.2.2.1 HI.out.2.2.2 rfl (by decide) _ 0 [] rfl (fresh_row w3) ⟨q, o, none⟩ (k + 1) cap (rowE (r ++ [(cv, y)])) (by simp [Act.eval]) HRL.out HCL.out HRN.out (by omega) (by rw [maxLen_eq]; omega) (by omega) (by simp) _ rfl ?_; intro g cp w4 hown4 hg4 hat4 hl4; have h4 := HFS.out w4 g cp hown4 hg4; obtain ⟨⟨q1, q2⟩, h5, h6⟩ := h4; have HF5 := Lib.hid h5; have HB5 := Lib.hid h6; clear h5 h6 hown4 hg4 hat4 hl4; obtain ⟨f0, f1, f2, -⟩ := HELK.out _ (step_after HB3.out HB5.out))
        generalize (w4.setCell ⟨g, k * 4 + 1, none⟩ (.int .i64 0)) = w5 at HF5 HB5 f0 f1 f2 ⊢
        clear q1 q2
        have HFST : Hid (Els w5 (.slice (some ⟨g, 0, none⟩) (k + 1) cp) (sp es).a) := by
          have h := HF5.out
          rw [HR1.out] at h
          have e : es.take k = pre := by rw [HES.out, ← HN.out]; exact List.take_left
          rw [e, ← HSPA.out] at h
          exact h
        go_cut [8] (fun s8 wx => ∃ (A8 : Option Addr) (c8 : Nat), s8 = .slice A8 (sp (es.take (k + 1))).b.length c8 ∧ Els wx (.slice A8 (sp (es.take (k + 1))).b.length c8) (sp (es.take (k + 1))).b ∧ Below w5.heap.size w5 wx)
        case first =>
          by_cases hb0 : 0 < y.b
          · have hbb : decide (0 < y.b) = true := decide_eq_true hb0
            have HE0 := Lib.hid (show (sp (es.take (k + 1))).b = [⟨0, y.b, y.n, []⟩] by rw [HSB.out.1]; unfold rest0; rw [if_pos hb0])
            have HS5 := Lib.hid (show ∀ w', Below w5.heap.size w5 w' → w'.cell? ⟨q, o + k * 4 + 1, none⟩ = some (.int .i64 y.b) ∧ w'.cell? ⟨q, o + k * 4 + 2, none⟩ = some (.int .i64 y.n) from fun w' hb => ⟨cell_later hb f1, cell_later hb f2⟩)
            go_wp2_with fail
            go_region_held3 (fun w' => w'.cell? ⟨q, o + k * 4 + 1, none⟩ = some (.int .i64 y.b) ∧ w'.cell? ⟨q, o + k * 4 + 2, none⟩ = some (.int .i64 y.n))
              (first | (with_reducible exact HS5.out _ ((Below.refl _ _).drew)) | (with_reducible exact HS5.out _ ((Below.refl _ _).alloc (Nat.le_refl _) _)) | (with_reducible exact HS5.out _ (((Below.refl _ _).alloc (Nat.le_refl _) _).drew)) | (with_reducible exact HS5.out _ (((Below.refl _ _).drew).alloc (Nat.le_refl _) _)))
              (first | fail)
            all_goals
              go_wp2_with fail
              go_meet
              rw [HE0.out]
              exact ⟨some ⟨w5.heap.size, 0, none⟩, 1, rfl, els_one (q := w5.heap.size) (e := ⟨0, y.b, y.n, []⟩) (cv := .slice none 0 0) (heap_alloc_new w5 _) ⟨none, 0, rfl, by simp, fun j s h => by simp at h⟩, ((Below.refl _ _).alloc (Nat.le_refl _) _).drew⟩
          · have hbb : decide (0 < y.b) = false := decide_eq_false hb0
            have HE0 := Lib.hid (show (sp (es.take (k + 1))).b = [] by rw [HSB.out.1]; unfold rest0; rw [if_neg hb0])
            have hb1 : y.b ≤ 0 := by omega
            go_wp2_with fail
            go_meet
            rw [HE0.out]
            exact ⟨none, 0, rfl, ⟨none, 0, rfl, by simp, fun j s h => by simp at h⟩, Below.refl _ _⟩
        case rest =>
          obtain ⟨A8, c8, rfl, he8, hb8⟩ := hcut
          have HE8 := Lib.hid he8
          have HB8 := Lib.hid hb8
          clear he8 hb8 f0 f1 f2 d0
          have HFX := Lib.hid (HFST.out.later HB8.out)
          have HB8w := Lib.hid (step_after (step_after HB3.out HB5.out) HB8.out)
          have HB83 := Lib.hid (step_after HB5.out HB8.out)
          have HFI := Lib.hid (fine_of_good es HGD.out)
          have HLN := Lib.hid (fun m => (sp_len (es.take m)).2.1)
          have HSTEP := Lib.hid (fun (m : Nat) (s : El) (hs : es[m]? = some s) (hf : (sp (es.take m)).f = true) => (show sp (es.take (m + 1)) = ⟨(sp (es.take m)).a, appF (sp (es.take m)).b s, true⟩ by rw [sp_take hs]; unfold spStep; rw [hf]; rfl))
          have HKB := Lib.hid (fun m => kinds_sp (es.take m) (fun e he => HK.out e (List.mem_of_mem_take he)))
          have HFN := Lib.hid (fun w' (hb : Below wc.heap.size wc w') (A9 : Option Addr) (c9 n9 : Nat) (h9 : Els w' (.slice A9 n9 c9) (sp es).b) => same_any (.slice Ab (sp es).b.length capb) (.slice A9 n9 c9) (sp es).b w' (HBv.out w' (step_after HB83.out hb)) h9)
          have HFN1 := Lib.hid (fun w' (hb : Below wc.heap.size wc w') => same_any va (.slice (some ⟨g, 0, none⟩) (k + 1) cp) (sp es).a w' (HA.out w' (step_after HB83.out hb)) (HFX.out.later hb))
          have HEL := Lib.hid (fun w' (hb : Below wc.heap.size wc w') (m : Nat) (s : El) (hs : es[m]? = some s) => (show ElAt w' q (o + m * 4) s from by
            obtain ⟨A5, c5, h5, -, h6⟩ := HE.out w' (step_after HB8w.out hb)
            cases h5
            obtain ⟨q7, o7, h7, h8⟩ := h6 m s hs
            cases h7
            exact h8))
          have HLEN := Lib.hid (show es.take es.length = es from List.take_of_length_le (Nat.le_refl _))
          clear hlen
          have hlen := HGD.out.len
          go_wp2_with fail
          go_loopw [8, 9, 10, 11] (fun s8 s9 _ _ wr => ∃ (i : Nat) (A9 : Option Addr) (c9 : Nat), k + 1 ≤ i ∧ i ≤ es.length ∧ s9 = .int .i64 i ∧ s8 = .slice A9 (sp (es.take i)).b.length c9 ∧ Els wr (.slice A9 (sp (es.take i)).b.length c9) (sp (es.take i)).b ∧ Below wc.heap.size wc wr ∧ Hid ((sp (es.take i)).f = true)) (fun _ s9 _ _ _ => es.length - (intOf s9).toNat)
          case atStart => exact ⟨k + 1, A8, c8, Nat.le_refl _, by omega, by go_num, rfl, HE8.out, Below.refl _ _, HSB.out.2⟩
          case round =>
            obtain ⟨i, A9, c9, hi0, hi1, rfl, rfl, he9, hb9, hf9⟩ := hrel
            by_cases hlt : i < es.length
            · obtain ⟨s, hs⟩ : ∃ s, es[i]? = some s := ⟨_, List.getElem?_eq_getElem hlt⟩
              obtain ⟨c0, c1, c2, cv2, c3, hst⟩ := HEL.out _ hb9 i s hs
              obtain ⟨A7, c7, rfl⟩ := hst.form
              have hki2 : (i : Int) < (es.length : Int) := by omega
              have HAP := Lib.hid (fodderAppend_any (.slice A9 (sp (es.take i)).b.length c9) (sp (es.take i)).b s A7 c7 wr he9 hst (HKB.out i) (HK.out s (List.mem_of_getElem? hs)) (HFI.out i s hs hf9.out) (by have := HLN.out i; simp at this; omega))
              have hst2 := HSTEP.out i s hs hf9.out
              have HS2 := Lib.hid hst2
              have hgr := appF_grows (sp (es.take i)).b s
              have HB9 := Lib.hid hb9
              have hl1 : (sp (es.take i)).b.length ≤ 200 := by have := HLN.out i; simp at this; omega
              have hl2 : (appF (sp (es.take i)).b s).length ≤ 202 := by have := appF_len (sp (es.take i)).b s; omega
              have hcmp : decide ((appF (sp (es.take i)).b s).length ≤ (sp (es.take i)).b.length) = false := decide_eq_false (by omega)
              clear hs hst hb9 he9 hst2 hgr
              go_wp2_with fail
              refine HAP.out.mono ?_
              rintro e w7 ⟨v7, rfl, he7, hb7⟩
              obtain ⟨A6, c6, hv6, -, -⟩ := id he7
              subst hv6
              have HE7 := Lib.hid he7
              have HB7 := Lib.hid (step_after HB9.out hb7)
              clear he7 hb7 c0 c1 c2 c3
              go_wp2
              refine ⟨⟨i + 1, A6, c6, by omega, by omega, by go_num, by rw [HS2.out], by rw [HS2.out]; exact HE7.out, HB7.out, by rw [HS2.out]; rfl⟩, by simp [intOf]; omega⟩
            · obtain rfl : i = es.length := by omega
              have hki2 : ¬ ((es.length : Int) < (es.length : Int)) := by omega
              rw [HLEN.out] at he9 ⊢
              have HE9 := Lib.hid he9
              have HB9 := Lib.hid hb9
              clear he9 hb9 hlt
              go_wp2_with fail
              refine (HFN1.out _ HB9.out).mono ?_
              rintro e w7 ⟨rfl, hb7⟩
              have HE7 := Lib.hid (HE9.out.later hb7)
              have HB7 := Lib.hid (step_after HB9.out hb7)
              clear hb7
              go_wp2_with fail
              refine (HFN.out _ HB7.out _ _ _ HE7.out).mono ?_
              rintro e w8 ⟨rfl, hb8⟩
              have HB0 := Lib.hid (step_after (step_after HB8w.out HB7.out) hb8)
              clear hb8
              go_wp2
              go_ret
              exact ⟨rfl, HB0.out⟩
end Go.Proofs.Ytfdkgaipakannaa.split

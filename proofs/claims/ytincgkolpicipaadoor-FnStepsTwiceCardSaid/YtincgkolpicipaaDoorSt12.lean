/- FnStepsTwice: jsonnet.chain, walked. -/
import Derived.Test.YtincgkolpicipaaDoorSt11
namespace Go.Proofs.YtincgkolpicipaaDoor.twice
open Go.RowKit
theorem step_delete {W : World} {b n : Nat} {f : Vw} {k : List UInt8} {ops : Array Oper} {o : Oper} {a : Act} {K : Act → World → Prop} {Q : Exit → Act → World → Prop} {E : Prop} (hg : o.guard = none) (s r : Operand) (ho : o.op = .call { callee := .builtin .delete, args := #[s, r], argTypes := #[56, 9] })
    (hm : MapV hR W b f n) (hs : a.eval s = .map (some b)) (hr : a.eval r = .string ⟨k.toArray⟩) (hk : k.length ≤ 9223372036854775807) (h : ∀ W', MapV hR W' b (delV f k) n → W.grownBy W' (some b) → K (a.put o.dst (.tuple #[])) W') :
    if Region.wanted o (yielded ops a.tmps) = true then Oper.wp Tryd.prog o a W K Q else E := by
  have hw : Region.wanted o (yielded ops a.tmps) = true := by simp [Region.wanted, hg]
  rw [if_pos hw]
  obtain ⟨W', hrun, r1, r2⟩ := hm.delete k hk o.type
  unfold Oper.wp
  simp [execOp, ho, resolve, invoke, builtin, hs, hr, hrun, Result.andThen]
  exact h W' r1 r2
theorem ta75 (a : Addr) (W : World) : (Instr.typeAssert (.iface 75 (.pointer (some a))) 68 75 false).run Tryd.prog W = .ok (.pointer (some a)) W := by kernel_rfl
theorem del_cells {W : World} {g p b n c : Nat} {f : Vw} {o : Ob} {s : ByteArray} {u1 u2 u3 : Value} (h : VoAt W g (.res p b f n o)) (hc : W.heap[c]? = some (.cells #[.string s, u1, u2, u3] 52 (0, 0))) :
    (W.drew.cell? ⟨g, 2, none⟩ = some (.iface 75 (.pointer (some ⟨p, 0, none⟩))) ∧ W.drew.cell? ⟨p, 1, none⟩ = some (.map (some b)) ∧ W.drew.cell? ⟨c, 0, none⟩ = some (.string s)) ∧
    ∀ W', W.drew.grownBy W' (some b) → W'.cell? ⟨g, 2, none⟩ = some (.iface 75 (.pointer (some ⟨p, 0, none⟩))) ∧ W'.cell? ⟨p, 1, none⟩ = some (.map (some b)) ∧ W'.cell? ⟨c, 0, none⟩ = some (.string s) := by
  obtain ⟨⟨m, h1⟩, h2, ⟨D, ⟨es, ck, e1, _⟩, _⟩, _⟩ := h
  have hmap : ∀ (cs : Array Value) (t : TypeId) (fr : Nat × Nat) (q : Nat), W.heap[q]? = some (.cells cs t fr) → q ≠ b := fun cs t fr q hq e => by
    subst e
    rw [e1] at hq; cases hq
  have key : ∀ W' : World, (∀ q, q ≠ b → q < W.heap.size → W'.heap[q]? = W.heap[q]?) → W'.cell? ⟨g, 2, none⟩ = some (.iface 75 (.pointer (some ⟨p, 0, none⟩))) ∧ W'.cell? ⟨p, 1, none⟩ = some (.map (some b)) ∧ W'.cell? ⟨c, 0, none⟩ = some (.string s) := fun W' hk => by
    have a1 := (hk g (hmap _ _ _ _ h1) (Array.getElem?_eq_some_iff.1 h1).1).trans h1
    have a2 := (hk p (hmap _ _ _ _ h2) (Array.getElem?_eq_some_iff.1 h2).1).trans h2
    have a3 := (hk c (hmap _ _ _ _ hc) (Array.getElem?_eq_some_iff.1 hc).1).trans hc
    exact ⟨cell_of_row W' _ 2 _ _ _ a1, cell_of_row W' _ 1 _ _ _ a2, cell_of_row W' _ 0 _ _ _ a3⟩
  exact ⟨key W.drew fun _ _ _ => rfl, fun W' hg => key W' fun q hq hl => hg.block q hl (by simp; omega)⟩
theorem step_first {f : Vw} {k : Nat} {s : Sp} (h : s.is = false) (hk : k = 0) : stepV f k s = objV s := by unfold stepV; simp [h, hk]
theorem step_more {f : Vw} {k : Nat} {s : Sp} (h : s.is = false) (hk : k ≠ 0) : stepV f k s = extV f (objV s) := by unfold stepV; simp [h, hk]
theorem step_del {f : Vw} {k : Nat} {s : Sp} (h : s.is = true) : stepV f k s = delV f s.rem := by unfold stepV; simp [h]
set_option maxRecDepth 100000 in
set_option maxHeartbeats 8000000 in
theorem chain_any (v : Value) (es : List Sp) (w : World) (h : Css w v es) (hf : Few es) : Calls Tryd.prog 21 #[v] w fun e w' => ∃ v', e = .returned v' ∧ CRel w es es.length v' w' := by
  obtain ⟨A, cap, rfl, hl, hc⟩ := h
  have HC := Lib.hid hc
  have HF := Lib.hid hf
  have HS0 := Lib.hid (simple_any { data := #[] } (.slice none 0 0) (.slice none 0 0) false [] [] w ⟨none, 0, rfl, by simp, fun j s h => by simp at h⟩ ⟨none, 0, rfl, by simp, fun j s h => by simp at h⟩ rfl)
  clear hc hf
  generalize hn : es.length = n at *
  have HN := Lib.hid hn
  clear hn
  go_enter Tryd.func21, Tryd.ntmps21
  go_wp2_with (go_at_call 24; refine HS0.out.mono ?_; rintro e w1 ⟨hb1, g0, o0, rfl, hvo, hv, hcn⟩; have HST := Lib.hid (show CRel w es 0 (.pointer (some ⟨g0, 0, none⟩)) w1 from ⟨⟨g0, o0, rfl, hvo, hv, by rw [hcn]; simp⟩, hb1⟩); clear hb1 hvo hv hcn)
  go_loopw [3, 4, 5, 6, 11] (fun v3 _ _ _ i wr => ∃ k : Nat, k ≤ n ∧ i = .int .i64 k ∧ CRel w es k v3 wr) (fun _ _ _ _ i _ => n - (intOf i).toNat)
  case atStart => exact ⟨0, Nat.zero_le _, rfl, HST.out⟩
  case round =>
    obtain ⟨k, hk, rfl, hr⟩ := hrel
    by_cases hlt : k < n
    · obtain ⟨s, hs⟩ : ∃ s, es[k]? = some s := ⟨_, List.getElem?_eq_getElem (by have := HN.out; omega)⟩
      obtain ⟨q, o, rfl, hel⟩ := HC.out k s hs
      obtain ⟨⟨g, ob, hgv, hvo, hview, hcnt⟩, hbel⟩ := hr
      subst hgv
      obtain ⟨c0, c3, hrl, nv, hv, c1, c2, hst, hin⟩ := hel.later hbel
      obtain ⟨A2, cap2, rfl⟩ := hst.form
      obtain ⟨A3, cap3, rfl⟩ := hin.form
      obtain ⟨hl1, hl2⟩ := HF.out.all k s hs
      have hki : (k : Int) < (n : Int) := by omega
      have HSS := Lib.hid hs
      have HB := Lib.hid hbel
      have HV := Lib.hid hview
      have HCT := Lib.hid hcnt
      have HK13 := Lib.hid (show k ≤ 13 by have h1 := HF.out.len; have h2 := HN.out; omega)
      have HL12 := Lib.hid hl2
      have HRL := Lib.hid hrl
      have hbA : Below wr.heap.size wr (wr.alloc (.cells #[.string ⟨s.rem.toArray⟩, .slice A2 s.names.length cap2, .slice A3 s.hides.length cap3, .bool s.is] 52)) := ba1 _ _
      have hnew := heap_alloc_new wr (.cells #[.string ⟨s.rem.toArray⟩, .slice A2 s.names.length cap2, .slice A3 s.hides.length cap3, .bool s.is] 52)
      have HVO := Lib.hid (hvo.later hbA)
      have HBA := Lib.hid (step_after hbel hbA)
      have HSM := Lib.hid (simple_any ⟨s.rem.toArray⟩ _ _ s.is s.names s.hides _ (hst.later hbA) (hin.later hbA) hl1)
      have HNW := Lib.hid hnew
      clear hs hst hin hel hvo hview hcnt hbel hl1 hl2 hrl hbA hnew
      cases his : s.is
      · rw [his] at HSM HVO HBA HNW
        rw [his] at c3
        have HIS := Lib.hid his
        clear his
        by_cases k0 : k = 0
        · have hk0 : ((k : Int) == 0) = true := by simp; omega
          have HK0 := Lib.hid k0
          clear k0
          go_wp2_with (go_at_call 24; refine HSM.out.mono ?_; rintro e w4 ⟨hb4, g4, o4, rfl, hvo4, hv4, hc4⟩; have HX := Lib.hid (crel_step HSS.out HBA.out hb4 hvo4 (by rw [step_first HIS.out HK0.out]; exact hv4) (by rw [hc4]; have := HL12.out; omega)); clear hb4 hvo4 hv4 hc4)
          exact ⟨⟨k + 1, by omega, by go_num, HX.out⟩, by simp [intOf]; omega⟩
        · have hk0 : ((k : Int) == 0) = false := by simp; omega
          have HK0 := Lib.hid k0
          clear k0
          go_wp2_with (first
            | (go_at_call 24; refine HSM.out.mono ?_; rintro e w4 ⟨hb4, g4, o4, rfl, hvo4, hv4, hc4⟩; have HV4 := Lib.hid hvo4; have HB4 := Lib.hid (step_after HBA.out hb4); have HO4 := Lib.hid (HVO.out.later hb4); have HE4 := Lib.hid (And.intro hv4 hc4); clear hb4 hvo4 hv4 hc4)
            | (go_at_call 26; refine (mkExtended_any g g4 ob o4 w4 HO4.out HV4.out).mono ?_; rintro e w5 ⟨hb5, g5, p5, z5, rfl, hvo5⟩; have HX := Lib.hid (crel_step HSS.out HB4.out hb5 hvo5 (by rw [step_more HIS.out HK0.out, ← HV.out]; show extV ob.view o4.view = _; rw [HE4.out.1]; rfl) (by show ob.cnt + o4.cnt ≤ _; rw [HE4.out.2]; have h1 := HL12.out; have h2 := HCT.out; omega)); clear hb5 hvo5))
          exact ⟨⟨k + 1, by omega, by go_num, HX.out⟩, by simp [intOf]; omega⟩
      · rw [his] at HSM HVO HBA HNW
        rw [his] at c3
        have HIS := Lib.hid his
        have HMR := Lib.hid (mkRestricted_any g ob _ HVO.out (by have h1 := HCT.out; have h2 := HK13.out; omega))
        clear his HSM
        have hta := ta75
        go_wp2_with (go_at_call 25; refine HMR.out.mono ?_; rintro e w4 ⟨hb4, g4, p4, b4, rfl, hle4, hvo4⟩; have HV4 := Lib.hid hvo4; have HB4 := Lib.hid hb4; have HLE4 := Lib.hid hle4; have HS4 := Lib.hid (del_cells hvo4 (Chg.keep (X := fun _ => False) (Chg.below hb4) HNW.out id)); clear hb4 hvo4 hle4)
        go_region_held3 (fun w' => w'.cell? ⟨g4, 2, none⟩ = some (.iface 75 (.pointer (some ⟨p4, 0, none⟩))) ∧ w'.cell? ⟨p4, 1, none⟩ = some (.map (some b4)) ∧ w'.cell? ⟨wr.heap.size, 0, none⟩ = some (.string ⟨s.rem.toArray⟩))
          (first | (with_reducible exact HS4.out.1) | (with_reducible exact HS5.out))
          (first
            | (refine step_delete rfl (.tmp 32) (.tmp 34) rfl HV4.out.2.2.1 rfl rfl HRL.out ?_
               intro w5 hm5 hg5
               have HS5 := Lib.hid (HS4.out.2 w5 hg5)
               have HX := Lib.hid (struck HB4.out HLE4.out HV4.out HVO.out.2 hm5 (show w4.grownBy w5 (some b4) from ⟨hg5.os, hg5.tape, hg5.output, hg5.size, hg5.block⟩))
               clear hm5 hg5))
        go_wp2_with fail
        have HY := Lib.hid (crel_step HSS.out HBA.out HX.out.1 HX.out.2 (by rw [step_del HIS.out, ← HV.out]; rfl) (by show ob.cnt ≤ _; have h2 := HCT.out; omega))
        exact ⟨⟨k + 1, by omega, by go_num, HY.out⟩, by simp [intOf]; omega⟩
    · have hki : ¬ (k : Int) < (n : Int) := by omega
      have HR := Lib.hid hr
      have HE := Lib.hid (show n = k by omega)
      clear hr
      go_wp2
      go_returns
      exact ⟨_, rfl, by rw [HE.out]; exact HR.out⟩
end Go.Proofs.YtincgkolpicipaaDoor.twice

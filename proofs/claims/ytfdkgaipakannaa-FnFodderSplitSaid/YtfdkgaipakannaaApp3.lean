/- ast.FodderAppend by contract: a paragraph behind what does not end a line. -/
import Derived.Test.YtfdkgaipakannaaApp2
namespace Go.Proofs.Ytfdkgaipakannaa.split
open Go.RowKit
theorem Cmt.empty {B : Nat} {W : World} {A : Option Addr} {c : Nat} : Cmt B W (.slice A 0 c) [] :=
  ⟨⟨A, c, rfl, by simp, fun j s h => by simp at h⟩, fun q o n c' e hn => by cases e; omega⟩
/-- Behind the line's end that was put ahead of the paragraph: the element in block b0 is as it was. -/
structure Mid (B base pb b0 : Nat) (v : Value) (es : List El) (c0 c1 c2 c3 : Value) (w w' : World) : Prop where
  rel : AppRel B base pb v es w w'
  row : w'.heap[b0]? = some (.cells #[c0, c1, c2, c3] 55 (0, 0))
theorem row_kept {wA W w2 : World} {b0 pb : Nat} {v u : Value} {o : Obj} (h : wA.heap[b0]? = some o) (hb : Below wA.heap.size wA W) (hg : W.grownBy w2 v.ownBlock) (hf : ¬ (b0 = pb ∨ v.ownBlock = some b0)) : (w2.setCell ⟨pb, 0, none⟩ u).heap[b0]? = some o := by
  have hlt := (Array.getElem?_eq_some_iff.1 h).1
  rw [Below.heap_setCell _ _ _ _ (fun e => hf (.inl e)), hg.block b0 (Nat.lt_of_lt_of_le hlt hb.size) (fun e => hf (.inr e.symm)), hb.block b0 hlt]
  exact h
set_option maxRecDepth 100000 in
set_option maxHeartbeats 4000000 in
theorem append_two (B base pb : Nat) (v : Value) (ps : List (Value × El)) (e : El) (A : Option Addr) (cap : Nat) (w : World) (hB : B ≤ base) (hpb : B ≤ pb) (hbase : base ≤ w.heap.size)
    (hslot : w.heap[pb]? = some (.cells #[v] 44 (0, 0))) (hown : OwnA w base B v ps) (hcm : Cmt B w (.slice A e.c.length cap) e.c) (hl : ps.length ≤ 1000) (hcl : clean (ps.map (·.2)) = false) (hk2 : e.k = 2) :
    Calls Try.prog 26 #[.pointer (some ⟨pb, 0, none⟩), .agg #[.slice A e.c.length cap, .int .i64 e.k, .int .i64 e.b, .int .i64 e.n]] w fun e' w' => e' = .returned (.tuple #[]) ∧ AppRel B base pb v (ps.map (·.2) ++ [⟨0, 0, e.n, []⟩, e]) w w' := by
  obtain ⟨i0, hi, hz0, hz1, hz2⟩ := info_parts Try.info55
  have hlt : pb < w.heap.size := (Array.getElem?_eq_some_iff.1 hslot).1
  have hbA : Below w.heap.size w (w.alloc (.cells #[.slice A e.c.length cap, .int .i64 e.k, .int .i64 e.b, .int .i64 e.n] 55)) := (Below.refl _ _).alloc (Nat.le_refl _) _
  have HZA := Lib.hid (show (w.alloc (.cells #[.slice A e.c.length cap, .int .i64 e.k, .int .i64 e.b, .int .i64 e.n] 55)).heap.size = w.heap.size + 1 by simp)
  have hnew := heap_alloc_new w (.cells #[.slice A e.c.length cap, .int .i64 e.k, .int .i64 e.b, .int .i64 e.n] 55)
  have HCL := Lib.hid (fun w' (hb : Below w.heap.size w w') => clean_any B v (ps.map (·.2)) w' (hown.later hb).reads (by simp; omega))
  have HST := Lib.hid (fun A1 c1 W w2 g cp h1 h3 h4 h5 => app_step (w := w) (W := W) (w2 := w2) (g := g) (cap := cp) (cv := .slice A1 0 c1) (e := ⟨0, 0, e.n, []⟩) hB hpb hslot hown h1 Cmt.empty h3 h4 h5)
  have HST2 := Lib.hid (fun v1 ps1 wx W w2 g cp hs ho h1 h2 h3 h4 h5 => app_step (v := v1) (ps := ps1) (w := wx) (W := W) (w2 := w2) (g := g) (cap := cp) (cv := .slice A e.c.length cap) (e := e) hB hpb hs ho h1 h2 h3 h4 h5)
  have HI : Hid (Try.prog.info? 55 = some i0 ∧ i0.zero = some (.agg #[.slice none 0 0, .int .i64 0, .int .i64 0, .int .i64 0]) ∧ i0.size = 4 ∧ i0.bytes = 48) := ⟨hi, hz0, hz1, hz2⟩
  have HCM := Lib.hid (fun w' (hb : Below w.heap.size w w') => hcm.later hb)
  have HO := Lib.hid (fun w' (hb : Below w.heap.size w w') => hown.later hb)
  have HBA := Lib.hid hbA
  have HO1 := Lib.hid (show ∀ w', Below w.heap.size w w' → w'.ownsRow base 55 4 v ps.length (rowA ps) from fun w' hb => (hown.later hb).1)
  have HBS := Lib.hid hbase
  have HLP := Lib.hid hl
  have hp : (w.alloc (.cells #[.slice A e.c.length cap, .int .i64 e.k, .int .i64 e.b, .int .i64 e.n] 55)).cell? ⟨pb, 0, none⟩ = some v := cell_of_one ((hbA.block pb hlt).trans hslot)
  obtain ⟨c0, c1, c2, c3⟩ : (w.alloc (.cells #[.slice A e.c.length cap, .int .i64 e.k, .int .i64 e.b, .int .i64 e.n] 55)).cell? ⟨w.heap.size, 0, none⟩ = some (.slice A e.c.length cap) ∧ (w.alloc (.cells #[.slice A e.c.length cap, .int .i64 e.k, .int .i64 e.b, .int .i64 e.n] 55)).cell? ⟨w.heap.size, 1, none⟩ = some (.int .i64 e.k) ∧ (w.alloc (.cells #[.slice A e.c.length cap, .int .i64 e.k, .int .i64 e.b, .int .i64 e.n] 55)).cell? ⟨w.heap.size, 2, none⟩ = some (.int .i64 e.b) ∧ (w.alloc (.cells #[.slice A e.c.length cap, .int .i64 e.k, .int .i64 e.b, .int .i64 e.n] 55)).cell? ⟨w.heap.size, 3, none⟩ = some (.int .i64 e.n) :=
    four_cells hnew
  have hsafe : Safe B w (fun k => k = pb ∨ v.ownBlock = some k) := by
    rintro k (rfl | hk)
    · refine ⟨hpb, fun cs fr hc => ?_⟩
      rw [hslot] at hc
      injection hc with hc
      injection hc with _ ht
      exact absurd ht (by decide)
    · exact safe_of_row hown.1 (by decide) hB k hk
  have HSF := Lib.hid (show ∀ w', Chg (fun k => k = pb ∨ v.ownBlock = some k) w w' → Cmt B w' (.slice A e.c.length cap) e.c from fun w' hx => hcm.chg hsafe hx)
  have hfar : ¬ (w.heap.size = pb ∨ v.ownBlock = some w.heap.size) := by
    rintro (h | h)
    · omega
    · have := (hown.1.lt _ h).2; omega
  have HFAR := Lib.hid hfar
  have HNEW := Lib.hid hnew
  clear hsafe hfar hnew hbA hlt hown hcm hslot hB hpb hbase hl hi hz0 hz1 hz2
  have hkk : (e.k == 2) = true := by rw [hk2]; rfl
  have hk0 : (e.k == 0) = false := by rw [hk2]; rfl
  clear hk2
  rw [hcl] at HCL
  clear hcl
  go_enter Try.func26, Try.ntmps26
  go_wp2_with fail
  generalize (w.alloc (.cells #[.slice A e.c.length cap, .int .i64 e.k, .int .i64 e.b, .int .i64 e.n] 55)) = wA at HZA HBA HNEW hp c0 c1 c2 c3 ⊢
  refine (HCL.out wA HBA.out).mono ?_
  rintro e' w' ⟨rfl, rfl⟩
  go_upto_region 8 with (go_at_call 33; refine (HCL.out wA HBA.out).mono ?_; rintro e' w' ⟨rfl, rfl⟩)
  have HBW := Lib.hid (show ∀ o, Below w.heap.size w (wA.alloc o).drew from fun o => (HBA.out.alloc HBA.out.size o).drew)
  have HBW2 := Lib.hid (show ∀ o, Below wA.heap.size wA (wA.alloc o).drew from fun o => ((Below.refl _ _).alloc (Nat.le_refl _) o).drew)
  have hpa : ∀ o, (wA.alloc o).cell? ⟨pb, 0, none⟩ = some v := fun o => cell_later ((Below.refl _ _).alloc (Nat.le_refl _) o) hp
  have hca : ∀ o, (wA.alloc o).cell? ⟨w.heap.size, 3, none⟩ = some (.int .i64 e.n) := fun o => cell_later ((Below.refl _ _).alloc (Nat.le_refl _) o) c3
  have HPC := Lib.hid (show ∀ w', Below wA.heap.size wA w' → w'.cell? ⟨pb, 0, none⟩ = some v ∧ ∀ o, (w'.alloc o).cell? ⟨pb, 0, none⟩ = some v from fun w' hb => ⟨cell_later hb hp, fun o => cell_later ((Below.refl _ _).alloc (Nat.le_refl _) o) (cell_later hb hp)⟩)
  go_cut [] (fun wx => Mid B base pb w.heap.size v (ps.map (·.2) ++ [⟨0, 0, e.n, []⟩]) (.slice A e.c.length cap) (.int .i64 e.k) (.int .i64 e.b) (.int .i64 e.n) w wx)
  case first =>
    go_region_law
      (first
        | (refine step_append_lies _ (by rfl) (.tmp 68) (.tmp 73) 44 (by rfl) base 55 i0 _ 4 48 Try.underlying44 HI.out.1 HI.out.2.1 HI.out.2.2.1 HI.out.2.2.2 rfl (by decide) v ps.length (rowA ps) (by rfl) (HO1.out _ (hbw.alloc hbw.size _)) ⟨w1.heap.size, 0, none⟩ 1 1 [.slice (some ⟨wA.heap.size, 0, none⟩) 0 0, .int .i64 0, .int .i64 0, .int .i64 e.n] (by rfl) rfl (World.news_of_block (heap_alloc_new w1 _)) (oneA _ _ _ _ _ _) (by decide) (by rw [maxLen_eq]; have := HLP.out; omega) (by have := HLP.out; omega) (Nat.le_trans HBS.out (hbw.alloc hbw.size _).size) _ (by rfl) ?_
           intro g cp w2 hown2 hg2 hat2 hlt2
           have hst := HST.out _ _ _ w2 g cp (hbw.alloc hbw.size _) hown2 hg2 hat2
           have hrk := row_kept (pb := pb) (u := .slice (some ⟨g, 0, none⟩) (ps.length + 1) cp) HNEW.out (hbw2.alloc hbw2.size _) hg2 HFAR.out
           obtain ⟨⟨q1, q2⟩, hq⟩ := hst
           have HQ := Lib.hid hq
           have HRK := Lib.hid hrk
           clear hq hown2 hg2 hat2 hlt2 hrk)
        | (go_simp; go_at_call 34; refine (make_line _ _ _ _).mono ?_; rintro e' w1 ⟨rfl, hb1⟩; have hbw := step_after (HBW.out _) hb1; have hbw2 := step_after (HBW2.out _) hb1; obtain ⟨hp1, hp2⟩ := HPC.out _ hbw2; clear hb1))
    all_goals (go_wp2_with fail; go_meet)
    all_goals exact ⟨⟨⟨_, _, HQ.out.1, HQ.out.2.1, by simp, by rcases HQ.out.2.2.1 with h | h; (exact .inl h.symm); (exact .inr ⟨g, rfl, h⟩)⟩, HQ.out.2.2.2⟩, HRK.out⟩
  case rest =>
    obtain ⟨⟨⟨v1, ps1, hs1, ho1, hm1, ha1⟩, hx1⟩, hrow⟩ := hcut
    have hl1 : ps1.length = ps.length + 1 := by have := congrArg List.length hm1; simpa using this
    have HLP1 := Lib.hid (show ps1.length ≤ 2000 by have := HLP.out; omega)
    have HBC := Lib.hid (Nat.le_trans HBS.out hx1.size)
    have hp9 := cell_of_one hs1
    obtain ⟨d0, d1, d2, d3⟩ := four_cells hrow
    have HSTC := Lib.hid (HST2.out v1 ps1 wc)
    have HCMC := Lib.hid (HSF.out wc hx1)
    have HO9 := Lib.hid (fun w' (hb : Below wc.heap.size wc w') => (ho1.later hb).1)
    have HBW9 := Lib.hid (show ∀ o, Below wc.heap.size wc (wc.alloc o).drew from fun o => ((Below.refl _ _).alloc (Nat.le_refl _) o).drew)
    have HFIN := Lib.hid (show ∀ (v2 : Value) (w3 : World), w3.heap[pb]? = some (.cells #[v2] 44 (0, 0)) → OwnA w3 base B v2 (ps1 ++ [(.slice A e.c.length cap, e)]) → (v1.ownBlock = v2.ownBlock ∨ ∃ g, v2.ownBlock = some g ∧ wc.heap.size ≤ g) → Chg (fun k => k = pb ∨ v1.ownBlock = some k) wc w3 → AppRel B base pb v (ps.map (·.2) ++ [⟨0, 0, e.n, []⟩, e]) w w3 from fun v2 w3 k1 k2 k3 k4 => by
      refine ⟨⟨v2, _, k1, k2, by rw [List.map_append, hm1]; simp, ?_⟩, hx1.step k4 fun i hi hY => ?_⟩
      · rcases k3 with k3 | ⟨g, hg, hge⟩
        · rw [← k3]; exact ha1
        · exact .inr ⟨g, hg, Nat.le_trans hx1.size hge⟩
      · rcases hY with h | h
        · exact .inl h
        · rcases ha1 with h1 | ⟨g, hg, hge⟩
          · exact .inr (by rw [← h1]; exact h)
          · rw [hg] at h; cases h; omega)
    have HSL := Lib.hid hs1
    have HOW := Lib.hid ho1
    clear hs1 ho1 hm1 ha1 hx1 hrow hl1 c0 c1 c2 c3 hp hpa hca
    have hpa : ∀ o, (wc.alloc o).cell? ⟨pb, 0, none⟩ = some v1 := fun o => cell_later ((Below.refl _ _).alloc (Nat.le_refl _) o) hp9
    go_wp2_with fail
    go_region_law
      ((refine step_append_lies _ (by rfl) (.tmp 79) (.tmp 81) 44 (by rfl) base 55 i0 _ 4 48 Try.underlying44 HI.out.1 HI.out.2.1 HI.out.2.2.1 HI.out.2.2.2 rfl (by decide) v1 ps1.length (rowA ps1) (by rfl) ((HO9.out _ (HBW9.out _))) ⟨wc.heap.size, 0, none⟩ 1 1 [.slice A e.c.length cap, .int .i64 e.k, .int .i64 e.b, .int .i64 e.n] (by rfl) rfl (World.news_of_block (heap_alloc_new wc _)) (oneA _ _ _ _ _ _) (by decide) (by rw [maxLen_eq]; have := HLP1.out; omega) (by have := HLP1.out; omega) (Nat.le_trans HBC.out (HBW9.out _).size) _ (by rfl) ?_
        intro g cp w2 hown2 hg2 hat2 hlt2
        have hst := HSTC.out _ w2 g cp HSL.out HOW.out (HBW9.out _) (HCMC.out.later (HBW9.out _)) hown2 hg2 hat2
        obtain ⟨⟨q1, q2⟩, hq⟩ := hst
        have HQ := Lib.hid hq
        clear hq hown2 hg2 hat2 hlt2))
    all_goals
      go_end0
      exact ⟨rfl, HFIN.out _ _ HQ.out.1 HQ.out.2.1 (by rcases HQ.out.2.2.1 with h | h; (exact .inl h); (exact .inr ⟨g, rfl, h⟩)) HQ.out.2.2.2⟩
theorem append_any (B base pb : Nat) (v : Value) (ps : List (Value × El)) (e : El) (A : Option Addr) (cap : Nat) (w : World) (hB : B ≤ base) (hpb : B ≤ pb) (hbase : base ≤ w.heap.size)
    (hslot : w.heap[pb]? = some (.cells #[v] 44 (0, 0))) (hown : OwnA w base B v ps) (hcm : Cmt B w (.slice A e.c.length cap) e.c) (hl : ps.length ≤ 1000) (hno : clean (ps.map (·.2)) = true → e.k ≠ 0) :
    Calls Try.prog 26 #[.pointer (some ⟨pb, 0, none⟩), .agg #[.slice A e.c.length cap, .int .i64 e.k, .int .i64 e.b, .int .i64 e.n]] w fun e' w' => e' = .returned (.tuple #[]) ∧ AppRel B base pb v (appF (ps.map (·.2)) e) w w' := by
  by_cases h : clean (ps.map (·.2)) = false ∧ e.k = 2
  · unfold appF; rw [if_pos h]
    exact append_two B base pb v ps e A cap w hB hpb hbase hslot hown hcm hl h.1 h.2
  · unfold appF; rw [if_neg h]
    exact append_one B base pb v ps e A cap w hB hpb hbase hslot hown hcm hl hno h
end Go.Proofs.Ytfdkgaipakannaa.split

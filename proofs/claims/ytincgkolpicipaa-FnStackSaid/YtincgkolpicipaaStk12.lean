/- FnStack: newLocal by contract. -/
import Derived.Test.YtincgkolpicipaaStk11
namespace Go.Proofs.Ytincgkolpicipaa.stack
open Go.RowKit
set_option maxRecDepth 100000 in
set_option maxHeartbeats 8000000 in
theorem newLocal_any (B g mb : Nat) (x y : Option Addr) (sl : Value) (n m : Int) (ps : List (Nat × Fr)) (f : Fr) (w : World) (h : Cs w g (.pointer x) (.pointer y) sl n m) (ho : StkO w B sl ps) (hm : MapOk w mb f.names f.step) (hl : ps.length ≤ 200) (hB : B ≤ w.heap.size) (hf : f.call = false ∧ f.trim = false) :
    Calls Try.prog 47 #[.pointer (some ⟨g, 0, none⟩), .map (some mb)] w fun e w' => e = .returned (.tuple #[]) ∧ ∃ sl' p, Cs w' g (.pointer none) (.pointer none) sl' n m ∧ StkO w' B sl' (ps ++ [(p, f)]) ∧ Chg (fun k => k = g ∨ sl.ownBlock = some k) w w' := by
  obtain ⟨i0, hi, hz0, hz1, hz2⟩ := info_parts Try.info154
  have HI : Hid (Try.prog.info? 154 = some i0 ∧ i0.zero = some (.pointer none) ∧ i0.size = 1 ∧ i0.bytes = 8) := ⟨hi, hz0, hz1, hz2⟩
  have H := Lib.hid h
  have HO := Lib.hid ho
  have HM := Lib.hid hm
  have c0 : w.cell? ⟨g, 0, none⟩ = some (.pointer x) := h.at 0
  have c1 : w.cell? ⟨g, 1, none⟩ = some (.pointer y) := h.at 1
  have c2 : w.cell? ⟨g, 2, none⟩ = some sl := h.at 2
  have hg : g < w.heap.size := (Array.getElem?_eq_some_iff.1 h).1
  obtain ⟨A, cap, rfl, hcap, -, -⟩ := owns_form ho.own
  obtain ⟨hf1, hf2⟩ := hf
  have HFF := Lib.hid hf1
  have HFT := Lib.hid hf2
  have HL := Lib.hid hl
  have HB := Lib.hid hB
  have HK2 := Lib.hid (show ∀ w1, Below w.heap.size w w1 → (w1.cell? ⟨g, 0, none⟩ = some (.pointer x) ∧ w1.cell? ⟨g, 1, none⟩ = some (.pointer y) ∧ w1.cell? ⟨g, 2, none⟩ = some (.slice A ps.length cap)) from fun w1 hb => ⟨cell_later hb c0, cell_later hb c1, cell_later hb c2⟩)
  clear h ho hm hi hz0 hz1 hz2 hf1 hf2 hl hB
  generalize hk : ps.length = k at *
  have HK := Lib.hid hk
  have HST := Lib.hid (fun (w1 W w2 : World) g' cp (hb : Below w.heap.size w w1) (h1 : Below w1.heap.size w1 W) h2 h3 h4 => nc_step (W := W) (w2 := w2) (g' := g') (cp := cp) (z := 0) (f := f) (n0 := w1.heap.size) (H.out.chg (Chg.below (X := fun _ => False) hb) id) (HO.out.chg (Chg.below (X := fun _ => False) hb) soft_none fun _ _ h => h) (HM.out.chg (Chg.below (X := fun _ => False) hb) soft_none) h1 h2 h3 h4)
  have HOW := Lib.hid (show ∀ (w1 W : World), Below w.heap.size w w1 → Below w1.heap.size w1 W → W.ownsRow B 154 1 (.slice A k cap) k (ptrs ps) from fun w1 W hb h1 => by
    have := (HO.out.chg (Chg.below (X := fun _ => False) (step_after hb h1)) soft_none fun _ _ h => h).own
    rw [HK.out] at this; exact this)
  rw [hk] at HST
  clear hk
  have HA2 := Lib.hid (show ∀ (W : World) (o1 o2 : Obj), Below W.heap.size W ((W.alloc o1).alloc o2) from fun W o1 o2 => (((Below.refl _ _).alloc (Nat.le_refl _) o1).alloc (by simp) o2))
  have HF1 := Lib.hid (show ∀ (wA : World) (o1 o2 : Obj), ((wA.alloc o1).alloc o2).heap[wA.heap.size]? = some o1 from fun wA o1 o2 => (Chg.below (X := fun _ => False) ((Below.refl _ (wA.alloc o1)).alloc (Nat.le_refl _) o2)).keep (heap_alloc_new wA o1) id)
  have HF2 := Lib.hid (show ∀ (wA : World) (o1 o2 : Obj), ((wA.alloc o1).alloc o2).heap[wA.heap.size + 1]? = some o2 from fun wA o1 o2 => by have h := heap_alloc_new (wA.alloc o1) o2; rw [show (wA.alloc o1).heap.size = wA.heap.size + 1 by simp] at h; exact h)
  go_enter Try.func47, Try.ntmps47
  go_wp2_with fail
  go_region_law
    (first
      | (refine step_append_lies _ (by rfl) (.tmp 8) (.tmp 18) 78 (by rfl) B 154 i0 _ 1 8 Try.underlying78 HI.out.1 HI.out.2.1 HI.out.2.2.1 HI.out.2.2.2 rfl (by decide) (.slice A k cap) k (ptrs ps) (by rfl) (HOW.out _ _ hb1 (HA2.out _ _ _)) ⟨w1.heap.size + 1, 0, none⟩ 1 1 [.pointer (some ⟨w1.heap.size, 0, none⟩)] (by rfl) rfl (World.news_of_block (HF2.out _ _ _)) (oneP _) (by decide) (by rw [maxLen_eq]; have := HL.out; omega) (by have := HL.out; omega) (Nat.le_trans HB.out (Nat.le_trans hb1.size (HA2.out _ _ _).size)) _ rfl ?_
         intro g' cp w2 hown2 hg2 hat2 hlt2
         have hst := HST.out w1 _ w2 g' cp hb1 (HA2.out _ _ _) (by rw [HFF.out, HFT.out]; exact HF1.out _ _ _) hown2 hg2
         obtain ⟨⟨q1, q2⟩, hq⟩ := hst
         have HQ := Lib.hid hq
         have HB1 := Lib.hid hb1
         clear hq hown2 hg2 hat2 hlt2 hb1)
      | (go_simp; go_at_call 44; refine (makeEnvironment_any _ _ _).mono ?_; rintro e w1 ⟨rfl, hb0⟩; have hb1 : Below w.heap.size w w1 := (Below.refl _ _).drew.trans hb0; obtain ⟨d0, d1, d2⟩ := HK2.out _ hb1; have a3 : ∀ o, (w1.alloc o).cell? ⟨g, 2, none⟩ = some (.slice A k cap) := fun o => cell_later ((Below.refl _ _).alloc (Nat.le_refl _) o) d2; have a4 : ∀ o1 o2, ((w1.alloc o1).alloc o2).cell? ⟨g, 2, none⟩ = some (.slice A k cap) := fun o1 o2 => cell_later ((Below.refl _ _).alloc (Nat.le_refl _) o2) (a3 o1); clear hb0))
  all_goals
    obtain ⟨h1, h2, h3⟩ := HQ.out
    clear q1 q2
    generalize (World.setCell w2 _ _) = w3 at h1 h2 h3 ⊢
    have H3 := Lib.hid h1
    have HS3 := Lib.hid h2
    have HC3 := Lib.hid h3
    have HCL := Lib.hid (clearCurrentTrace_any _ _ _ _ _ _ _ h1)
    clear h1 h2 h3
    go_wp2_with (go_at_call 41; refine HCL.out.mono ?_; rintro e w4 ⟨rfl, k4, c4⟩; have K4 := Lib.hid k4; have C4 := Lib.hid c4; clear k4 c4)
    go_returns
    have s4 := HS3.out.chg C4.out (soft_cs H3.out) (cs_off H3.out HS3.out)
    refine ⟨rfl, _, _, K4.out, s4, ?_⟩
    exact (((Chg.below HB1.out).weak fun _ _ h => False.elim h).step HC3.out fun k _ hk => hk).step C4.out fun k _ hk => .inl hk
end Go.Proofs.Ytincgkolpicipaa.stack

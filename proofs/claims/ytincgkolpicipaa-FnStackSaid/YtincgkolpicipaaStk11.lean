/- FnStack: newCall by contract. -/
import Derived.Test.YtincgkolpicipaaStk10
import Derived.Deep.RegionLaw
namespace Go.Proofs.Ytincgkolpicipaa.stack
open Go.RowKit
theorem ne73 (a : Addr) (w : World) : Sem.run Try.prog (Op.equalIn 9999 73 (Value.pointer (some a)) (Value.pointer none)) w = .ok false w := by kernel_rfl
theorem Try.info154 : (Try.prog.info? 154).map (fun i => (i.zero, i.size, i.bytes)) = some (some (.pointer none), 1, 8) := by kernel_rfl
theorem oneP (a : Option Addr) : ∀ u ∈ [Value.pointer a], u.oneCell' = true := fun u hu => by
  obtain rfl := List.mem_singleton.1 hu
  rfl
/-- The new frame put on the stack. -/
theorem nc_step {B g g' cp n0 mb : Nat} {x y : Option Addr} {sl : Value} {n m z : Int} {ps : List (Nat × Fr)} {f : Fr} {wA W w2 : World} (h : Cs wA g (.pointer x) (.pointer y) sl n m) (ho : StkO wA B sl ps) (hm : MapOk wA mb f.names f.step) 
    (hbW : Below wA.heap.size wA W) (hfr : W.heap[n0]? = some (.cells #[.pointer x, .pointer y, .map (some mb), .pointer none, .int .i64 z, .bool f.call, .bool f.trim] 156 (0, 0)))
    (h2 : w2.ownsRow B 154 1 (.slice (some ⟨g', 0, none⟩) (ps.length + 1) cp) (ps.length + 1) (ptrs ps ++ [.pointer (some ⟨n0, 0, none⟩)])) (hg : W.grownBy w2 sl.ownBlock) :
    (w2.cell? ⟨g, 2, none⟩ = some sl ∧ w2.frozen? ⟨g, 2, none⟩ = false) ∧ Cs (w2.setCell ⟨g, 2, none⟩ (.slice (some ⟨g', 0, none⟩) (ps.length + 1) cp)) g (.pointer x) (.pointer y) (.slice (some ⟨g', 0, none⟩) (ps.length + 1) cp) n m ∧
    StkO (w2.setCell ⟨g, 2, none⟩ (.slice (some ⟨g', 0, none⟩) (ps.length + 1) cp)) B (.slice (some ⟨g', 0, none⟩) (ps.length + 1) cp) (ps ++ [(n0, f)]) ∧
    Chg (fun k => k = g ∨ sl.ownBlock = some k) wA (w2.setCell ⟨g, 2, none⟩ (.slice (some ⟨g', 0, none⟩) (ps.length + 1) cp)) := by
  have cW : Chg (fun _ => False) wA W := Chg.below hbW
  have hoW := ho.chg cW soft_none fun _ _ h => h
  have hCW : Cs W g (.pointer x) (.pointer y) sl n m := h.chg cW id
  have c2 : Chg (fun k => sl.ownBlock = some k) W w2 := (Chg.refl _ _).grown hg fun k hk _ => hk
  have hC2 : Cs w2 g (.pointer x) (.pointer y) sl n m := hCW.chg c2 fun e => cs_off hCW hoW g e rfl
  have c3 : Chg (fun k => k = g) w2 (w2.setCell ⟨g, 2, none⟩ (.slice (some ⟨g', 0, none⟩) (ps.length + 1) cp)) := Chg.setCell (X := fun k => k = g) (p := ⟨g, 2, none⟩) (Chg.refl _ _) (fun _ => rfl) _
  have hfa : FrAt W n0 f := ⟨x, y, mb, z, hfr, hm.chg cW soft_none⟩
  have ho2 : StkO w2 B (.slice (some ⟨g', 0, none⟩) (ps.length + 1) cp) (ps ++ [(n0, f)]) := by
    refine ⟨by simpa [ptrs] using h2, fun p hp => ?_⟩
    rcases List.mem_append.1 hp with hp | hp
    · exact (hoW.all p hp).chg c2 (soft_own hoW)
    · obtain rfl := List.mem_singleton.1 hp
      exact hfa.chg c2 (soft_own hoW)
  refine ⟨⟨hC2.at 2, hC2.free 2⟩, hC2.slice _, ho2.chg c3 (soft_cs hC2) (cs_off hC2 ho2), ?_⟩
  exact ((cW.weak fun _ _ h => h.elim).step c2 fun k _ hk => .inr hk).step c3 fun k _ hk => .inl hk
set_option maxRecDepth 100000 in
set_option maxHeartbeats 8000000 in
theorem newCall_any (B g mb : Nat) (a : Addr) (b : Option Addr) (sl : Value) (n m z : Int) (tr : Bool) (ps : List (Nat × Fr)) (f : Fr) (w : World) (h : Cs w g (.pointer (some a)) (.pointer b) sl n m) (ho : StkO w B sl ps) (hm : MapOk w mb f.names f.step) (hl : ps.length ≤ 200) (hB : B ≤ w.heap.size) (hn : 0 ≤ n ∧ n ≤ 200) (hf : f.call = true ∧ f.trim = tr) :
    Calls Try.prog 43 #[.pointer (some ⟨g, 0, none⟩), .agg #[.map (some mb), .pointer none, .int .i64 z], .bool tr] w fun e w' => e = .returned (.tuple #[]) ∧ ∃ sl' p, Cs w' g (.pointer none) (.pointer none) sl' (n + 1) m ∧ StkO w' B sl' (ps ++ [(p, f)]) ∧ Chg (fun k => k = g ∨ sl.ownBlock = some k) w w' := by
  have n73 := ne73
  obtain ⟨i0, hi, hz0, hz1, hz2⟩ := info_parts Try.info154
  have HI : Hid (Try.prog.info? 154 = some i0 ∧ i0.zero = some (.pointer none) ∧ i0.size = 1 ∧ i0.bytes = 8) := ⟨hi, hz0, hz1, hz2⟩
  have H := Lib.hid h
  have HO := Lib.hid ho
  have HM := Lib.hid hm
  have c0 : w.cell? ⟨g, 0, none⟩ = some (.pointer (some a)) := h.at 0
  have c1 : w.cell? ⟨g, 1, none⟩ = some (.pointer b) := h.at 1
  have c2 : w.cell? ⟨g, 2, none⟩ = some sl := h.at 2
  have hg : g < w.heap.size := (Array.getElem?_eq_some_iff.1 h).1
  obtain ⟨A, cap, rfl, hcap, -, -⟩ := owns_form ho.own
  clear h ho hm hi hz0 hz1 hz2
  go_enter Try.func43, Try.ntmps43
  go_wp2_with fail
  have cA : Chg (fun _ => False) w (w.alloc (.cells #[.map (some mb), .pointer none, .int .i64 z] 96)) := Chg.below ((Below.refl _ _).alloc (Nat.le_refl _) _)
  have hA := H.out.chg cA id
  have hnew := heap_alloc_new w (.cells #[.map (some mb), .pointer none, .int .i64 z] 96)
  have hsz : (w.alloc (.cells #[.map (some mb), .pointer none, .int .i64 z] 96)).heap.size = w.heap.size + 1 := by simp
  generalize w.alloc (.cells #[.map (some mb), .pointer none, .int .i64 z] 96) = wA at *
  have hoA := HO.out.chg cA soft_none fun _ _ h => h
  have hmA := HM.out.chg cA soft_none
  have CA := Lib.hid cA
  have HST := Lib.hid (fun W w2 g' cp h1 h2 h3 h4 => nc_step (W := W) (w2 := w2) (g' := g') (cp := cp) (z := z) (n0 := wA.heap.size) hA hoA hmA h1 h2 h3 h4)
  have HB := Lib.hid (show B ≤ wA.heap.size by omega)
  have a0 : wA.cell? ⟨g, 0, none⟩ = some (.pointer (some a)) := hA.at 0
  have a1 : wA.cell? ⟨g, 1, none⟩ = some (.pointer b) := hA.at 1
  have a2 : wA.cell? ⟨g, 2, none⟩ = some (.slice A ps.length cap) := hA.at 2
  have a3 : ∀ o, (wA.alloc o).cell? ⟨g, 2, none⟩ = some (.slice A ps.length cap) := fun o => cell_later ((Below.refl _ _).alloc (Nat.le_refl _) o) a2
  have a4 : ∀ o1 o2, ((wA.alloc o1).alloc o2).cell? ⟨g, 2, none⟩ = some (.slice A ps.length cap) := fun o1 o2 => cell_later ((Below.refl _ _).alloc (Nat.le_refl _) o2) (a3 o1)
  have e0 : wA.cell? ⟨w.heap.size, 0, none⟩ = some (.map (some mb)) := by simp [World.cell?, hnew]
  have e1 : wA.cell? ⟨w.heap.size, 1, none⟩ = some (.pointer none) := by simp [World.cell?, hnew]
  have e2 : wA.cell? ⟨w.heap.size, 2, none⟩ = some (.int .i64 z) := by simp [World.cell?, hnew]
  have HBW := Lib.hid (show ∀ o1 o2, Below wA.heap.size wA ((wA.alloc o1).alloc o2).drew from fun o1 o2 => (((Below.refl _ _).alloc (Nat.le_refl _) o1).alloc (by simp) o2).drew)
  have HF1 := Lib.hid (show ∀ o1 o2, ((wA.alloc o1).alloc o2).drew.heap[wA.heap.size]? = some o1 from fun o1 o2 => (Chg.below (X := fun _ => False) ((Below.refl _ (wA.alloc o1)).alloc (Nat.le_refl _) o2)).keep (heap_alloc_new wA o1) id)
  have HF2 := Lib.hid (show ∀ o1 o2, ((wA.alloc o1).alloc o2).drew.heap[wA.heap.size + 1]? = some o2 from fun o1 o2 => by have h := heap_alloc_new (wA.alloc o1) o2; rw [show (wA.alloc o1).heap.size = wA.heap.size + 1 by simp] at h; exact h)
  have HOW := Lib.hid (show ∀ o1 o2, ((wA.alloc o1).alloc o2).drew.ownsRow B 154 1 (.slice A ps.length cap) ps.length (ptrs ps) from fun o1 o2 => owns_chg hoA.own (Chg.below (X := fun _ => False) (HBW.out o1 o2)) fun _ _ h => h)
  have HL := Lib.hid hl
  obtain ⟨hf1, hf2⟩ := hf
  have HFF := Lib.hid hf1
  have HFT := Lib.hid hf2
  clear hA hoA hmA cA hnew c0 c1 c2 hf1 hf2 hsz
  generalize hk : ps.length = k at *
  have HK := Lib.hid hk
  clear hk
  go_region_law
    ((refine step_append_lies _ (by rfl) (.tmp 17) (.tmp 26) 78 (by rfl) B 154 i0 _ 1 8 Try.underlying78 HI.out.1 HI.out.2.1 HI.out.2.2.1 HI.out.2.2.2 rfl (by decide) (.slice A k cap) k (ptrs ps) (by rfl) (HOW.out _ _) ⟨wA.heap.size + 1, 0, none⟩ 1 1 [.pointer (some ⟨wA.heap.size, 0, none⟩)] (by rfl) rfl (World.news_of_block (HF2.out _ _)) (oneP _) (by decide) (by rw [maxLen_eq]; have := HL.out; omega) (by have := HL.out; omega) (Nat.le_trans HB.out (HBW.out _ _).size) _ rfl ?_
      intro g' cp w2 hown2 hg2 hat2 hlt2
      have hst := HST.out _ w2 g' cp (HBW.out _ _) (by rw [HFF.out, HFT.out]; exact HF1.out _ _) hown2 hg2
      obtain ⟨⟨q1, q2⟩, hq⟩ := hst
      have HQ := Lib.hid hq
      clear hq hown2 hg2 hat2 hlt2))
  all_goals
    obtain ⟨h1, h2, h3⟩ := HQ.out
    clear q1 q2
    generalize (World.setCell w2 _ _) = w3 at h1 h2 h3 ⊢
    have H3 := Lib.hid h1
    have HS3 := Lib.hid h2
    have HC3 := Lib.hid h3
    have HCL := Lib.hid (clearCurrentTrace_any _ _ _ _ _ _ _ h1)
    have hnw : (n + 1) ≤ 201 ∧ 0 ≤ n := by omega
    clear h1 h2 h3
    go_wp2_with (go_at_call 41; refine HCL.out.mono ?_; rintro e w4 ⟨rfl, k4, c4⟩; have d3 : w4.cell? ⟨g, 3, none⟩ = some (.int .i64 n) := k4.at 3; have f3 := k4.free 3; have K4 := Lib.hid k4; have C4 := Lib.hid c4; clear k4 c4)
    go_returns
    have s4 := HS3.out.chg C4.out (soft_cs H3.out) (cs_off H3.out HS3.out)
    have c5 : Chg (fun k => k = g) w4 (w4.setCell ⟨g, 3, none⟩ (.int .i64 (n + 1))) := Chg.setCell (X := fun k => k = g) (p := ⟨g, 3, none⟩) (Chg.refl _ _) (fun _ => rfl) _
    exact ⟨rfl, _, _, K4.out.count _, s4.chg c5 (soft_cs K4.out) (cs_off K4.out s4), (by rw [HK.out]; exact (((CA.out.weak fun _ _ h => h.elim).step HC3.out fun k _ hk => hk).step C4.out fun k _ hk => .inl hk).step c5 fun k _ hk => .inl hk)⟩
end Go.Proofs.Ytincgkolpicipaa.stack

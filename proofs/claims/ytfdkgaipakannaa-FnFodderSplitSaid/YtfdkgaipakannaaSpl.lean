/- splitFodder by contract. -/
import Derived.Test.YtfdkgaipakannaaSt
import Derived.Deep.QuietTactic
namespace Go.Proofs.Ytfdkgaipakannaa.split
open Go.RowKit
theorem true_step {B pb : Nat} {w wA w2 : World} {st : Sp} {v v2 : Value} {s : El} {ps1 ps2 : List (Value × El)} (hB : B ≤ w.heap.size) (hpb : w.heap.size ≤ pb) (hbA : Below w.heap.size w wA) (m1 : ps1.map (·.2) = st.a) (m2 : ps2.map (·.2) = st.b) (hfl : st.f = true)
    (o1 : OwnA wA w.heap.size B v ps1) (o2 : OwnA wA w.heap.size B v2 ps2) (hsl : wA.heap[pb]? = some (.cells #[v2] 44 (0, 0))) (hdj : ∀ g, v.ownBlock = some g → v2.ownBlock ≠ some g) (ha : AppRel B w.heap.size pb v2 (appF (ps2.map (·.2)) s) wA w2) :
    SRel B pb w (spStep st s) v w2 := by
  obtain ⟨⟨v', ps', h1, h2, h3, h4⟩, hx⟩ := ha
  have hsafe : Safe B wA (fun k => k = pb ∨ v2.ownBlock = some k) := by
    rintro k (rfl | hk)
    · refine ⟨Nat.le_trans hB hpb, fun cs fr hc => ?_⟩
      rw [hsl] at hc
      injection hc with hc
      injection hc with _ ht
      exact absurd ht (by decide)
    · exact safe_of_row o2.1 (by decide) hB k hk
  have e : spStep st s = ⟨st.a, appF st.b s, true⟩ := by unfold spStep; rw [hfl]; rfl
  rw [e]
  refine ⟨⟨v', ps1, ps', m1, by rw [h3, m2], o1.chg hsafe hx (fun k hk hX => ?_), h2, h1, fun g hg hg2 => ?_⟩, hbA.trans (hx.toBelow hbA.size (fun i hi => ?_))⟩
  · rcases hX with h | h
    · exact own_ne_slot o1.1 hsl (by decide) (by rw [← h]; exact hk)
    · exact hdj k hk h
  · rcases h4 with h4 | ⟨g', hg', hge⟩
    · exact hdj g hg (by rw [← h4]; exact hg2)
    · rw [hg'] at hg2; cases hg2
      have := (o1.1.lt g hg).2
      omega
  · rcases hi with rfl | h
    · exact hpb
    · exact (o2.1.lt i h).1
/-- Two rows, the place of the second one's slice, and the block of the element at hand. -/
structure Two (B pb b0 : Nat) (w : World) (bx : Obj) (v : Value) (ps1 : List (Value × El)) (v2 : Value) (ps2 : List (Value × El)) (W : World) : Prop where
  o1 : OwnA W w.heap.size B v ps1
  o2 : OwnA W w.heap.size B v2 ps2
  sl : W.heap[pb]? = some (.cells #[v2] 44 (0, 0))
  dj : ∀ g, v.ownBlock = some g → v2.ownBlock ≠ some g
  row : W.heap[b0]? = some bx
  bp : b0 ≠ pb
  n1 : v.ownBlock ≠ some b0
  n2 : v2.ownBlock ≠ some b0
  bel : Below w.heap.size w W
theorem Two.later {B pb b0 : Nat} {w W W' : World} {bx : Obj} {v v2 : Value} {ps1 ps2 : List (Value × El)} (h : Two B pb b0 w bx v ps1 v2 ps2 W) (hb : Below W.heap.size W W') : Two B pb b0 w bx v ps1 v2 ps2 W' :=
  ⟨h.o1.later hb, h.o2.later hb, (hb.block _ (Array.getElem?_eq_some_iff.1 h.sl).1).trans h.sl, h.dj, (hb.block _ (Array.getElem?_eq_some_iff.1 h.row).1).trans h.row, h.bp, h.n1, h.n2, step_after h.bel hb⟩
theorem two_app {B pb b0 : Nat} {w W w1 : World} {bx : Obj} {v v2 cv : Value} {ps1 ps2 : List (Value × El)} {e : El} {g cap : Nat} (hB : B ≤ w.heap.size) (h : Two B pb b0 w bx v ps1 v2 ps2 W) (hcm : Cmt B W cv e.c)
    (hown : w1.ownsRow w.heap.size 55 4 (.slice (some ⟨g, 0, none⟩) (ps1.length + 1) cap) (ps1.length + 1) (rowA ps1 ++ [cv, .int .i64 e.k, .int .i64 e.b, .int .i64 e.n])) (hg : W.grownBy w1 v.ownBlock) (hat : v.ownBlock = some g ∨ g = W.heap.size) :
    Two B pb b0 w bx (.slice (some ⟨g, 0, none⟩) (ps1.length + 1) cap) (ps1 ++ [(cv, e)]) v2 ps2 w1 := by
  have hsafe := safe_of_row h.o1.1 (by decide) hB
  have hx : Chg (fun k => v.ownBlock = some k) W w1 := (Chg.refl _ _).grown hg fun k hk _ => hk
  have hpv := own_ne_slot h.o1.1 h.sl (by decide)
  refine ⟨⟨by rw [rowA_snoc]; simpa using hown, fun p hp => ?_⟩, h.o2.chg hsafe hx (fun k hk hX => h.dj k hX hk), hx.keep h.sl hpv, fun g' hg' h2 => ?_, hx.keep h.row h.n1, h.bp, ?_, h.n2, h.bel.trans (hx.toBelow h.bel.size fun i hi => (h.o1.1.lt i hi).1)⟩
  · rcases List.mem_append.1 hp with hp | hp
    · exact (h.o1.2 p hp).chg hsafe hx
    · obtain rfl := List.mem_singleton.1 hp
      exact hcm.chg hsafe hx
  · have : g = g' := by simpa [Value.ownBlock] using hg'
    subst this
    rcases hat with h3 | h3
    · exact h.dj g h3 h2
    · have := (h.o2.1.lt g h2).2; omega
  · intro h3
    have : g = b0 := by simpa [Value.ownBlock] using h3
    subst this
    rcases hat with h4 | h4
    · exact h.n1 h4
    · have := (Array.getElem?_eq_some_iff.1 h.row).1; omega
theorem two_set {B pb b0 : Nat} {w W : World} {bx : Obj} {v2 cv : Value} {ps1 ps2 : List (Value × El)} {e : El} {g cap : Nat} (hB : B ≤ w.heap.size) (h : Two B pb b0 w bx (.slice (some ⟨g, 0, none⟩) (ps1.length + 1) cap) (ps1 ++ [(cv, e)]) v2 ps2 W) :
    (W.cell? ⟨g, ps1.length * 4 + 2, none⟩ = some (.int .i64 e.b) ∧ W.frozen? ⟨g, ps1.length * 4 + 2, none⟩ = false) ∧
    Two B pb b0 w bx (.slice (some ⟨g, 0, none⟩) (ps1.length + 1) cap) (ps1 ++ [(cv, { e with b := 0 })]) v2 ps2 (W.setCell ⟨g, ps1.length * 4 + 2, none⟩ (.int .i64 0)) := by
  have ho : W.ownsRow w.heap.size 55 4 (.slice (some ⟨g, 0, none⟩) (ps1.length + 1) cap) (ps1.length + 1) (rowA (ps1 ++ [(cv, e)])) := by have := h.o1.1; simpa using this
  obtain ⟨s1, s2⟩ := ho.stored (ps1.length * 4 + 2) (.int .i64 0)
  rw [rowA_set_last] at s1
  have hgo : (Value.slice (some ⟨g, 0, none⟩) (ps1.length + 1) cap).ownBlock = some g := rfl
  have hsafe := safe_of_row h.o1.1 (by decide) hB
  have hx : Chg (fun k => (Value.slice (some ⟨g, 0, none⟩) (ps1.length + 1) cap).ownBlock = some k) W (W.setCell ⟨g, ps1.length * 4 + 2, none⟩ (.int .i64 0)) := (Chg.refl _ _).grown s2 fun k hk _ => by rw [hgo]; exact hk
  have hpv := own_ne_slot h.o1.1 h.sl (by decide)
  refine ⟨⟨?_, ho.frozenAt _⟩, ⟨⟨by simpa using s1, fun p hp => ?_⟩, h.o2.chg hsafe hx (fun k hk hX => h.dj k hX hk), hx.keep h.sl hpv, h.dj, hx.keep h.row h.n1, h.bp, h.n1, h.n2, h.bel.trans (hx.toBelow h.bel.size fun i hi => (h.o1.1.lt i hi).1)⟩⟩
  · rw [ho.cellAt _ (by omega), rowA_snoc, List.getElem?_append_right (by rw [rowA_len]; omega), rowA_len]
    have : ps1.length * 4 + 2 - ps1.length * 4 = 2 := by omega
    rw [this]; rfl
  · rcases List.mem_append.1 hp with hp | hp
    · exact (h.o1.2 p (List.mem_append_left _ hp)).chg hsafe hx
    · obtain rfl := List.mem_singleton.1 hp
      exact (h.o1.2 (cv, e) (by simp)).chg hsafe hx
theorem two_srel {B pb b0 : Nat} {w W : World} {bx : Obj} {v v2 : Value} {ps1 ps2 : List (Value × El)} {st : Sp} (h : Two B pb b0 w bx v ps1 v2 ps2 W) (m1 : ps1.map (·.2) = st.a) (m2 : ps2.map (·.2) = st.b) : SRel B pb w st v W :=
  ⟨⟨v2, ps1, ps2, m1, m2, h.o1, h.o2, h.sl, h.dj⟩, h.bel⟩
theorem two_app2 {B pb b0 : Nat} {w W W' w1 : World} {bx : Obj} {v v2 cv : Value} {ps1 ps2 : List (Value × El)} {e : El} {st : Sp} {g cap : Nat} (hB : B ≤ w.heap.size) (hpb : w.heap.size ≤ pb) (h : Two B pb b0 w bx v ps1 v2 ps2 W) (hb : Below W.heap.size W W') (hcm : Cmt B W' cv e.c)
    (hown : w1.ownsRow w.heap.size 55 4 (.slice (some ⟨g, 0, none⟩) (ps2.length + 1) cap) (ps2.length + 1) (rowA ps2 ++ [cv, .int .i64 e.k, .int .i64 e.b, .int .i64 e.n])) (hg : W'.grownBy w1 v2.ownBlock) (hat : v2.ownBlock = some g ∨ g = W'.heap.size)
    (m1 : ps1.map (·.2) = st.a) (m2 : ps2.map (·.2) ++ [e] = st.b) :
    (w1.cell? ⟨pb, 0, none⟩ = some v2 ∧ w1.frozen? ⟨pb, 0, none⟩ = false) ∧ SRel B pb w st v (w1.setCell ⟨pb, 0, none⟩ (.slice (some ⟨g, 0, none⟩) (ps2.length + 1) cap)) := by
  obtain ⟨hq, hs, ho, ha, hx⟩ := app_step hB (Nat.le_trans hB hpb) h.sl h.o2 hb hcm hown hg hat
  have hsafe : Safe B W (fun k => k = pb ∨ v2.ownBlock = some k) := by
    rintro k (rfl | hk)
    · refine ⟨Nat.le_trans hB hpb, fun cs fr hc => ?_⟩
      rw [h.sl] at hc
      injection hc with hc
      injection hc with _ ht
      exact absurd ht (by decide)
    · exact safe_of_row h.o2.1 (by decide) hB k hk
  refine ⟨hq, ⟨⟨_, ps1, _, m1, by rw [List.map_append]; exact m2, h.o1.chg hsafe hx (fun k hk hX => ?_), ho, hs, fun g' hg' h2 => ?_⟩, h.bel.trans (hx.toBelow h.bel.size fun i hi => ?_)⟩⟩
  · rcases hX with h3 | h3
    · exact own_ne_slot h.o1.1 h.sl (by decide) (by rw [← h3]; exact hk)
    · exact h.dj k hk h3
  · have : g = g' := by simpa [Value.ownBlock] using h2
    subst this
    rcases ha with h3 | h3
    · exact h.dj g hg' h3
    · have := (h.o1.1.lt g hg').2; omega
  · rcases hi with rfl | h3
    · exact hpb
    · exact (h.o2.1.lt i h3).1
set_option maxRecDepth 100000 in
set_option maxHeartbeats 8000000 in
theorem split_any (B : Nat) (v : Value) (es : List El) (w : World) (hB : B ≤ w.heap.size) (h : AEls B w v es) (hf : Fine es) (hl : es.length ≤ 200) :
    Calls Try.prog 32 #[v] w fun e w' => ∃ va vb, e = .returned (.tuple #[va, vb]) ∧ AEls B w' va (sp es).a ∧ AEls B w' vb (sp es).b ∧ Below w.heap.size w w' := by
  obtain ⟨i0, hi, hz0, hz1, hz2⟩ := info_parts Try.info55
  obtain ⟨A, cap, rfl, _, hc⟩ := h
  have HC := Lib.hid hc
  have HF := Lib.hid hf
  clear hc hf
  generalize hn : es.length = n at hl ⊢
  have HN := Lib.hid hn
  have HBB := Lib.hid hB
  have HI : Hid (Try.prog.info? 55 = some i0 ∧ i0.zero = some (.agg #[.slice none 0 0, .int .i64 0, .int .i64 0, .int .i64 0]) ∧ i0.size = 4 ∧ i0.bytes = 48) := ⟨hi, hz0, hz1, hz2⟩
  clear hn hB hi hz0 hz1 hz2
  have HS0 := Lib.hid (show SRel B w.heap.size w (sp []) (.slice none 0 0) (w.alloc (.cells #[.slice none 0 0] 44)) from
    ⟨⟨.slice none 0 0, [], [], rfl, rfl, OwnA.none_, OwnA.none_, heap_alloc_new w _, fun g h => by cases h⟩, (Below.refl _ _).alloc (Nat.le_refl _) _⟩)
  go_enter Try.func32, Try.ntmps32
  go_wp2
  go_loopw [4, 6, 8, 11] (fun v f _ i wr => ∃ k : Nat, k ≤ n ∧ i = .int .i64 k ∧ f = .bool (sp (es.take k)).f ∧ SRel B w.heap.size w (sp (es.take k)) v wr) (fun _ _ _ i _ => n - (intOf i).toNat)
  case atStart => exact ⟨0, Nat.zero_le _, rfl, rfl, HS0.out⟩
  case round =>
    obtain ⟨k, hk, rfl, rfl, hsr⟩ := hrel
    by_cases hlt : k < n
    · obtain ⟨s, hs⟩ : ∃ s, es[k]? = some s := ⟨_, List.getElem?_eq_getElem (by have := HN.out; omega)⟩
      obtain ⟨⟨v2, ps1, ps2, m1, m2, o1, o2, hsl, hdj⟩, hb⟩ := hsr
      obtain ⟨q, o, cv, rfl, g0, g1, g2, g3, hst0⟩ := HC.out k s hs
      have c0 := cell_later hb g0
      have c1 := cell_later hb g1
      have c2 := cell_later hb g2
      have c3 := cell_later hb g3
      have hcm := hst0.later hb
      obtain ⟨A2, cap2, rfl⟩ := hcm.1.form
      clear g0 g1 g2 g3 hst0
      have hki : (k : Int) < (n : Int) := by omega
      have HSTEP := Lib.hid (sp_take hs)
      have HLEN := Lib.hid (sp_len (es.take k))
      have HSS := Lib.hid hs
      have hnew := heap_alloc_new wr (.cells #[.slice A2 s.c.length cap2, .int .i64 s.k, .int .i64 s.b, .int .i64 s.n] 55)
      have hbA : Below wr.heap.size wr (wr.alloc (.cells #[.slice A2 s.c.length cap2, .int .i64 s.k, .int .i64 s.b, .int .i64 s.n] 55)) := (Below.refl _ _).alloc (Nat.le_refl _) _
      have HNEW := Lib.hid hnew
      have HBA := Lib.hid hbA
      have HCM := Lib.hid hcm
      have HO1 := Lib.hid o1
      have HO2 := Lib.hid o2
      have HSL := Lib.hid hsl
      have HDJ := Lib.hid hdj
      have HM1 := Lib.hid m1
      have HM2 := Lib.hid m2
      have HB := Lib.hid hb
      clear hs hnew hbA hcm o1 o2 hsl hdj m1 m2 hb
      generalize hsp : sp (es.take k) = st at *
      have HSP := Lib.hid hsp
      clear hsp
      cases hfl : st.f
      · obtain rfl : ps2 = [] := by have h1 := congrArg List.length HM2.out; rw [HLEN.out.2.2 hfl] at h1; simpa using h1
        obtain ⟨A0, cap0, hv2, -, -, -⟩ := owns_form HO2.out.1
        have hv2' : v2 = .slice A0 0 cap0 := hv2
        subst hv2'
        clear hv2
        have HTW := Lib.hid (show ∀ o, Two B w.heap.size wr.heap.size w (.cells #[.slice A2 s.c.length cap2, .int .i64 s.k, .int .i64 s.b, .int .i64 s.n] 55) u4 ps1 (.slice A0 0 cap0) [] ((wr.alloc (.cells #[.slice A2 s.c.length cap2, .int .i64 s.k, .int .i64 s.b, .int .i64 s.n] 55)).alloc o) from fun o =>
          Two.later ⟨HO1.out.later HBA.out, HO2.out.later HBA.out, (HBA.out.block _ (Array.getElem?_eq_some_iff.1 HSL.out).1).trans HSL.out, HDJ.out, HNEW.out, by have := (Array.getElem?_eq_some_iff.1 HSL.out).1; omega, fun h => by have := (HO1.out.1.lt _ h).2; omega, fun h => by have := (HO2.out.1.lt _ h).2; omega, step_after HB.out HBA.out⟩ ((Below.refl _ _).alloc (Nat.le_refl _) _))
        have HLP := Lib.hid (show ps1.length ≤ 1000 by have h1 := congrArg List.length HM1.out; have h2 := HLEN.out.1; simp at h1 h2; omega)
        have HAPP := Lib.hid (fun o g cp w1 h1 h2 h3 => two_app (v2 := .slice A0 0 cap0) (w1 := w1) (g := g) (cap := cp) (cv := .slice A2 s.c.length cap2) (e := s) HBB.out (HTW.out o) (HCM.out.later (step_after HBA.out ((Below.refl _ _).alloc (Nat.le_refl _) o))) h1 h2 h3)
        have HB0 : Hid (st.b = []) := HLEN.out.2.2 hfl
        by_cases hk1 : s.k = 1
        · have hkk : (s.k != 1) = false := by rw [hk1]; rfl
          have HST := Lib.hid (show sp (es.take (k + 1)) = ⟨st.a ++ [s], st.b, false⟩ by rw [HSTEP.out]; unfold spStep; rw [hfl, hk1]; rfl)
          clear hfl hk1
          go_wp2_with (at_builtin; refine wpList_append_lies _ rfl (.tmp 18) (.tmp 20) 44 rfl w.heap.size 55 i0 _ 4 48 Try.underlying44 HI.out.1 HI.out.2.1 HI.out.2.2.1 HI.out.2.2.2 rfl (by decide) u4 ps1.length (rowA ps1) rfl (HTW.out _).o1.1 ⟨(wr.alloc (.cells #[.slice A2 s.c.length cap2, .int .i64 s.k, .int .i64 s.b, .int .i64 s.n] 55)).heap.size, 0, none⟩ 1 1 [.slice A2 s.c.length cap2, .int .i64 s.k, .int .i64 s.b, .int .i64 s.n] (by simp [Act.eval]) rfl (World.news_of_block (heap_alloc_new _ _)) (oneA _ _ _ _ _ _) (by decide) (by rw [maxLen_eq]; have := HLP.out; omega) (by have := HLP.out; omega) (HTW.out _).bel.size _ rfl ?_; intro g cp w1 hown1 hg1 hat1 hl1; have HT1 := Lib.hid (HAPP.out _ g cp w1 hown1 hg1 hat1); clear hown1 hg1 hat1 hl1; obtain ⟨-, d1, d2, d3⟩ := four_cells HT1.out.row)
          exact ⟨⟨k + 1, by omega, by go_num, by rw [HST.out], by rw [HST.out]; exact two_srel HT1.out (by rw [List.map_append, HM1.out]; rfl) HM2.out⟩, by simp [intOf]; omega⟩
        · have hkk : (s.k != 1) = true := by simpa using hk1
          by_cases hb0 : 0 < s.b
          · have hbb : decide (0 < s.b) = true := decide_eq_true hb0
            have HST := Lib.hid (show sp (es.take (k + 1)) = ⟨st.a ++ [{ s with b := 0 }], st.b ++ [⟨0, s.b, s.n, []⟩], true⟩ by rw [HSTEP.out]; unfold spStep bare; rw [hfl, if_neg (by decide), if_neg hk1, if_pos hb0, if_pos hb0])
            clear hfl hk1 hb0
            go_wp2_with (first
              | (at_builtin; refine wpList_append_lies _ rfl (.tmp 18) (.tmp 20) 44 rfl w.heap.size 55 i0 _ 4 48 Try.underlying44 HI.out.1 HI.out.2.1 HI.out.2.2.1 HI.out.2.2.2 rfl (by decide) u4 ps1.length (rowA ps1) rfl (HTW.out _).o1.1 ⟨(wr.alloc (.cells #[.slice A2 s.c.length cap2, .int .i64 s.k, .int .i64 s.b, .int .i64 s.n] 55)).heap.size, 0, none⟩ 1 1 [.slice A2 s.c.length cap2, .int .i64 s.k, .int .i64 s.b, .int .i64 s.n] (by simp [Act.eval]) rfl (World.news_of_block (heap_alloc_new _ _)) (oneA _ _ _ _ _ _) (by decide) (by rw [maxLen_eq]; have := HLP.out; omega) (by have := HLP.out; omega) (HTW.out _).bel.size _ rfl ?_; intro g cp w1 hown1 hg1 hat1 hl1; have HT1 := Lib.hid (HAPP.out _ g cp w1 hown1 hg1 hat1); clear hown1 hg1 hat1 hl1; obtain ⟨-, d1, d2, d3⟩ := four_cells HT1.out.row; have hlp := HLP.out; have ht := two_set HBB.out HT1.out; obtain ⟨⟨q1, q2⟩, ht2⟩ := ht; have HT2 := Lib.hid ht2; have e0 := cell_of_one ht2.sl; have e2 := (four_cells ht2.row).2.2.1; have e3 := (four_cells ht2.row).2.2.2; clear ht2)
              | (at_builtin; refine wpList_append_lies _ rfl (.tmp 42) (.tmp 48) 44 rfl w.heap.size 55 i0 _ 4 48 Try.underlying44 HI.out.1 HI.out.2.1 HI.out.2.2.1 HI.out.2.2.2 rfl (by decide) (.slice A0 0 cap0) 0 [] rfl (HT2.out.later ((Below.refl _ _).alloc (Nat.le_refl _) _)).o2.1 ⟨(w1.setCell ⟨g, ps1.length * 4 + 2, none⟩ (.int .i64 0)).heap.size, 0, none⟩ 1 1 [.slice none 0 0, .int .i64 0, .int .i64 s.b, .int .i64 s.n] (by simp [Act.eval]) rfl (World.news_of_block (heap_alloc_new _ _)) (oneA _ _ _ _ _ _) (by decide) (by decide) (by decide) (HT2.out.later ((Below.refl _ _).alloc (Nat.le_refl _) _)).bel.size _ rfl ?_; intro g5 cp5 w5 hown5 hg5 hat5 hl5; have h6 := two_app2 (cap := cp5) (e := ⟨0, s.b, s.n, []⟩) (st := sp (es.take (k + 1))) HBB.out (Nat.le_refl _) HT2.out ((Below.refl _ _).alloc (Nat.le_refl _) _) Cmt.empty hown5 hg5 hat5 (by rw [HST.out, List.map_append, HM1.out]; rfl) (by rw [HST.out, ← HM2.out]); obtain ⟨⟨x1, x2⟩, x3⟩ := h6; have HX := Lib.hid x3; clear x3 hown5 hg5 hat5 hl5))
            exact ⟨⟨k + 1, by omega, by go_num, by rw [HST.out], HX.out⟩, by simp [intOf]; omega⟩
          · have hbb : decide (0 < s.b) = false := decide_eq_false hb0
            have HST := Lib.hid (show sp (es.take (k + 1)) = ⟨st.a ++ [s], st.b, true⟩ by rw [HSTEP.out]; unfold spStep bare; rw [hfl, if_neg (by decide), if_neg hk1, if_neg hb0, if_neg hb0])
            clear hfl hk1 hb0
            go_wp2_with (at_builtin; refine wpList_append_lies _ rfl (.tmp 18) (.tmp 20) 44 rfl w.heap.size 55 i0 _ 4 48 Try.underlying44 HI.out.1 HI.out.2.1 HI.out.2.2.1 HI.out.2.2.2 rfl (by decide) u4 ps1.length (rowA ps1) rfl (HTW.out _).o1.1 ⟨(wr.alloc (.cells #[.slice A2 s.c.length cap2, .int .i64 s.k, .int .i64 s.b, .int .i64 s.n] 55)).heap.size, 0, none⟩ 1 1 [.slice A2 s.c.length cap2, .int .i64 s.k, .int .i64 s.b, .int .i64 s.n] (by simp [Act.eval]) rfl (World.news_of_block (heap_alloc_new _ _)) (oneA _ _ _ _ _ _) (by decide) (by rw [maxLen_eq]; have := HLP.out; omega) (by have := HLP.out; omega) (HTW.out _).bel.size _ rfl ?_; intro g cp w1 hown1 hg1 hat1 hl1; have HT1 := Lib.hid (HAPP.out _ g cp w1 hown1 hg1 hat1); clear hown1 hg1 hat1 hl1; obtain ⟨-, d1, d2, d3⟩ := four_cells HT1.out.row)
            exact ⟨⟨k + 1, by omega, by go_num, by rw [HST.out], by rw [HST.out]; exact two_srel HT1.out (by rw [List.map_append, HM1.out]; rfl) HM2.out⟩, by simp [intOf]; omega⟩
      · have HA := Lib.hid (append_any B w.heap.size w.heap.size v2 ps2 s A2 cap2 (wr.alloc (.cells #[.slice A2 s.c.length cap2, .int .i64 s.k, .int .i64 s.b, .int .i64 s.n] 55)) HBB.out HBB.out (step_after HB.out HBA.out).size ((HBA.out.block _ (Array.getElem?_eq_some_iff.1 HSL.out).1).trans HSL.out) (HO2.out.later HBA.out) (HCM.out.later HBA.out) (by have h1 := congrArg List.length HM2.out; have h2 := HLEN.out.2.1; simp at h1 h2; omega) (by rw [HM2.out]; intro h; exact HF.out k s HSS.out (by rw [HSP.out]; exact hfl) (by rw [HSP.out]; exact h)))
        go_wp2_with fail
        refine HA.out.mono ?_
        rintro e' w2 ⟨rfl, hrel⟩
        have hfar : ¬ (wr.heap.size = w.heap.size ∨ v2.ownBlock = some wr.heap.size) := by
          rintro (h | h)
          · have := (Array.getElem?_eq_some_iff.1 HSL.out).1; omega
          · have := (HO2.out.1.lt _ h).2; omega
        obtain ⟨-, d1, -, -⟩ := four_cells (hrel.chg.keep HNEW.out hfar)
        have HR := Lib.hid (true_step HBB.out (Nat.le_refl _) (step_after HB.out HBA.out) HM1.out HM2.out hfl (HO1.out.later HBA.out) (HO2.out.later HBA.out) ((HBA.out.block _ (Array.getElem?_eq_some_iff.1 HSL.out).1).trans HSL.out) HDJ.out hrel)
        rw [← HSTEP.out] at HR
        have HFL := Lib.hid (show (sp (es.take (k + 1))).f = true by rw [HSTEP.out]; unfold spStep; rw [hfl]; rfl)
        clear hfar hrel hfl
        go_wp2
        all_goals
          go_roundw
          case rel => exact ⟨k + 1, by omega, by go_num, by rw [HFL.out], HR.out⟩
          case measure => simp [intOf]; omega
    · have hki : ¬ (k : Int) < (n : Int) := by omega
      have HE := Lib.hid (show es.take k = es from List.take_of_length_le (by have := HN.out; omega))
      rw [HE.out] at hsr ⊢
      obtain ⟨⟨v2, ps1, ps2, m1, m2, o1, o2, hsl, hdj⟩, hb⟩ := hsr
      have hp := cell_of_one hsl
      have HR := Lib.hid (show ∀ nq, AEls B (wr.drewN nq) u4 (sp es).a ∧ AEls B (wr.drewN nq) v2 (sp es).b ∧ Below w.heap.size w (wr.drewN nq) from fun nq => ⟨m1 ▸ o1.reads, m2 ▸ o2.reads, hb.os, hb.tape, hb.output, hb.size, hb.block⟩)
      clear m1 m2 o1 o2 hsl hdj hb HE
      go_wp2
      go_quiet (fail)
      go_wp2
      go_ret2
      exact ⟨_, _, rfl, HR.out _⟩
end Go.Proofs.Ytfdkgaipakannaa.split

/- builtinSplitLimit by contract. -/
import Derived.Test.YtjnlgefcpmppmaaThunk
import Derived.OwnWalk
namespace Go.Proofs.Ytjnlgefcpmppmaa.split
open Go.RowKit Go.Proofs.Ytjnlgefcpmppmaa.utf Go.Proofs.Ytjnlgefcpmppmaa.joined
theorem txt_chain {s : ByteArray} {rs : List Nat} (h : Chain s 0 rs) : txt rs = s := by
  have := h.bytes
  rw [List.drop_zero] at this
  unfold txt
  rw [← this]
theorem goes {B : Nat} {w : World} {p : Value} {rs : List Nat} {s : ByteArray} (h : FlatB B w (.iface 82 p) rs) (hc : Chain s 0 rs) : Calls Try.prog 70 #[p] w fun e w' => e = .returned (.string s) ∧ w = w' := by
  obtain ⟨b, o, c, e, _, h0, _, hr⟩ := h
  cases e
  rw [← txt_chain hc]
  exact go_flat b _ c (some ⟨o, 0, none⟩) rs w rfl (by rw [cell_of_row w b 0 _ _ _ h0]; rfl) (.inr ⟨_, rfl, fun j u hu => by rw [Addr.add_lit, Nat.zero_add]; exact hr j u hu⟩) hc.scalar
theorem arr_any (G n : Nat) (w : World) : Calls Try.prog 36 #[.slice (some ⟨G, 0, none⟩) n n] w fun e w' => e = .returned (.pointer (some ⟨w.heap.size, 0, none⟩)) ∧ w.alloc (.cells #[.slice (some ⟨G, 0, none⟩) n n] 93) = w' := by
  go_enter Try.func36, Try.ntmps36
  go_wp2
  go_ret
  exact ⟨rfl, rfl⟩
theorem Row.cells {B : Nat} {v : Value} {ps : List ByteArray} {w : World} (h : Row B v ps w) (h0 : 1 ≤ ps.length) : ∃ g c, v = .slice (some ⟨g, 0, none⟩) ps.length c ∧ ∀ j, j < ps.length → w.cell? ⟨g, j, none⟩ = some (.string (ps.getD j ByteArray.empty)) := by
  rcases h.2 with ⟨_, h2⟩ | ⟨g, cap, cur, rfl, _, hg, _, _, _, ht⟩
  · omega
  · refine ⟨g, cap, rfl, fun j hj => ?_⟩
    rw [cell_of_row w g j _ _ _ hg]
    have hu : (ps.map Value.string)[j]? = some (.string ps[j]) := by simp [List.getElem?_eq_getElem hj]
    rw [← ht] at hu
    rw [List.getElem?_take_of_lt (by omega)] at hu
    rw [show ps.getD j ByteArray.empty = ps[j] by simp [List.getD, List.getElem?_eq_getElem hj]]
    simpa using hu
theorem Try.info95 : (Try.prog.info? 95).map (fun i => (i.zero, i.size, i.bytes)) = some (some (.pointer none), 1, 8) := by kernel_rfl
/-- An array of thunks of the parts. -/
def Arr (c s : ByteArray) (m : Nat) (w : World) (v : Value) : Prop := ∃ q G ps, v = .iface 94 (.pointer (some ⟨q, 0, none⟩)) ∧ w.cell? ⟨q, 0, none⟩ = some (.slice (some ⟨G, 0, none⟩) ps.length ps.length) ∧ Filled G ps.length ps.length ps w ∧ Parts c s ps ∧ 1 ≤ ps.length ∧ ps.length ≤ m + 1
def Arrs (c s : ByteArray) (m : Nat) (w : World) (e : Ending) (w' : World) : Prop := (∃ v, e = .returned (.tuple #[v, .nilIface]) ∧ Arr c s m w' v) ∧ Below w.heap.size w w'
theorem chain_part {c s : ByteArray} {ps : List ByteArray} (h : Parts c s ps) (k : Nat) (hk : k < ps.length) : ∃ rs, Chain (ps.getD k ByteArray.empty) 0 rs ∧ rs.length ≤ s.size := by
  have hm : ps[k] ∈ ps := List.getElem_mem _
  rw [show ps.getD k ByteArray.empty = ps[k] by simp [List.getD, List.getElem?_eq_getElem hk]]
  obtain ⟨rs, hs, e⟩ := h.uni _ hm
  have hc := chain_of ps[k] rs 0 hs (by rw [List.drop_zero]; exact e) (Nat.zero_le _)
  exact ⟨rs, hc, by have := hc.length; have := h.size _ hm; omega⟩
/-- The loop that fills the row. -/
def FInv (G n : Nat) (ps : List ByteArray) (W : World) (k : Nat) (wr : World) : Prop := Filled G n k ps wr ∧ Below G W wr
theorem finv_store {G n k : Nat} {ps : List ByteArray} {W wr w1 : World} {T : TypeId} {p : Value} {rs : List Nat} (hI : FInv G n ps W k wr) (hG : G ≤ wr.heap.size) (hb : Below wr.heap.size wr w1) (hf : FlatB wr.heap.size w1 (.iface T p) rs) (hc : Chain (ps.getD k ByteArray.empty) 0 rs) :
    FInv G n ps W (k + 1) ((w1.setCell ⟨G, k, none⟩ (.pointer (some ⟨w1.heap.size, 0, none⟩))).alloc (.cells #[.pointer none, .nilIface, .iface T p, .nilIface] 100)) := by
  have hlt : G < w1.heap.size := by
    obtain ⟨cur, h0, _⟩ := hI.1
    exact Nat.lt_of_lt_of_le (Array.getElem?_eq_some_iff.1 h0).1 hb.size
  rw [← World.setCell_alloc_past _ _ _ _ hlt]
  exact ⟨hI.1.step hb hf hc, (((hI.2.trans (hb.mono hG)).alloc (Nat.le_trans hG hb.size) _).setCell (Nat.le_refl _) _)⟩
theorem arr_end {c s : ByteArray} {G n k m : Nat} {ps : List ByteArray} {W wr : World} (hI : FInv G n ps W k wr) (hn : ps.length = n) (hk : k = n) (hp : Parts c s ps) (h1 : 1 ≤ n) (h2 : n ≤ m + 1) :
    Arr c s m (wr.alloc (.cells #[.slice (some ⟨G, 0, none⟩) n n] 93)) (.iface 94 (.pointer (some ⟨wr.heap.size, 0, none⟩))) := by
  subst hk
  subst hn
  refine ⟨wr.heap.size, G, ps, rfl, by rw [World.cell?_alloc_new]; rfl, ?_, hp, h1, h2⟩
  obtain ⟨cur, h0, hz, ht⟩ := hI.1
  have hG := (Array.getElem?_eq_some_iff.1 h0).1
  exact ⟨cur, by rw [heap_alloc_old wr _ hG]; exact h0, hz, fun j x hj hx => (ht j x hj hx).keep (fun i _ hi2 => heap_alloc_old wr _ hi2)⟩
theorem finv_start {n : Nat} {ps : List ByteArray} {W w1 : World} {xs : List Value} (hown : w1.ownsRow W.heap.size 95 1 (.slice (some ⟨W.heap.size, 0, none⟩) n n) n xs) (hgr : W.grownBy w1 none) : FInv W.heap.size n ps W 0 w1 := by
  refine ⟨?_, (Below.refl _ _).grown hgr (Nat.le_refl _) (by intro k h; cases h)⟩
  rcases hown.2 with ⟨h, _⟩ | ⟨g, cap, cur, e, _, hg, _, _, hz, _⟩
  · cases h
  · cases e
    exact ⟨cur, hg, by omega, fun j x hj _ => absurd hj (by omega)⟩
set_option maxRecDepth 100000 in
set_option maxHeartbeats 1000000 in
theorem limit_any (B1 B2 : Nat) (i : Value) (p1 p2 : Value) (b m : Nat) (s c : ByteArray) (rs us : List Nat) (w : World) (h1 : FlatB B1 w (.iface 82 p1) rs) (h2 : FlatB B2 w (.iface 82 p2) us) (hs : Chain s 0 rs) (hc : Chain c 0 us) (hm : m < 256)
    (hn : w.cell? ⟨b, 0, none⟩ = some (.float .f64 (floatOfInt .f64 m))) (hsz : s.size ≤ 2000) (hcz : c.size ≤ 2000) (h0 : 0 < c.size) :
    Calls Try.prog 25 #[i, .iface 82 p1, .iface 82 p2, .iface 109 (.pointer (some ⟨b, 0, none⟩))] w (Arrs c s m w) := by
  obtain ⟨i0, hi, hi0, hi1, hi2⟩ := info_parts Try.info95
  have G1 := Lib.hid (goes h1 hs)
  have G2 := Lib.hid (goes h2 hc)
  have HI := Lib.hid (getInt_any i b m hm w hn)
  have HS := Lib.hid (split_any s c (m + 1) w hsz hcz h0 ⟨rs, hs.scalar, by have := hs.bytes; rwa [List.drop_zero] at this⟩ ⟨us, hc.scalar, by have := hc.bytes; rwa [List.drop_zero] at this⟩ (by omega) (by omega))
  have e1 : decide ((m : Int) < -1) = false := decide_eq_false (by omega)
  have e2 : decide ((c.size : Int) < 1) = false := decide_eq_false (by omega)
  have e3 : ((m : Int) == -1) = false := by rw [beq_eq_false_iff_ne]; omega
  have hg := meth_go
  clear h1 h2 hs hc hn
  go_enter Try.func25, Try.ntmps25
  go_wp2_with (first | (go_at_call 31; refine (getString_any _ _ _).mono ?_; rintro e w' ⟨rfl, rfl⟩) | (go_at_call 32; refine (HI.out).mono ?_; rintro e w' ⟨rfl, rfl⟩))
  refine G1.out.mono ?_
  rintro e w' ⟨rfl, rfl⟩
  go_wp2_with fail
  refine G2.out.mono ?_
  rintro e w' ⟨rfl, rfl⟩
  go_wp2_with fail
  refine HS.out.mono ?_
  rintro e W ⟨⟨v, ps, rfl, hr, hp, hl1, hl2⟩, hb⟩
  obtain ⟨g, cc, rfl, hcells⟩ := hr.cells hl1
  have HC := Lib.hid hcells
  have HP := Lib.hid hp
  have HB := Lib.hid hb
  have HX := Lib.hid (fun k hk => chain_part hp k hk)
  clear hr hp hb hcells HS HI G1 G2
  generalize hn : ps.length = n at *
  have HN := Lib.hid hn
  clear hn
  go_wp2_with (at_make; refine wpList_make_full _ rfl _ _ 91 rfl W.heap.size 95 i0 (.pointer none) 1 Try.underlying91 hi hi0 hi1 .i64 .i64 _ _ n rfl rfl rfl rfl ?q1 ?q2 ?q3 ?_)
  case q1 => rw [hi2]; omega
  case q2 => simp only [maxLen]; omega
  case q3 => exact Nat.le_refl _
  intro w1 hown hgr
  have h00 : FInv W.heap.size n ps W 0 w1 := finv_start hown hgr
  have H00 := Lib.hid h00
  clear h00 hown hgr
  go_wp2_with fail
  go_loopw [74] (fun iv wr => ∃ k : Nat, iv = .int .i64 k ∧ k ≤ n ∧ FInv W.heap.size n ps W k wr) (fun iv _ => n - (intOf iv).toNat)
  case atStart => exact ⟨0, rfl, Nat.zero_le _, H00.out⟩
  case round =>
    obtain ⟨k, rfl, hk, hI⟩ := hrel
    have HF := Lib.hid hI
    by_cases hlt : k < n
    · obtain ⟨rs, hch, hrl⟩ := HX.out k hlt
      have hcell := keep hI.2 (HC.out k hlt)
      obtain ⟨⟨cur, hG, hcs, _⟩, hb⟩ := hI
      have hsz := hb.size
      generalize hps : ps.getD k ByteArray.empty = x at hcell hch
      have HM := Lib.hid (flat_any x rs wr hch (by omega))
      have hch2 := hps ▸ hch
      have HST := Lib.hid (fun w2 T p h1 h2 => finv_store (w1 := w2) (T := T) (p := p) (rs := rs) HF.out hsz h1 h2 hch2)
      have HK := Lib.hid hG
      clear hps hch hch2 hb hrl hG
      go_wp2_with fail
      refine HM.out.mono ?_
      rintro e w2 ⟨⟨v, rfl, hf⟩, hb2⟩
      obtain ⟨vb, vo, vc, rfl, hv⟩ := hf
      have HS2 := Lib.hid (HST.out w2 _ _ hb2 ⟨vb, vo, vc, rfl, hv⟩)
      have hG2 := hkeep hb2 HK.out
      have hGl : W.heap.size < w2.heap.size := (Array.getElem?_eq_some_iff.1 hG2).1
      have cG : w2.cell? ⟨W.heap.size, k, none⟩ = some (cur[k]'(by omega)) := by rw [cell_of_row w2 _ k _ _ _ hG2]; exact Array.getElem?_eq_getElem (by omega)
      have fG : w2.frozen? ⟨W.heap.size, k, none⟩ = false := frozen_of_row w2 _ k _ _ hG2
      clear hv hb2 hG2 hcell HM HST HK HF
      generalize cur[k]'(by omega) = u0 at cG
      clear hcs
      go_wp2_with (go_at_call 35; refine (ready_any _ _ _).mono ?_; rintro e w' ⟨rfl, rfl⟩)
      refine ⟨⟨k + 1, by go_num, by omega, HS2.out⟩, ?_⟩
      simp [intOf]
      omega
    · have hk2 : k = n := by omega
      have HE := Lib.hid (arr_end (m := m) HF.out HN.out hk2 HP.out hl1 hl2)
      have HB2 := Lib.hid (HB.out.trans (hI.2.mono HB.out.size))
      have hsz := hI.2.size
      clear hI HF hk2
      go_wp2_with (go_at_call 36; refine (arr_any _ _ _).mono ?_; rintro e w' ⟨rfl, rfl⟩)
      go_ret2
      exact ⟨⟨_, rfl, HE.out⟩, HB2.out.alloc HB2.out.size _⟩
end Go.Proofs.Ytjnlgefcpmppmaa.split

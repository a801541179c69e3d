/- builtinSplitLimitR by contract. -/
import Derived.Test.YtjnlgefcpmppmaaBuilt
namespace Go.Proofs.Ytjnlgefcpmppmaa.split
open Go.RowKit Go.Proofs.Ytjnlgefcpmppmaa.utf Go.Proofs.Ytjnlgefcpmppmaa.joined
theorem Has.less {c : List UInt8} : ∀ {n m : Nat} {l : List UInt8}, m ≤ n → Has c n l → Has c m l
  | n, 0, _, _, _ => trivial
  | 0, _ + 1, _, h, _ => absurd h (by omega)
  | n + 1, m + 1, l, h, hh => by
    obtain ⟨a, b, e, ha⟩ := hh
    exact ⟨a, b, e, ha.less (by omega)⟩
theorem joinL_cons (c : List UInt8) : ∀ (x : ByteArray) (qs : List ByteArray), joinL c (x :: qs) = L x ++ qs.flatMap fun p => c ++ L p
  | x, [] => by simp [joinL]
  | x, q :: qs => by
    rw [joinL, joinL_cons c q qs]
    simp
/-- What is left at the beginning, and what has been cut off behind it. -/
structure Back (c s : ByteArray) (i : Nat) (x : ByteArray) (qs : List ByteArray) : Prop where
  whole : L x ++ (qs.flatMap fun p => L c ++ L p) = L s
  has : Has (L c) i (L x)
  uni : ∀ p ∈ qs, Uni (L p)
  first : Uni (L x)
  size : ∀ p ∈ qs, p.size ≤ s.size
  less : x.size ≤ s.size
theorem Back.done {c s x : ByteArray} {i : Nat} {qs : List ByteArray} (h : Back c s i x qs) : Parts c s (x :: qs) :=
  ⟨by rw [joinL_cons]; exact h.whole, fun p hp => (List.mem_cons.1 hp).elim (fun e => by rw [e]; exact h.first) (h.uni p), fun p hp => (List.mem_cons.1 hp).elim (fun e => by rw [e]; exact h.less) (h.size p)⟩
theorem Back.step {c s x : ByteArray} {i j : Nat} {qs : List ByteArray} (h : Back c s (i + 1) x qs) (hc : Uni (L c)) (h0 : L c ≠ []) (hh : Hit x c j) (hl : Has (L c) i ((L x).take j)) : Back c s i (x.extract 0 j) (x.extract (j + c.size) x.size :: qs) := by
  have hp := hh.parts
  have hu := h.first
  rw [hp] at hu
  obtain ⟨u1, u2⟩ := uni_split hu hc h0
  have hz := h.less
  refine ⟨?_, by rw [L_take]; exact hl, ?_, by rw [L_take]; exact u1, ?_, by rw [← L_length, L_take, List.length_take, L_length]; omega⟩
  · rw [List.flatMap_cons, L_take, L_drop, ← List.append_assoc, ← List.append_assoc, ← hp]
    exact h.whole
  · intro p hp2
    rcases List.mem_cons.1 hp2 with rfl | h1
    · rw [L_drop]; exact u2
    · exact h.uni p h1
  · intro p hp2
    rcases List.mem_cons.1 hp2 with rfl | h1
    · rw [← L_length, L_drop, List.length_drop, L_length]; omega
    · exact h.size p h1
/-- The row at g, of N strings, holds qs from place i + 1 on. -/
def Held (g N i : Nat) (qs : List ByteArray) (w : World) : Prop := ∃ cur, w.heap[g]? = some (.cells cur 9 (0, 0)) ∧ cur.size = N ∧ ∀ j, j < qs.length → cur[i + 1 + j]? = some (.string (qs.getD j ByteArray.empty))
theorem set_block {w : World} {g k : Nat} {cur : Array Value} {t : TypeId} (v : Value) (h : w.heap[g]? = some (.cells cur t (0, 0))) : (w.setCell ⟨g, k, none⟩ v).heap[g]? = some (.cells (cur.setIfInBounds k v) t (0, 0)) := by
  simp only [World.setCell, Array.getElem?_modify, if_true, h]
  rfl
theorem Held.step {g N i : Nat} {qs : List ByteArray} {w : World} (h : Held g N (i + 1) qs w) (hi : i + 1 < N) (y : ByteArray) : Held g N i (y :: qs) (w.setCell ⟨g, i + 1, none⟩ (.string y)) := by
  obtain ⟨cur, h0, hz, hc⟩ := h
  refine ⟨_, set_block (.string y) h0, by simpa using hz, fun j hj => ?_⟩
  rw [Array.getElem?_setIfInBounds]
  cases j with
  | zero => rw [if_pos rfl, if_pos (by omega)]; rfl
  | succ j =>
    rw [if_neg (by omega), show i + 1 + (j + 1) = i + 1 + 1 + j by omega, hc j (by simpa using hj)]
    rfl
theorem Held.all {g N : Nat} {qs : List ByteArray} {w : World} (h : Held g N 0 qs w) (hN : N = qs.length + 1) (x : ByteArray) : ∀ j, j < (x :: qs).length → (w.setCell ⟨g, 0, none⟩ (.string x)).cell? ⟨g, j, none⟩ = some (.string ((x :: qs).getD j ByteArray.empty)) := by
  obtain ⟨cur, h0, hz, hc⟩ := h
  intro j hj
  rw [cell_of_row _ g j _ _ _ (set_block (.string x) h0), Array.getElem?_setIfInBounds]
  cases j with
  | zero => rw [if_pos rfl, if_pos (by omega)]; rfl
  | succ j =>
    have := hc j (by simpa using hj)
    rw [if_neg (by omega), show j + 1 = 0 + 1 + j by omega, this]
    simp [List.getD]
    rw [show 0 + 1 + j = j + 1 by omega]
    rfl
theorem Held.cell {g N i : Nat} {qs : List ByteArray} {w : World} (h : Held g N i qs w) (k : Nat) (hk : k < N) : (∃ u, w.cell? ⟨g, k, none⟩ = some u) ∧ w.frozen? ⟨g, k, none⟩ = false := by
  obtain ⟨cur, h0, hz, hc⟩ := h
  exact ⟨⟨cur[k]'(by omega), by rw [cell_of_row w g k _ _ _ h0]; exact Array.getElem?_eq_getElem (by omega)⟩, frozen_of_row w g k _ _ h0⟩
theorem held_start {N : Nat} {w w1 : World} {xs : List Value} (hown : w1.ownsRow w.heap.size 9 1 (.slice (some ⟨w.heap.size, 0, none⟩) N N) N xs) (k : Nat) : Held w.heap.size N k [] w1 := by
  rcases hown.2 with ⟨h, _⟩ | ⟨g, cap, cur, e, _, hg, _, _, hz, _⟩
  · cases h
  · cases e
    exact ⟨cur, hg, by omega, fun j hj => absurd hj (by simp)⟩
def BInv (c s : ByteArray) (g N : Nat) (w : World) (i : Nat) (x : ByteArray) (wr : World) : Prop := ∃ qs, Back c s i x qs ∧ Held g N i qs wr ∧ Below g w wr ∧ N = i + qs.length + 1
theorem binv_step {c s x : ByteArray} {g N i j : Nat} {w wr : World} (h : BInv c s g N w (i + 1) x wr) (hc : Uni (L c)) (h0 : L c ≠ []) (hh : Hit x c j) (hl : Has (L c) i ((L x).take j)) :
    BInv c s g N w i (x.extract 0 j) (wr.setCell ⟨g, i + 1, none⟩ (.string (x.extract (j + c.size) x.size))) := by
  obtain ⟨qs, hb, hd, hw, hN⟩ := h
  exact ⟨_, hb.step hc h0 hh hl, hd.step (by omega) _, hw.setCell (Nat.le_refl _) _, by simp; omega⟩
set_option maxRecDepth 100000 in
set_option maxHeartbeats 1000000 in
theorem limitR_any (B1 B2 : Nat) (i : Value) (p1 p2 : Value) (b m : Nat) (s c : ByteArray) (rs us : List Nat) (w : World) (h1 : FlatB B1 w (.iface 82 p1) rs) (h2 : FlatB B2 w (.iface 82 p2) us) (hs : Chain s 0 rs) (hc : Chain c 0 us) (hm : m < 256)
    (hn : w.cell? ⟨b, 0, none⟩ = some (.float .f64 (floatOfInt .f64 m))) (hsz : s.size ≤ 2000) (hcz : c.size ≤ 2000) (h0 : 0 < c.size) :
    Calls Try.prog 28 #[i, .iface 82 p1, .iface 82 p2, .iface 109 (.pointer (some ⟨b, 0, none⟩))] w (Arrs c s m w) := by
  obtain ⟨i0, hi, hi0, hi1, hi2⟩ := info_parts Try.info95
  obtain ⟨i9, j0, j1, j2, j3⟩ := info_parts Try.info9
  have G1 := Lib.hid (goes h1 hs)
  have G2 := Lib.hid (goes h2 hc)
  have HI := Lib.hid (getInt_any i b m hm w hn)
  have UC := Lib.hid (show Uni (L c) from ⟨us, hc.scalar, by have := hc.bytes; rwa [List.drop_zero] at this⟩)
  have US := Lib.hid (show Uni (L s) from ⟨rs, hs.scalar, by have := hs.bytes; rwa [List.drop_zero] at this⟩)
  have HN0 := Lib.hid (show L c ≠ [] by intro h; have := congrArg List.length h; rw [L_length, List.length_nil] at this; omega)
  have HC0 := Lib.hid (count_any s c w (by omega) (by omega) h0)
  have e1 : decide ((m : Int) < -1) = false := decide_eq_false (by omega)
  have e2 : decide ((c.size : Int) < 1) = false := decide_eq_false (by omega)
  have e3 : decide ((-1 : Int) < (m : Int)) = true := decide_eq_true (by omega)
  have hg := meth_go
  clear h1 h2 hs hc hn
  go_enter Try.func28, Try.ntmps28
  go_wp2_with (first | (go_at_call 31; refine (getString_any _ _ _).mono ?_; rintro e w' ⟨rfl, rfl⟩) | (go_at_call 32; refine (HI.out).mono ?_; rintro e w' ⟨rfl, rfl⟩))
  refine G1.out.mono ?_
  rintro e w' ⟨rfl, rfl⟩
  go_wp2_with fail
  refine G2.out.mono ?_
  rintro e w' ⟨rfl, rfl⟩
  go_wp2_with fail
  refine HC0.out.mono ?_
  rintro e w' ⟨rfl, cn, rfl, hcn, hcs⟩
  clear HC0 HI
  by_cases hcm : cn ≤ m
  · have e4 : decide ((m : Int) < (cn : Int)) = false := decide_eq_false (by omega)
    have HASK := Lib.hid hcn
    obtain ⟨K, rfl⟩ : ∃ K, K = cn := ⟨cn, rfl⟩
    clear hcn
    obtain ⟨n, hN1, hN2⟩ : ∃ n, n ≤ K + 1 ∧ K + 1 ≤ n := ⟨K + 1, Nat.le_refl _, Nat.le_refl _⟩
    go_wp2_with (at_make; refine wpList_make_full _ rfl _ _ 22 rfl w.heap.size 9 i9 (.string ⟨#[]⟩) 1 Try.underlying22 j0 j1 j2 .i64 .i64 _ _ n rfl rfl ?l1 ?l2 ?l3 ?l4 ?l5 ?_)
    case l1 => omega
    case l2 => omega
    case l3 => rw [j3]; omega
    case l4 => simp only [maxLen]; omega
    case l5 => exact Nat.le_refl _
    intro w0 hown0 hgr0
    have hb0 := (Below.refl w.heap.size w).grown hgr0 (Nat.le_refl _) (by intro k h; cases h)
    have B0 := Lib.hid (show BInv c s w.heap.size n w K s w0 from ⟨[], ⟨by simp, HASK.out, by simp, US.out, by simp, Nat.le_refl _⟩, held_start hown0 K, hb0, by simp; omega⟩)
    clear hown0 hgr0 hb0
    go_wp2_with fail
    go_loopw [14, 18] (fun xv iv wr => ∃ (x : ByteArray) (k : Nat), xv = .string x ∧ iv = .int .i64 k ∧ k ≤ K ∧ x.size ≤ 2000 ∧ BInv c s w.heap.size n w k x wr) (fun _ iv _ => (intOf iv).toNat)
    case atStart => exact ⟨s, K, rfl, rfl, Nat.le_refl _, hsz, B0.out⟩
    case round =>
      obtain ⟨x, k, rfl, rfl, hk, hx, hBI⟩ := hrel
      have HBI := Lib.hid hBI
      by_cases h0k : 0 < k
      · obtain ⟨k, rfl⟩ : ∃ j, k = j + 1 := ⟨k - 1, by omega⟩
        have HLA := Lib.hid (last_any x c k wr (by omega) (by obtain ⟨qs, hb, _⟩ := hBI; exact hb.has))
        obtain ⟨⟨u, hu⟩, hf⟩ := (show Held w.heap.size n (k + 1) _ wr from hBI.choose_spec.2.1).cell (k + 1) (by omega)
        have hd : decide ((0 : Int) < ((k + 1 : Nat) : Int)) = true := decide_eq_true (by omega)
        clear hBI
        go_wp2_with fail
        refine HLA.out.mono ?_
        rintro e w' ⟨rfl, j, rfl, hh, hl⟩
        have hh1 := hh.1
        have HN1 := Lib.hid (binv_step HBI.out UC.out HN0.out hh hl)
        have HZ1 := Lib.hid (show (x.extract 0 j).size ≤ 2000 by rw [← L_length, L_take, List.length_take, L_length]; omega)
        clear hh hl HLA HBI
        go_wp2_with fail
        refine ⟨⟨_, k, rfl, rfl, by omega, HZ1.out, HN1.out⟩, ?_⟩
        simp [intOf]
      obtain rfl : k = 0 := by omega
      obtain ⟨qs, hbk, hheld, hbw, hNq⟩ := hBI
      obtain ⟨⟨u, hu⟩, hf⟩ := hheld.cell 0 (by omega)
      have HC := Lib.hid (fun j (hj : j < n) => hheld.all (by omega) x j (by simp; omega))
      have HP := Lib.hid hbk.done
      have HX := Lib.hid (fun k hk => chain_part hbk.done k hk)
      have HB := Lib.hid (hbw.setCell (p := ⟨w.heap.size, 0, none⟩) (Nat.le_refl _) (.string x))
      have HN := Lib.hid (show (x :: qs).length = n by simp; omega)
      have hl1 : 1 ≤ n := by omega
      have hl2 : n ≤ m + 1 := by omega
      generalize x :: qs = ps at HC HP HX HN
      have HX := Lib.hid (fun k (hk : k < n) => HX.out k (by rw [HN.out]; exact hk))
      clear hbk hheld hbw hNq HBI
      generalize hW : wr.setCell ⟨w.heap.size, 0, none⟩ (.string x) = W at HC HB
      have HW := Lib.hid hW
      clear hW
      go_wp2_with (at_make; rw [HW.out]; refine wpList_make_full _ rfl _ _ 91 rfl W.heap.size 95 i0 (.pointer none) 1 Try.underlying91 hi hi0 hi1 .i64 .i64 _ _ n rfl rfl rfl rfl ?q1 ?q2 ?q3 ?_)
      case q1 => rw [hi2]; omega
      case q2 => simp only [maxLen]; omega
      case q3 => exact Nat.le_refl _
      intro w1 hown hgr
      have h00 : FInv W.heap.size n ps W 0 w1 := finv_start hown hgr
      have H00 := Lib.hid h00
      clear h00 hown hgr
      go_wp2_with fail
      go_loopw [104] (fun iv wr => ∃ k : Nat, iv = .int .i64 k ∧ k ≤ n ∧ FInv W.heap.size n ps W k wr) (fun iv _ => n - (intOf iv).toNat)
      case atStart => exact ⟨0, rfl, Nat.zero_le _, H00.out⟩
      case round =>
        obtain ⟨k, rfl, hk, hI⟩ := hrel
        have HF := Lib.hid hI
        by_cases hlt : k < n
        · obtain ⟨rs, hch, hrl⟩ := HX.out k hlt
          have hcell := keep hI.2 (HC.out k hlt)
          obtain ⟨⟨cur, hG, hcs, _⟩, hb⟩ := hI
          have hsz := hb.size
          generalize hps : ps.getD k ByteArray.empty = x at hcell hch
          have HM := Lib.hid (flat_any x rs wr hch (by omega))
          have hch2 := hps ▸ hch
          have HST := Lib.hid (fun w2 T p h1 h2 => finv_store (w1 := w2) (T := T) (p := p) (rs := rs) HF.out hsz h1 h2 hch2)
          have HK := Lib.hid hG
          clear hps hch hch2 hb hrl hG
          go_wp2_with fail
          refine HM.out.mono ?_
          rintro e w2 ⟨⟨v, rfl, hf⟩, hb2⟩
          obtain ⟨vb, vo, vc, rfl, hv⟩ := hf
          have HS2 := Lib.hid (HST.out w2 _ _ hb2 ⟨vb, vo, vc, rfl, hv⟩)
          have hG2 := hkeep hb2 HK.out
          have hGl : W.heap.size < w2.heap.size := (Array.getElem?_eq_some_iff.1 hG2).1
          have cG : w2.cell? ⟨W.heap.size, k, none⟩ = some (cur[k]'(by omega)) := by rw [cell_of_row w2 _ k _ _ _ hG2]; exact Array.getElem?_eq_getElem (by omega)
          have fG : w2.frozen? ⟨W.heap.size, k, none⟩ = false := frozen_of_row w2 _ k _ _ hG2
          clear hv hb2 hG2 hcell HM HST HK HF
          generalize cur[k]'(by omega) = u0 at cG
          clear hcs
          go_wp2_with (go_at_call 35; refine (ready_any _ _ _).mono ?_; rintro e w' ⟨rfl, rfl⟩)
          refine ⟨⟨k + 1, by go_num, by omega, HS2.out⟩, ?_⟩
          simp [intOf]
          omega
        · have hk2 : k = n := by omega
          have HE := Lib.hid (arr_end HF.out HN.out hk2 HP.out hl1 hl2)
          have HB2 := Lib.hid (HB.out.trans (hI.2.mono HB.out.size))
          have hsz := hI.2.size
          clear hI HF hk2
          go_wp2_with (go_at_call 36; refine (arr_any _ _ _).mono ?_; rintro e w' ⟨rfl, rfl⟩)
          go_ret2
          exact ⟨⟨_, rfl, HE.out⟩, HB2.out.alloc HB2.out.size _⟩
  · have e4 : decide ((m : Int) < (cn : Int)) = true := decide_eq_true (by omega)
    have HASK := Lib.hid (hcn.less (show m ≤ cn by omega))
    clear hcn
    obtain ⟨K, rfl⟩ : ∃ K, K = m := ⟨m, rfl⟩
    obtain ⟨n, hN1, hN2⟩ : ∃ n, n ≤ K + 1 ∧ K + 1 ≤ n := ⟨K + 1, Nat.le_refl _, Nat.le_refl _⟩
    go_wp2_with (at_make; refine wpList_make_full _ rfl _ _ 22 rfl w.heap.size 9 i9 (.string ⟨#[]⟩) 1 Try.underlying22 j0 j1 j2 .i64 .i64 _ _ n rfl rfl ?l1 ?l2 ?l3 ?l4 ?l5 ?_)
    case l1 => omega
    case l2 => omega
    case l3 => rw [j3]; omega
    case l4 => simp only [maxLen]; omega
    case l5 => exact Nat.le_refl _
    intro w0 hown0 hgr0
    have hb0 := (Below.refl w.heap.size w).grown hgr0 (Nat.le_refl _) (by intro k h; cases h)
    have B0 := Lib.hid (show BInv c s w.heap.size n w K s w0 from ⟨[], ⟨by simp, HASK.out, by simp, US.out, by simp, Nat.le_refl _⟩, held_start hown0 K, hb0, by simp; omega⟩)
    clear hown0 hgr0 hb0
    go_wp2_with fail
    go_loopw [14, 18] (fun xv iv wr => ∃ (x : ByteArray) (k : Nat), xv = .string x ∧ iv = .int .i64 k ∧ k ≤ K ∧ x.size ≤ 2000 ∧ BInv c s w.heap.size n w k x wr) (fun _ iv _ => (intOf iv).toNat)
    case atStart => exact ⟨s, K, rfl, rfl, Nat.le_refl _, hsz, B0.out⟩
    case round =>
      obtain ⟨x, k, rfl, rfl, hk, hx, hBI⟩ := hrel
      have HBI := Lib.hid hBI
      by_cases h0k : 0 < k
      · obtain ⟨k, rfl⟩ : ∃ j, k = j + 1 := ⟨k - 1, by omega⟩
        have HLA := Lib.hid (last_any x c k wr (by omega) (by obtain ⟨qs, hb, _⟩ := hBI; exact hb.has))
        obtain ⟨⟨u, hu⟩, hf⟩ := (show Held w.heap.size n (k + 1) _ wr from hBI.choose_spec.2.1).cell (k + 1) (by omega)
        have hd : decide ((0 : Int) < ((k + 1 : Nat) : Int)) = true := decide_eq_true (by omega)
        clear hBI
        go_wp2_with fail
        refine HLA.out.mono ?_
        rintro e w' ⟨rfl, j, rfl, hh, hl⟩
        have hh1 := hh.1
        have HN1 := Lib.hid (binv_step HBI.out UC.out HN0.out hh hl)
        have HZ1 := Lib.hid (show (x.extract 0 j).size ≤ 2000 by rw [← L_length, L_take, List.length_take, L_length]; omega)
        clear hh hl HLA HBI
        go_wp2_with fail
        refine ⟨⟨_, k, rfl, rfl, by omega, HZ1.out, HN1.out⟩, ?_⟩
        simp [intOf]
      obtain rfl : k = 0 := by omega
      obtain ⟨qs, hbk, hheld, hbw, hNq⟩ := hBI
      obtain ⟨⟨u, hu⟩, hf⟩ := hheld.cell 0 (by omega)
      have HC := Lib.hid (fun j (hj : j < n) => hheld.all (by omega) x j (by simp; omega))
      have HP := Lib.hid hbk.done
      have HX := Lib.hid (fun k hk => chain_part hbk.done k hk)
      have HB := Lib.hid (hbw.setCell (p := ⟨w.heap.size, 0, none⟩) (Nat.le_refl _) (.string x))
      have HN := Lib.hid (show (x :: qs).length = n by simp; omega)
      have hl1 : 1 ≤ n := by omega
      have hl2 : n ≤ K + 1 := by omega
      generalize x :: qs = ps at HC HP HX HN
      have HX := Lib.hid (fun k (hk : k < n) => HX.out k (by rw [HN.out]; exact hk))
      clear hbk hheld hbw hNq HBI
      generalize hW : wr.setCell ⟨w.heap.size, 0, none⟩ (.string x) = W at HC HB
      have HW := Lib.hid hW
      clear hW
      go_wp2_with (at_make; rw [HW.out]; refine wpList_make_full _ rfl _ _ 91 rfl W.heap.size 95 i0 (.pointer none) 1 Try.underlying91 hi hi0 hi1 .i64 .i64 _ _ n rfl rfl rfl rfl ?q1 ?q2 ?q3 ?_)
      case q1 => rw [hi2]; omega
      case q2 => simp only [maxLen]; omega
      case q3 => exact Nat.le_refl _
      intro w1 hown hgr
      have h00 : FInv W.heap.size n ps W 0 w1 := finv_start hown hgr
      have H00 := Lib.hid h00
      clear h00 hown hgr
      go_wp2_with fail
      go_loopw [104] (fun iv wr => ∃ k : Nat, iv = .int .i64 k ∧ k ≤ n ∧ FInv W.heap.size n ps W k wr) (fun iv _ => n - (intOf iv).toNat)
      case atStart => exact ⟨0, rfl, Nat.zero_le _, H00.out⟩
      case round =>
        obtain ⟨k, rfl, hk, hI⟩ := hrel
        have HF := Lib.hid hI
        by_cases hlt : k < n
        · obtain ⟨rs, hch, hrl⟩ := HX.out k hlt
          have hcell := keep hI.2 (HC.out k hlt)
          obtain ⟨⟨cur, hG, hcs, _⟩, hb⟩ := hI
          have hsz := hb.size
          generalize hps : ps.getD k ByteArray.empty = x at hcell hch
          have HM := Lib.hid (flat_any x rs wr hch (by omega))
          have hch2 := hps ▸ hch
          have HST := Lib.hid (fun w2 T p h1 h2 => finv_store (w1 := w2) (T := T) (p := p) (rs := rs) HF.out hsz h1 h2 hch2)
          have HK := Lib.hid hG
          clear hps hch hch2 hb hrl hG
          go_wp2_with fail
          refine HM.out.mono ?_
          rintro e w2 ⟨⟨v, rfl, hf⟩, hb2⟩
          obtain ⟨vb, vo, vc, rfl, hv⟩ := hf
          have HS2 := Lib.hid (HST.out w2 _ _ hb2 ⟨vb, vo, vc, rfl, hv⟩)
          have hG2 := hkeep hb2 HK.out
          have hGl : W.heap.size < w2.heap.size := (Array.getElem?_eq_some_iff.1 hG2).1
          have cG : w2.cell? ⟨W.heap.size, k, none⟩ = some (cur[k]'(by omega)) := by rw [cell_of_row w2 _ k _ _ _ hG2]; exact Array.getElem?_eq_getElem (by omega)
          have fG : w2.frozen? ⟨W.heap.size, k, none⟩ = false := frozen_of_row w2 _ k _ _ hG2
          clear hv hb2 hG2 hcell HM HST HK HF
          generalize cur[k]'(by omega) = u0 at cG
          clear hcs
          go_wp2_with (go_at_call 35; refine (ready_any _ _ _).mono ?_; rintro e w' ⟨rfl, rfl⟩)
          refine ⟨⟨k + 1, by go_num, by omega, HS2.out⟩, ?_⟩
          simp [intOf]
          omega
        · have hk2 : k = n := by omega
          have HE := Lib.hid (arr_end HF.out HN.out hk2 HP.out hl1 hl2)
          have HB2 := Lib.hid (HB.out.trans (hI.2.mono HB.out.size))
          have hsz := hI.2.size
          clear hI HF hk2
          go_wp2_with (go_at_call 36; refine (arr_any _ _ _).mono ?_; rintro e w' ⟨rfl, rfl⟩)
          go_ret2
          exact ⟨⟨_, rfl, HE.out⟩, HB2.out.alloc HB2.out.size _⟩
end Go.Proofs.Ytjnlgefcpmppmaa.split

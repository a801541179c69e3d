/- spec.OfUnits and laws.lists9 by contract. -/
import Derived.Test.YtjnlgefcpmppmaaTell
import Derived.Test.YtjnlgefcpmppmaaEnc
import Derived.Lib.BufferRead
import Derived.Laws.AppendOwnNone
namespace Go.Proofs.Ytjnlgefcpmppmaa.joined
open Go.RowKit Go.Proofs.Ytjnlgefcpmppmaa.utf
theorem Try.info5 : (Try.prog.info? 5).map (fun i => (i.zero, i.size, i.bytes)) = some (some (.int .u8 0), 1, 1) := by kernel_rfl
/-- A slice of numbers. -/
def Ints (w : World) (v : Value) (us : List Nat) : Prop := (v = .slice none 0 0 ∧ us = []) ∨ ∃ g n c, v = .slice (some ⟨g, 0, none⟩) n c ∧ n = us.length ∧ ∀ j, j < us.length → w.cell? ⟨g, j, none⟩ = some (.int .i64 ((us.getD j 0 : Nat) : Int))
theorem Ints.keep {w w' : World} (hb : Below w.heap.size w w') {v : Value} {us : List Nat} (h : Ints w v us) : Ints w' v us := by
  rcases h with h | ⟨g, n, c, e, hn, hc⟩
  · exact .inl h
  · exact .inr ⟨g, n, c, e, hn, fun j hj => joined.keep hb (hc j hj)⟩
theorem ints_of {w : World} {B n : Nat} {v : Value} {us : List Nat} (h : w.ownsRow B 3 1 v n (us.map uv)) (hn : n = us.length) : Ints w v us := by
  rcases h.2 with ⟨h1, h2⟩ | ⟨g, cap, cur, rfl, _, hg, _, _, _, ht⟩
  · subst h2
    exact .inl ⟨h1, List.eq_nil_of_length_eq_zero hn.symm⟩
  · refine .inr ⟨g, n, cap, rfl, hn, fun j hj => ?_⟩
    rw [cell_of_row w g j _ _ _ hg]
    have hu : (us.map uv)[j]? = some (uv us[j]) := by simp [List.getElem?_eq_getElem hj]
    rw [← ht] at hu
    rw [List.getElem?_take_of_lt (by omega)] at hu
    rw [show us.getD j 0 = us[j] by simp [List.getD, List.getElem?_eq_getElem hj]]
    simpa [uv] using hu
def bv (b : UInt8) : Value := .int .u8 (b.toNat : Int)
theorem conv_own {w : World} {B n : Nat} {v : Value} {l : List UInt8} (h : w.ownsRow B 5 1 v n (l.map bv)) (hn : n = l.length) : (convert 37 9 v).run Try.prog w = .ok (.string ⟨l.toArray⟩) w := by
  rcases h.2 with ⟨h1, h2⟩ | ⟨g, cap, cur, rfl, _, hg, _, _, _, ht⟩
  · subst h2
    obtain rfl := List.eq_nil_of_length_eq_zero hn.symm
    subst h1
    exact Lib.run_convert_nil_bytes w 37 9 5 0 Try.underlying37 Try.underlying5 Try.underlying9
  · subst hn
    refine run_convert_bytes_back (P := Try.prog) w 37 9 5 ⟨g, 0, none⟩ cap l Try.underlying37 Try.underlying5 Try.underlying9 (fun j hj => ?_)
    rw [Addr.add_lit, Nat.zero_add, cell_of_row w g j _ _ _ hg]
    have hu : (l.map bv)[j]? = some (bv l[j]) := by simp [List.getElem?_eq_getElem hj]
    rw [← ht] at hu
    rw [List.getElem?_take_of_lt (by omega)] at hu
    simpa [bv] using hu
theorem encL_le (r : Nat) : (encL r).length ≤ 4 := by 
  unfold encL
  by_cases h1 : r < 128
  · rw [if_pos h1]; simp
  rw [if_neg h1]
  by_cases h2 : r < 2048
  · rw [if_pos h2]; simp
  rw [if_neg h2]
  by_cases h3 : r < 65536
  · rw [if_pos h3]; simp
  rw [if_neg h3]; simp
theorem flat_le : ∀ us : List Nat, (us.flatMap encL).length ≤ 4 * us.length
  | [] => by simp
  | r :: us => by
    have h1 := encL_le r
    have h2 := flat_le us
    simp only [List.flatMap_cons, List.length_append, List.length_cons]
    omega
theorem take_enc (us : List Nat) (k : Nat) (h : k < us.length) : (us.take (k + 1)).flatMap encL = (us.take k).flatMap encL ++ encL (us.getD k 0) := by
  rw [List.take_succ_eq_append_getElem h, List.flatMap_append, show us.getD k 0 = us[k] by simp [List.getD, List.getElem?_eq_getElem h]]
  simp
theorem enc_size (r : Nat) : (⟨(encL r).toArray⟩ : ByteArray).size = (encL r).length := by
  show (encL r).toArray.size = _
  simp
theorem own_keep {w w' : World} {B e n : Nat} {v : Value} {xs : List Value} (h : w.ownsRow B e 1 v n xs) (hb : Below w.heap.size w w') : w'.ownsRow B e 1 v n xs := by
  refine ⟨h.1, ?_⟩
  rcases h.2 with h1 | ⟨g, cap, cur, e1, hB, hg, r⟩
  · exact .inl h1
  · exact .inr ⟨g, cap, cur, e1, hB, hkeep hb hg, r⟩
def OInv (w : World) (us : List Nat) (k : Nat) (v : Value) (wr : World) : Prop := wr.ownsRow w.heap.size 5 1 v ((us.take k).flatMap encL).length (((us.take k).flatMap encL).map bv) ∧ Below w.heap.size w wr
def OTells (us : List Nat) (w : World) (e : Ending) (w' : World) : Prop := e = .returned (.string (txt us)) ∧ Below w.heap.size w w'
theorem oinv_step {w : World} {us : List Nat} {k : Nat} {v v' : Value} {wr w1 w' : World} (h : OInv w us k v wr) (hk : k < us.length) (hb : Below wr.heap.size wr w1)
    (hown : w'.ownsRow w.heap.size 5 1 v' (((us.take k).flatMap encL).length + (encL (us.getD k 0)).length) (((us.take k).flatMap encL).map bv ++ (encL (us.getD k 0)).map bv)) (hg : w1.grownBy w' v.ownBlock) : OInv w us (k + 1) v' w' := by
  refine ⟨?_, ?_⟩
  · rw [take_enc us k hk, List.length_append, List.map_append]
    exact hown
  · exact (h.2.trans (hb.mono h.2.size)).grown hg (Nat.le_trans h.2.size hb.size) (fun j hj => (h.1.lt j hj).1)
set_option maxRecDepth 100000 in
theorem of_units (v : Value) (us : List Nat) (w : World) (hv : Ints w v us) (hs : ∀ r ∈ us, Scalar r) (hmax : us.length ≤ 1000000) : Calls Try.prog 8 #[v] w (OTells us w) := by
  obtain ⟨i0, hi, hi0, hi1, hi2⟩ := info_parts Try.info5
  rcases hv with ⟨rfl, rfl⟩ | ⟨g, n, c, rfl, hn, hc⟩
  · have hcv := fun (w' : World) (h : w'.ownsRow w.heap.size 5 1 (.slice (some ⟨w.heap.size, 0, none⟩) 0 0) 0 (([] : List UInt8).map bv)) => conv_own h rfl
    have hcv2 := hcv _ (World.ownsRow_made w #[] 0 (Nat.le_refl _) (by decide) rfl)
    clear hcv
    go_enter Try.func8, Try.ntmps8
    go_wp2
    refine wp_loop_rounds 1 ?_
    rw [rounds_succ]
    go_wp2
    go_ret
    exact ⟨rfl, (Below.refl _ _).alloc (Nat.le_refl _) _⟩
  · have HN := Lib.hid hn
    have HC := Lib.hid hc
    have HS := Lib.hid hs
    have hn2 : n ≤ 1000000 := by omega
    clear hn hc hs hmax
    go_enter Try.func8, Try.ntmps8
    go_wp2_with fail
    go_loopw [3, 4] (fun v i wr => ∃ k : Nat, i = .int .i64 k ∧ k ≤ n ∧ OInv w us k v wr) (fun _ i _ => n - (intOf i).toNat)
    case atStart => exact ⟨0, rfl, by omega, World.ownsRow_made w #[] 0 (Nat.le_refl _) (by decide) rfl, (Below.refl _ _).alloc (Nat.le_refl _) _⟩
    case round =>
      obtain ⟨k, rfl, hk, hI⟩ := hrel
      have HI := Lib.hid hI
      clear hI
      by_cases hlt : k < n
      · have hku : k < us.length := by rw [← HN.out]; exact hlt
        have hcell := keep HI.out.2 (HC.out k hku)
        have hr := HS.out (us.getD k 0) (by rw [show us.getD k 0 = us[k] by simp [List.getD, List.getElem?_eq_getElem hku]]; exact List.getElem_mem _)
        have hl : ((us.take k).flatMap encL).length + (encL (us.getD k 0)).length ≤ 5000000 := by
          have h1 := flat_le (us.take k)
          have h2 := encL_le (us.getD k 0)
          rw [List.length_take] at h1
          omega
        have HU := Lib.hid hku
        have hown := HI.out.1
        have hsz := HI.out.2.size
        have HX := Lib.hid (fun w1 w' v' hb h1 h2 => oinv_step (v' := v') (w1 := w1) (w' := w') HI.out hku hb h1 h2)
        generalize us.getD k 0 = r at hcell hr hl HX
        have HE := Lib.hid (enc_any r wr hr)
        generalize ((us.take k).flatMap encL).length = m at *
        generalize ((us.take k).flatMap encL).map bv = xs at *
        clear hr hku
        go_wp2_with fail
        refine HE.out.mono ?_
        rintro e w1 ⟨rfl, hb1⟩
        have hs1 := hb1.size
        have hown1 := own_keep hown hb1
        have HX2 := Lib.hid (fun w' v' h1 h2 => HX.out w1 w' v' hb1 h1 h2)
        clear hb1 HX hown HE
        go_wp2_with (at_builtin; (refine Lib.wpList_append_own_string _ rfl _ _ 37 9 rfl w.heap.size 5 i0 Try.underlying37 Try.underlying9 hi hi0 hi1 hi2 _ m xs rfl hown1 ⟨(encL r).toArray⟩ rfl ?q1 ?q2 ?q3 ?_))
        case q1 => simp only [maxLen, enc_size]; omega
        case q2 => simp only [enc_size]; omega
        case q3 => omega
        intro v' w2 h2 h3 _
        have hN := HX2.out w2 v' h2 h3
        have H2 := Lib.hid hN
        clear h2 h3 hN HX2 hown1
        go_wp2_with fail
        go_roundw
        case rel => exact ⟨k + 1, by go_num, by omega, H2.out⟩
        case measure => simp [intOf]; omega
      · have hk2 : k = n := by omega
        have hv := HI.out.1
        rw [List.take_of_length_le (by rw [← HN.out]; omega)] at hv
        have hcv := conv_own hv rfl
        have HB := Lib.hid HI.out.2
        clear hv HI
        go_wp2_with fail
        go_ret
        exact ⟨rfl, HB.out⟩
/-- units9. -/
def U9 (s : ByteArray) (w : World) (e : Ending) (w' : World) : Prop :=
  Below w.heap.size w w' ∧ (e = .returned (.tuple #[.slice none 0 0, .bool false]) ∨ ∃ v rs, e = .returned (.tuple #[v, .bool true]) ∧ Chain s 0 rs ∧ w'.ownsRow w.heap.size 3 1 v rs.length (rs.map uv) ∧ s.size ≤ 2000)
theorem units9_any (s : ByteArray) (w : World) (hz : s.size ≤ 9223372036854775807) : Calls Try.prog 10 #[.string s] w (U9 s w) := by
  by_cases hs : s.size ≤ 2000
  · have hd : decide ((2000 : Int) < (s.size : Int)) = false := decide_eq_false (by omega)
    have HU := Lib.hid (units_any s w (by omega))
    have HS := Lib.hid hs
    clear hs hz
    go_enter Try.func10, Try.ntmps10
    go_wp2_with fail
    refine HU.out.mono ?_
    rintro e w1 ⟨hb, h⟩
    have HB := Lib.hid hb
    clear hb
    rcases h with rfl | ⟨v, rs, rfl, hc, hown⟩
    · go_wp2_with fail
      go_ret2
      exact ⟨HB.out, .inl rfl⟩
    · have HC := Lib.hid hc
      have HO := Lib.hid hown
      clear hc hown
      go_wp2_with fail
      go_ret2
      exact ⟨HB.out, .inr ⟨v, rs, rfl, HC.out, HO.out, HS.out⟩⟩
  · have hd : decide ((2000 : Int) < (s.size : Int)) = true := decide_eq_true (by omega)
    clear hs
    go_enter Try.func10, Try.ntmps10
    go_wp2_with fail
    go_ret2
    exact ⟨Below.refl _ _, .inl rfl⟩
def PtsUpto (ss : List ByteArray) (k : Nat) (us : List (List Nat)) : Prop := us.length = k ∧ ∀ j, j < k → Chain (ss.getD j ByteArray.empty) 0 (us.getD j [])
def Gather (w : World) (ss : List ByteArray) (k : Nat) (v : Value) (wr : World) : Prop := ∃ us, PtsUpto ss k us ∧ wr.ownsRow w.heap.size 3 1 v us.flatten.length (us.flatten.map uv) ∧ us.flatten.length ≤ 2000 * k ∧ Below w.heap.size w wr
theorem gather_step {w wr w1 w2 : World} {ss : List ByteArray} {k : Nat} {v v' : Value} {us : List (List Nat)} {rs : List Nat} (hp : PtsUpto ss k us) (hl : us.flatten.length ≤ 2000 * k) (hb : Below w.heap.size w wr) (hv : wr.ownsRow w.heap.size 3 1 v us.flatten.length (us.flatten.map uv))
    (hc : Chain (ss.getD k ByteArray.empty) 0 rs) (hr : rs.length ≤ 2000) (hb1 : Below wr.heap.size wr w1) (hown : w2.ownsRow w.heap.size 3 1 v' (us.flatten.length + rs.length) (us.flatten.map uv ++ rs.map uv)) (hg : w1.grownBy w2 v.ownBlock) : Gather w ss (k + 1) v' w2 := by
  have hf : (us ++ [rs]).flatten = us.flatten ++ rs := by rw [List.flatten_append, List.flatten_cons, List.flatten_nil, List.append_nil]
  refine ⟨us ++ [rs], ⟨by rw [List.length_append, hp.1]; rfl, fun j hj => ?_⟩, ?_, ?_, (hb.trans (hb1.mono hb.size)).grown hg (Nat.le_trans hb.size hb1.size) (fun j hj => (hv.lt j hj).1)⟩
  · by_cases h : j < k
    · have := hp.2 j h
      rwa [show (us ++ [rs]).getD j [] = us.getD j [] by simp [List.getD, List.getElem?_append_left (show j < us.length by rw [hp.1]; exact h)]]
    · obtain rfl : j = k := by omega
      rw [show (us ++ [rs]).getD j [] = rs by simp [List.getD, ← hp.1]]
      exact hc
  · rw [hf, List.length_append, List.map_append]
    exact hown
  · rw [hf, List.length_append]
    omega
def L9 (ss : List ByteArray) (w : World) (e : Ending) (w' : World) : Prop :=
  Below w.heap.size w w' ∧ ((∃ v, e = .returned (.tuple #[v, .bool false])) ∨ ∃ v us, e = .returned (.tuple #[v, .bool true]) ∧ Pts ss us ∧ Ints w' v us.flatten ∧ us.flatten.length ≤ 8000 ∧ ss.length ≤ 200)
set_option maxRecDepth 100000 in
theorem lists_some (b off n c : Nat) (ss : List ByteArray) (w : World) (hn : n = ss.length) (hS : Strs w b off ss) (hz : ∀ j, j < ss.length → (ss.getD j ByteArray.empty).size ≤ 9223372036854775807) (hn2 : n ≤ 200) :
    Calls Try.prog 6 #[.slice (some ⟨b, off, none⟩) n c] w (L9 ss w) := by
  obtain ⟨i0, hi, hi0, hi1, hi2⟩ := info_parts Try.info3
  have HS := Lib.hid hS
  have HN := Lib.hid hn
  have HZ := Lib.hid hz
  have hd : decide ((200 : Int) < (n : Int)) = false := decide_eq_false (by omega)
  clear hS hn hz
  go_enter Try.func6, Try.ntmps6
  go_wp2_with fail
  go_loopw [4, 5] (fun v i wr => ∃ k : Nat, i = .int .i64 k ∧ k ≤ n ∧ Gather w ss k v wr) (fun _ i _ => n - (intOf i).toNat)
  case atStart => exact ⟨0, rfl, by omega, [], ⟨rfl, fun j hj => absurd hj (by omega)⟩, World.ownsRow_made w #[] 0 (Nat.le_refl _) (by decide) rfl, by simp, (Below.refl _ _).alloc (Nat.le_refl _) _⟩
  case round =>
    obtain ⟨k, rfl, hk, us, hp, hown, hl, hb⟩ := hrel
    by_cases hlt : k < n
    · have hks : k < ss.length := by rw [← HN.out]; exact hlt
      have hcell := (HS.out.keep hb) k hks
      have hu := units9_any (ss.getD k ByteArray.empty) wr (HZ.out k hks)
      have HX := Lib.hid (fun w1 w2 v' rs h1 h2 h3 h4 h5 => gather_step (w1 := w1) (w2 := w2) (v' := v') (rs := rs) hp hl hb hown h1 h2 h3 h4 h5)
      have HU := Lib.hid hu
      have HB := Lib.hid hb
      generalize us.flatten.length = m at *
      generalize us.flatten.map uv = xs at *
      generalize ss.getD k ByteArray.empty = s at *
      clear hks hu hp hb
      go_wp2_with fail
      refine HU.out.mono ?_
      rintro e w1 ⟨hb1, h⟩
      have HB1 := Lib.hid (HB.out.trans (hb1.mono HB.out.size))
      rcases h with rfl | ⟨v2, rs, rfl, hc, hrow, hs2⟩
      · clear hb1
        go_wp2_with fail
        go_ret2
        exact ⟨HB1.out, .inl ⟨_, rfl⟩⟩
      · have hr := hc.length
        have hown1 := own_keep hown hb1
        have HX2 := Lib.hid (fun w2 v' h4 h5 => HX.out w1 w2 v' rs hc (by omega) hb1 h4 h5)
        have hw1 := HB1.out.size
        have hrl : rs.length ≤ 2000 := by omega
        have HR := Lib.hid (show (rs.map uv).length = rs.length * 1 by simp)
        have HO := Lib.hid (show ∀ u ∈ rs.map uv, u.oneCell' = true by intro u hu; obtain ⟨x, _, rfl⟩ := List.mem_map.1 hu; rfl)
        clear hown hb1 hc hr HX HU
        rcases hrow.2 with ⟨rfl, h0⟩ | ⟨g, cap, cur, rfl, hg1, hg, hg2, hg3, hg4, ht⟩
        · have hN := HX2.out w1 u4 (by
            obtain rfl := List.eq_nil_of_length_eq_zero h0
            simpa using hown1) (World.grownBy.refl w1 _)
          have H2 := Lib.hid hN
          clear hN HX2 hrow h0
          go_wp2_with (at_builtin; refine wpList_append_own_none rfl _ _ 24 rfl w.heap.size 3 i0 1 Try.underlying24 hi u4 m xs rfl hown1 rfl ?_)
          go_wp2_with fail
          go_roundw
          case rel => exact ⟨k + 1, by go_num, by omega, H2.out⟩
          case measure => simp [intOf]; omega
        · have hnews : ∀ j u, (rs.map uv)[j]? = some u → w1.cell? ((⟨g, 0, none⟩ : Addr).add j) = some u := fun j u hu => by
            rw [Addr.add_lit, Nat.zero_add, cell_of_row w1 g j _ _ _ hg]
            rw [← ht] at hu
            have hj := (List.getElem?_eq_some_iff.1 hu).1
            rw [List.length_take] at hj
            rw [List.getElem?_take_of_lt (by omega)] at hu
            simpa using hu
          have HW := Lib.hid hnews
          generalize rs.length = z at *
          clear hnews hrow hg hg1 hg2 hg3 hg4 ht
          go_wp2_with (at_builtin; refine wpList_append_own _ rfl _ _ 24 rfl w.heap.size 3 i0 (.int .i64 0) 1 8 Try.underlying24 hi hi0 hi1 hi2 rfl (by decide) u4 m xs rfl hown1 ⟨g, 0, none⟩ z cap (rs.map uv) rfl HR.out HW.out HO.out ?q1 ?q2 ?q3 ?_)
          case q1 => simp only [maxLen]; omega
          case q2 => omega
          case q3 => omega
          intro v' w2 h4 h5 _
          have H2 := Lib.hid (HX2.out w2 v' h4 h5)
          clear h4 h5 HX2 hown1
          go_wp2_with fail
          go_roundw
          case rel => exact ⟨k + 1, by go_num, by omega, H2.out⟩
          case measure => simp [intOf]; omega
    · have hk2 : k = n := by omega
      have hP : Pts ss us := ⟨by rw [hp.1, hk2, HN.out], fun j hj => hp.2 j (by rw [hk2, HN.out]; exact hj)⟩
      have hI : ∀ w', Below wr.heap.size wr w' → Ints w' u4 us.flatten := fun w' h => (ints_of hown rfl).keep h
      have HP := Lib.hid hP
      have HI := Lib.hid hI
      have HB := Lib.hid hb
      clear hP hI hb hp
      have HL := Lib.hid (show ss.length ≤ 200 by rw [← HN.out]; exact hn2)
      rcases hown.2 with ⟨rfl, h0⟩ | ⟨g, cap, cur, rfl, _, _, _, _, _, _⟩
      · have HZ0 := Lib.hid (show us.flatten.length ≤ 8000 by omega)
        clear hown h0 hl
        go_wp2_with fail
        go_ret2
        exact ⟨HB.out, .inr ⟨_, us, rfl, HP.out, HI.out _ (Below.refl _ _), HZ0.out, HL.out⟩⟩
      · clear hown
        generalize hm : us.flatten.length = m at hl HI ⊢
        have HM := Lib.hid hm
        clear hm
        by_cases h8 : m ≤ 8000
        · have HZ0 := Lib.hid (show us.flatten.length ≤ 8000 by rw [HM.out]; exact h8)
          have hd8 : decide ((m : Int) ≤ 8000) = true := decide_eq_true (by omega)
          clear hl h8
          go_wp2_with fail
          go_ret2
          exact ⟨HB.out, .inr ⟨_, us, rfl, HP.out, HI.out _ (Below.refl _ _), HZ0.out, HL.out⟩⟩
        · have hd8 : decide ((m : Int) ≤ 8000) = false := decide_eq_false (by omega)
          clear hl h8
          go_wp2_with fail
          go_ret2
          exact ⟨HB.out, .inl ⟨_, rfl⟩⟩
/-- More than 200 strings, or none: nothing is looked at, or no code points are told. -/
theorem lists_many (a : Option Addr) (n c : Nat) (ss : List ByteArray) (w : World) (hn : 200 < n) (hn2 : n ≤ 9223372036854775807) : Calls Try.prog 6 #[.slice a n c] w (L9 ss w) := by
  have hd : decide ((200 : Int) < (n : Int)) = true := decide_eq_true (by omega)
  go_enter Try.func6, Try.ntmps6
  go_wp2_with fail
  go_ret2
  exact ⟨(Below.refl _ _).alloc (Nat.le_refl _) _, .inl ⟨_, rfl⟩⟩
theorem lists_none (o : Option Addr) (c : Nat) (w : World) : Calls Try.prog 6 #[.slice o 0 c] w (L9 [] w) := by
  go_enter Try.func6, Try.ntmps6
  go_wp2_with fail
  refine wp_loop_rounds 1 ?_
  rw [rounds_succ]
  go_wp2_with fail
  go_ret2
  exact ⟨(Below.refl _ _).alloc (Nat.le_refl _) _, .inr ⟨_, [], rfl, ⟨rfl, fun j hj => absurd hj (by simp)⟩, .inr ⟨_, 0, 0, rfl, rfl, fun j hj => absurd hj (by simp)⟩, by simp, by simp⟩⟩
end Go.Proofs.Ytjnlgefcpmppmaa.joined

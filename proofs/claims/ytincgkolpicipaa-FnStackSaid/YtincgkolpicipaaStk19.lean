/- FnStack: impl.Stack by contract. -/
import Derived.Test.YtincgkolpicipaaStk18
namespace Go.Proofs.Ytincgkolpicipaa.stack
open Go.RowKit
structure IRel (w : World) (es : List Sx) (k : Nat) (v6 : Value) (wr : World) : Prop where
  ex : ∃ ps, ps.map (·.2) = fx es k ∧ XO w wr v6 ps
  ok : ∀ (i : Nat) (e : Sx), i < k → es[i]? = some e → badK e = false
theorem irel_next {w W W' wr : World} {es : List Sx} {k : Nat} {v : Value} {ps : List (Value × Sx)} {s : Sx} {nv : Value} {q cap : Nat} {num : Int} (hs : es[k]? = some s) (hps : ps.map (·.2) = fx es k) (hok : ∀ (i : Nat) (e : Sx), i < k → es[i]? = some e → badK e = false) (hbad : badK s = false) (hnum : num = if s.k = 3 then s.num else (k : Int)) (h : XO w wr v ps) (hst : Strs w nv s.names) (hz : s.name.size ≤ 9223372036854775807) (hb : Below wr.heap.size wr W)
    (ho : W'.ownsRow w.heap.size 51 5 (.slice (some ⟨q, 0, none⟩) (ps.length + 1) cap) (ps.length + 1) (rowX ps ++ [.int .i64 s.k, nv, .string s.name, .int .i64 num, .bool s.trim])) (hg : W.grownBy W' v.ownBlock) :
    IRel w es (k + 1) (.slice (some ⟨q, 0, none⟩) (ps.length + 1) cap) W' := by
  subst hnum
  refine ⟨⟨ps ++ [(nv, fixS k s)], by rw [List.map_append, hps, fx_succ hs]; rfl, xo_app h hst hz hb ho hg⟩, fun i e hi he => ?_⟩
  by_cases e1 : i = k
  · subst e1; rw [hs] at he; cases he; exact hbad
  · exact hok i e (by omega) he
theorem oneX (a z : Int) (A : Option Addr) (n c : Nat) (s : ByteArray) (b : Bool) : ∀ u ∈ [Value.int .i64 a, .slice A n c, .string s, .int .i64 z, .bool b], u.oneCell' = true := fun u hu => by
  simp only [List.mem_cons, List.mem_nil_iff, or_false] at hu
  rcases hu with rfl | rfl | rfl | rfl | rfl <;> rfl
theorem xo_own {w wr W : World} {v : Value} {ps : List (Value × Sx)} (h : XO w wr v ps) (hb : Below wr.heap.size wr W) : W.ownsRow w.heap.size 51 5 v ps.length (rowX ps) := owns_chg h.own (Chg.below (X := fun _ => False) hb) fun _ _ h => h
theorem fin_ints {wr w1 : World} {es : List Sx} {n : Nat} {x2 x3 x4 : Value} (h1 : (fx es n).length = n) (h2 : rn (fx es n) n = rn es n) (hn : es.length = n) (h : R3 wr.heap.size wr x2 x3 x4 (rn (fx es n) (fx es n).length).f (rn (fx es n) (fx es n).length).n (rn (fx es n) (fx es n).length).c w1) :
    Ints w1 x2 (rn es es.length).f ∧ Ints w1 x3 (rn es es.length).n ∧ Ints w1 x4 (rn es es.length).c := by
  rw [h1, h2] at h
  rw [hn]
  exact ⟨h.o2.reads, h.o3.reads, h.o4.reads⟩
set_option maxRecDepth 100000 in
set_option maxHeartbeats 40000000 in
theorem implStack_any (v : Value) (es : List Sx) (w : World) (h : Sxs w v es) (hl : es.length ≤ 200) : Calls Try.prog 7 #[v] w fun e w' => StackD w w' es e := by
  obtain ⟨A, cap, rfl, _, hc⟩ := h
  have HC := Lib.hid hc
  have HL := Lib.hid hl
  have HFL := Lib.hid (fx_len es)
  have HNO := Lib.hid (show ∀ (i : Nat) (e : Sx), es[i]? = some e → badK e = true → rightB es = false from fun i e hi hb => by
    rw [Bool.eq_false_iff]
    intro h
    have := List.all_eq_true.1 h e (List.mem_of_getElem? hi)
    rw [hb] at this; cases this)
  have HYES := Lib.hid (show (∀ (i : Nat) (e : Sx), es[i]? = some e → badK e = false) → rightB es = true from fun h => List.all_eq_true.2 fun (e : Sx) he => by
    obtain ⟨i, hi⟩ := List.getElem?_of_mem he
    rw [h i e hi]; rfl)
  have HRX := Lib.hid (rn_fx es)
  have HGF := Lib.hid (good_fx es hl)
  clear hc
  generalize hn : es.length = n at *
  have HN := Lib.hid hn
  clear hn
  obtain ⟨i0, hi, hz0, hz1, hz2⟩ := info_parts Try.info51
  have HI : Hid (Try.prog.info? 51 = some i0 ∧ i0.zero = some (.agg #[.int .i64 0, .slice none 0 0, .string { data := #[] }, .int .i64 0, .bool false]) ∧ i0.size = 5 ∧ i0.bytes = 64) := ⟨hi, hz0, hz1, hz2⟩
  clear hi hz0 hz1 hz2
  go_enter Try.func7, Try.ntmps7
  go_wp2_with fail
  go_loopw [6, 7, 8, 9, 12] (fun v6 _ _ _ i wr => ∃ k : Nat, k ≤ n ∧ i = .int .i64 k ∧ IRel w es k v6 wr) (fun _ _ _ _ i _ => n - (intOf i).toNat)
  case atStart => exact ⟨0, Nat.zero_le _, rfl, ⟨[], rfl, World.ownsRow_nil _ _ _ _, (fun p hp => by cases hp), Below.refl _ _⟩, fun i e h => by omega⟩
  case round =>
    obtain ⟨k, hk, rfl, hrr⟩ := hrel
    obtain ⟨ps, hps, hxo⟩ := hrr.ex
    have HOK := Lib.hid hrr.ok
    by_cases hlt : k < n
    · obtain ⟨s, hs⟩ : ∃ s, es[k]? = some s := ⟨_, List.getElem?_eq_getElem (by have := HN.out; omega)⟩
      obtain ⟨q, o, rfl, hel⟩ := HC.out k s hs
      obtain ⟨c0, c2, c3, c4, hnz, nv, c1, hst⟩ := hel
      obtain ⟨A2, cap2, rfl⟩ := hst.form
      have hki : (k : Int) < (n : Int) := by omega
      have c0 := cell_later hxo.bel c0
      have c1 := cell_later hxo.bel c1
      have c2 := cell_later hxo.bel c2
      have c3 := cell_later hxo.bel c3
      have c4 := cell_later hxo.bel c4
      have HST := Lib.hid hst
      have HNZ := Lib.hid hnz
      have HSS := Lib.hid hs
      have HXO := Lib.hid hxo
      have HPS := Lib.hid hps
      have HBE := Lib.hid hxo.bel
      have hpl : ps.length ≤ 200 := by have h1 := congrArg List.length hps; have h2 := HFL.out k (by omega); have h3 := HL.out; simp at h1; omega
      have HPL := Lib.hid hpl
      clear hst hnz hs hxo hps hrr hpl
      have HBS := Lib.hid (show ∀ W', Below wr.heap.size wr W' → Below w.heap.size w W' from fun W' h => step_after HBE.out h)
      have HB2 := Lib.hid (ba2 wr)
      cases hb : badK s
      · have HBB := Lib.hid hb
        have HNX := Lib.hid (fun W W' q cap num h1 (h2 : Below wr.heap.size wr W) h3 h4 => irel_next (W := W) (W' := W') (q := q) (cap := cap) (num := num) HSS.out HPS.out HOK.out HBB.out h1 HXO.out HST.out HNZ.out h2 h3 h4)
        unfold badK at hb
        simp only [Bool.or_eq_false_iff] at hb
        obtain ⟨d1, d2, d3⟩ := hb
        cases k3 : (s.k == 3)
        · have HNUM := Lib.hid (show (k : Int) = if s.k = 3 then s.num else (k : Int) by rw [if_neg (by simpa using k3)])
          clear d3
          go_wp2_with (at_builtin; refine wpList_append_lies _ rfl (.tmp 51) (.tmp 53) 49 rfl w.heap.size 51 i0 _ 5 64 Try.underlying49 HI.out.1 HI.out.2.1 HI.out.2.2.1 HI.out.2.2.2 rfl (by decide) u6 ps.length (rowX ps) rfl (xo_own HXO.out ((HB2.out _ _).alloc (HB2.out _ _).size _)) ⟨wr.heap.size + 2, 0, none⟩ 1 1 [.int .i64 s.k, .slice A2 s.names.length cap2, .string s.name, .int .i64 k, .bool s.trim] rfl rfl (World.news_of_block (nw2 _ _ _ _)) (oneX _ _ _ _ _ _ _) (by decide) (by rw [maxLen_eq]; have := HPL.out; omega) (by have := HPL.out; omega) (Nat.le_trans HBE.out.size ((HB2.out _ _).alloc (HB2.out _ _).size _).size) _ rfl ?_; intro q1 cp1 w1 ho1 hg1 hat1 hl1; have HR := Lib.hid (HNX.out _ w1 q1 cp1 _ HNUM.out ((HB2.out _ _).alloc (HB2.out _ _).size _) ho1 hg1); clear ho1 hg1 hat1 hl1)
          exact ⟨⟨k + 1, by omega, by go_num, HR.out⟩, by simp [intOf]; omega⟩
        · have d4 : decide (s.num < 1) = false := by simpa [k3] using d3
          have HNUM := Lib.hid (show s.num = if s.k = 3 then s.num else (k : Int) by rw [if_pos (by simpa using k3)])
          clear d3
          go_wp2_with (at_builtin; refine wpList_append_lies _ rfl (.tmp 51) (.tmp 53) 49 rfl w.heap.size 51 i0 _ 5 64 Try.underlying49 HI.out.1 HI.out.2.1 HI.out.2.2.1 HI.out.2.2.2 rfl (by decide) u6 ps.length (rowX ps) rfl (xo_own HXO.out ((HB2.out _ _).alloc (HB2.out _ _).size _)) ⟨wr.heap.size + 2, 0, none⟩ 1 1 [.int .i64 s.k, .slice A2 s.names.length cap2, .string s.name, .int .i64 s.num, .bool s.trim] rfl rfl (World.news_of_block (nw2 _ _ _ _)) (oneX _ _ _ _ _ _ _) (by decide) (by rw [maxLen_eq]; have := HPL.out; omega) (by have := HPL.out; omega) (Nat.le_trans HBE.out.size ((HB2.out _ _).alloc (HB2.out _ _).size _).size) _ rfl ?_; intro q1 cp1 w1 ho1 hg1 hat1 hl1; have HR := Lib.hid (HNX.out _ w1 q1 cp1 _ HNUM.out ((HB2.out _ _).alloc (HB2.out _ _).size _) ho1 hg1); clear ho1 hg1 hat1 hl1)
          exact ⟨⟨k + 1, by omega, by go_num, HR.out⟩, by simp [intOf]; omega⟩
      · have HR := Lib.hid (HNO.out k s HSS.out hb)
        cases d1 : decide (s.k < 1)
        · cases d2 : decide (5 < s.k)
          · unfold badK at hb
            rw [d1, d2] at hb
            simp only [Bool.false_or, Bool.and_eq_true] at hb
            obtain ⟨k3, d4⟩ := hb
            go_wp2_with fail
            go_returns
            exact ⟨HBS.out _ (HB2.out _ _), (fun h => by rw [HR.out] at h; cases h), fun _ => rfl⟩
          · have k3 : (s.k == 3) = false := by simp at d2 ⊢; omega
            clear hb
            go_wp2_with fail
            go_returns
            exact ⟨HBS.out _ (HB2.out _ _), (fun h => by rw [HR.out] at h; cases h), fun _ => rfl⟩
        · have k3 : (s.k == 3) = false := by simp at d1 ⊢; omega
          clear hb
          go_wp2_with fail
          go_returns
          exact ⟨HBS.out _ (HB2.out _ _), (fun h => by rw [HR.out] at h; cases h), fun _ => rfl⟩
    · have hki : ¬ (k : Int) < (n : Int) := by omega
      have HE := Lib.hid (show k = n by omega)
      obtain ⟨A6, cap6, hv6, -, -, -⟩ := owns_form hxo.own
      subst hv6
      have hall : ∀ (i : Nat) (e : Sx), es[i]? = some e → badK e = false := fun i e he => HOK.out i e (by have := (List.getElem?_eq_some_iff.1 he).1; have h2 := HN.out; have h3 := HE.out; omega) he
      have HYS := Lib.hid (HYES.out hall)
      have hsx := hxo.reads
      rw [hps, HE.out] at hsx
      have HPP := Lib.hid (partStack_any _ _ wr hsx (HGF.out hall))
      have HLEN := Lib.hid (HFL.out n (Nat.le_refl _))
      have HBE := Lib.hid hxo.bel
      clear hps hxo hrr hsx hall
      go_wp2_with (go_at_call 23; refine HPP.out.mono ?_; rintro e w1 ⟨x2, x3, x4, rfl, hr3⟩; have HR3 := Lib.hid hr3; clear hr3)
      go_returns
      exact ⟨step_after HBE.out HR3.out.bel, (fun _ => ⟨x2, x3, x4, rfl, fin_ints HLEN.out (HRX.out n (Nat.le_refl _)) HN.out HR3.out⟩), fun h => by rw [HYS.out] at h; cases h⟩
end Go.Proofs.Ytincgkolpicipaa.stack

/- FnStack: spec.Stacked by contract. -/
import Derived.Test.YtincgkolpicipaaStk4
import Derived.Deep.DeepCutAuto
import Derived.Deep.RegionHeld3
import Derived.Deep.RegionLaw
import Derived.Deep.CutBlock
import Derived.Outline
namespace Go.Proofs.Ytincgkolpicipaa.stack
open Go.RowKit
structure SpRel (w : World) (es : List Sx) (k : Nat) (v2 v3 v4 v5 : Value) (wr : World) : Prop where
  r3 : R3 w.heap.size w v2 v3 v4 (rn es k).f (rn es k).n (rn es k).c wr
  fr : ∃ ps, ps.map (·.2) = (rn es k).st ∧ FrO w wr w.heap.size v5 ps
theorem Try.info55 : (Try.prog.info? 55).map (fun i => (i.zero, i.size, i.bytes)) = some (some (.agg #[.int .i64 0, .slice none 0 0, .bool false, .bool false]), 4, 40) := by kernel_rfl
theorem Try.info3 : (Try.prog.info? 3).map (fun i => (i.zero, i.size, i.bytes)) = some (some (.int .i64 0), 1, 8) := by kernel_rfl
theorem fr_app {B : Nat} {w W W' : World} {v2 v3 v4 v5 nv : Value} {xs ys zs : List Int} {ps : List (Value × Fr)} {f : Fr} {g cap : Nat} (hB : B ≤ W.heap.size) (hr : R3 B w v2 v3 v4 xs ys zs W) (hf : FrO w W B v5 ps) (hs : Strs w nv f.names)
    (ho : W'.ownsRow B 55 4 (.slice (some ⟨g, 0, none⟩) (ps.length + 1) cap) (ps.length + 1) (rowF ps ++ [.int .i64 f.step, nv, .bool f.call, .bool f.trim])) (hg : W.grownBy W' v5.ownBlock) :
    FrO w W' B (.slice (some ⟨g, 0, none⟩) (ps.length + 1) cap) (ps ++ [(nv, f)]) ∧ R3 B w v2 v3 v4 xs ys zs W' := by
  have hx : Chg (fun k => v5.ownBlock = some k) W W' := (Chg.refl _ _).grown hg fun k hk _ => hk
  refine ⟨⟨by rw [rowF_snoc]; simpa using ho, fun p hp => ?_⟩, hr.chg hx hB (fun k hk => (hf.1.lt k hk).1) (fun k hk hX => ?_) (fun k hk hX => ?_) (fun k hk hX => ?_)⟩
  · rcases List.mem_append.1 hp with hp | hp
    · exact hf.2 p hp
    · obtain rfl := List.mem_singleton.1 hp
      exact hs
  · exact Dj.types hr.o2 hf.1 (by decide) k hk hX
  · exact Dj.types hr.o3 hf.1 (by decide) k hk hX
  · exact Dj.types hr.o4 hf.1 (by decide) k hk hX
theorem oneF (z : Int) (A : Option Addr) (n c : Nat) (x y : Bool) : ∀ u ∈ [Value.int .i64 z, .slice A n c, .bool x, .bool y], u.oneCell' = true := fun u hu => by
  simp only [List.mem_cons, List.mem_nil_iff, or_false] at hu
  rcases hu with rfl | rfl | rfl | rfl <;> rfl
theorem fr_far {B : Nat} {w W W' : World} {v5 u : Value} {n : Nat} {xs : List Value} {ps : List (Value × Fr)} (hf : FrO w W B v5 ps) (hu : W.ownsRow B 3 1 u n xs) (hg : W.grownBy W' u.ownBlock) : FrO w W' B v5 ps :=
  hf.chg ((Chg.refl (fun k => u.ownBlock = some k) _).grown hg fun k hk _ => hk) fun k hk hX => Dj.types hf.1 hu (by decide) k hk hX
theorem oneI (z : Int) : ∀ u ∈ [Value.int .i64 z], u.oneCell' = true := fun u hu => by
  obtain rfl := List.mem_singleton.1 hu
  rfl
/-- What the switch leaves. -/
structure SwRel (w : World) (xs ys zs : List Int) (st : List Fr) (a : Int) (v2 v3 v4 v5 s7 : Value) (wr : World) : Prop where
  r3 : R3 w.heap.size w v2 v3 v4 xs ys zs wr
  fr : ∃ ps, ps.map (·.2) = st ∧ FrO w wr w.heap.size v5 ps
  an : s7 = .int .i64 a
set_option maxRecDepth 100000 in
set_option maxHeartbeats 40000000 in
theorem stacked_any (v : Value) (es : List Sx) (w : World) (h : Sxs w v es) (hl : es.length ≤ 200) (hrg : ∀ (i : Nat) (e : Sx), es[i]? = some e → e.k = 3 → 1 ≤ e.num) :
    Calls Try.prog 9 #[v] w fun e w' => ∃ v2 v3 v4, e = .returned (.tuple #[v2, v3, v4]) ∧ R3 w.heap.size w v2 v3 v4 (rn es es.length).f (rn es es.length).n (rn es es.length).c w' := by
  obtain ⟨A, cap, rfl, _, hc⟩ := h
  have HC := Lib.hid hc
  have HL := Lib.hid (rn_len es)
  have HRG := Lib.hid hrg
  clear hc hrg
  generalize hn : es.length = n at *
  have HN := Lib.hid hn
  clear hn
  go_enter Try.func9, Try.ntmps9
  go_wp2
  go_loopw [2, 3, 4, 5, 6, 7, 8, 9] (fun v2 v3 v4 v5 i _ _ _ wr => ∃ k : Nat, k ≤ n ∧ i = .int .i64 k ∧ SpRel w es k v2 v3 v4 v5 wr) (fun _ _ _ _ i _ _ _ _ => n - (intOf i).toNat)
  case atStart => exact ⟨0, Nat.zero_le _, rfl, ⟨IntsO.none_, IntsO.none_, IntsO.none_, Dj.none_left, Dj.none_left, Dj.none_left, Below.refl _ _⟩, [], rfl, FrO.none_⟩
  case round =>
    obtain ⟨k, hk, rfl, hr3, ps, hps, hfo⟩ := hrel
    obtain ⟨A5, cap5, hv5, hcap5, -, -⟩ := owns_form hfo.1
    subst hv5
    by_cases hlt : k < n
    · obtain ⟨s, hs⟩ : ∃ s, es[k]? = some s := ⟨_, List.getElem?_eq_getElem (by have := HN.out; omega)⟩
      obtain ⟨q, o, rfl, hel⟩ := HC.out k s hs
      obtain ⟨c0, c2, c3, c4, hnz, nv, c1, hst⟩ := hel
      obtain ⟨A2, cap2, rfl⟩ := hst.form
      have hki : (k : Int) < (n : Int) := by omega
      have S1 := Lib.hid (show ∀ w', Below w.heap.size w w' → (w'.cell? ⟨q, o + k * 5, none⟩ = some (.int .i64 s.k) ∧ w'.cell? ⟨q, o + k * 5 + 1, none⟩ = some (.slice A2 s.names.length cap2) ∧ w'.cell? ⟨q, o + k * 5 + 2, none⟩ = some (.string s.name) ∧ w'.cell? ⟨q, o + k * 5 + 3, none⟩ = some (.int .i64 s.num) ∧ w'.cell? ⟨q, o + k * 5 + 4, none⟩ = some (.bool s.trim)) ∧ Below w.heap.size w w' from fun w' hb => ⟨⟨cell_later hb c0, cell_later hb c1, cell_later hb c2, cell_later hb c3, cell_later hb c4⟩, hb⟩)
      obtain ⟨⟨c0, c1, c2, c3, c4⟩, -⟩ := S1.out wr hr3.bel
      have HST := Lib.hid hst
      have HR3 := Lib.hid hr3
      have HFO := Lib.hid hfo
      have HPS := Lib.hid hps
      have HSS := Lib.hid hs
      have HLK := Lib.hid (HL.out k (by omega))
      have hpl : ps.length ≤ 200 := by have h1 := congrArg List.length hps; have h2 := HLK.out.1; simp at h1; omega
      have HFR := Lib.hid (show Frs wr (.slice A5 ps.length cap5) (rn es k).st from by have := hfo.reads hr3.bel (by omega); rw [hps] at this; exact this)
      clear hst hnz hs hr3 hfo hps
      go_upto_block 2 with fail
      go_cut [5, 7, 8, 9] (fun v5 s7 _ _ wx => SwRel w (rn es k).f (rn es k).n (rn es k).c (stepS (rn es k).st k s) (ansS (rn es k).st s) u2 u3 u4 v5 s7 wx)
      case first =>
        by_cases k1 : s.k = 1
        · have hs1 : (s.k == 1) = true := by rw [k1]; rfl
          have HSTP := Lib.hid (show stepS (rn es k).st k s = (rn es k).st ++ [⟨k, s.names, true, s.trim⟩] by unfold stepS; rw [if_pos k1])
          have HANS := Lib.hid (show ansS (rn es k).st s = -1 by unfold ansS; rw [if_neg (by omega)])
          clear k1
          obtain ⟨i0, hi, hz0, hz1, hz2⟩ := info_parts Try.info55
          have HI : Hid (Try.prog.info? 55 = some i0 ∧ i0.zero = some (.agg #[.int .i64 0, .slice none 0 0, .bool false, .bool false]) ∧ i0.size = 4 ∧ i0.bytes = 40) := ⟨hi, hz0, hz1, hz2⟩
          clear hi hz0 hz1 hz2
          have HAP := Lib.hid (fun W g cp W' h1 (hb : Below wr.heap.size wr W) h3 h4 => fr_app (W := W) (W' := W') (g := g) (cap := cp) (f := ⟨k, s.names, true, s.trim⟩) h1 (HR3.out.later HR3.out.bel.size hb) (HFO.out.chg (Chg.below (X := fun _ => False) hb) fun _ _ h => h) HST.out h3 h4)
          have HOW := Lib.hid (fun W (hb : Below wr.heap.size wr W) => (HFO.out.chg (Chg.below (X := fun _ => False) hb) fun _ _ h => h).1)
          go_wp2_with fail
          go_region_held3 (fun w' => (w'.cell? ⟨q, o + k * 5, none⟩ = some (.int .i64 s.k) ∧ w'.cell? ⟨q, o + k * 5 + 1, none⟩ = some (.slice A2 s.names.length cap2) ∧ w'.cell? ⟨q, o + k * 5 + 2, none⟩ = some (.string s.name) ∧ w'.cell? ⟨q, o + k * 5 + 3, none⟩ = some (.int .i64 s.num) ∧ w'.cell? ⟨q, o + k * 5 + 4, none⟩ = some (.bool s.trim)) ∧ Below w.heap.size w w')
            (first | (with_reducible exact S1.out _ (HR3.out.bel.drew)) | (with_reducible exact S1.out _ ((HR3.out.bel.drew).alloc HR3.out.bel.size _)) | (with_reducible exact S1.out _ ((HR3.out.bel.alloc HR3.out.bel.size _).drew)) | (with_reducible exact S1.out _ hbz))
            (first
              | (refine step_append_lies _ rfl (.tmp 30) (.tmp 47) 53 rfl w.heap.size 55 i0 _ 4 40 Try.underlying53 HI.out.1 HI.out.2.1 HI.out.2.2.1 HI.out.2.2.2 rfl (by decide) _ ps.length (rowF ps) rfl (HOW.out _ ((Below.refl _ _).alloc (Nat.le_refl _) _).drew) ⟨wr.heap.size, 0, none⟩ 1 1 [.int .i64 k, .slice A2 s.names.length cap2, .bool true, .bool s.trim] rfl rfl (World.news_of_block (heap_alloc_new wr _)) (oneF _ _ _ _ _ _) (by decide) (by rw [maxLen_eq]; omega) (by omega) ((HR3.out.bel.alloc HR3.out.bel.size _).drew).size _ rfl ?_
                 intro g cp w2 hown2 hg2 hat2 hlt2
                 have hfin := HAP.out _ g cp w2 ((HR3.out.bel.alloc HR3.out.bel.size _).drew).size ((Below.refl _ _).alloc (Nat.le_refl _) _).drew hown2 hg2
                 have hbz := hfin.2.bel))
          all_goals
            go_wp2_with fail
            go_meet
            exact ⟨hfin.2, ⟨_, by rw [HSTP.out, List.map_append, HPS.out]; rfl, hfin.1⟩, by rw [HANS.out]⟩
        · by_cases k2 : s.k = 2
          · have hs1 : (s.k == 1) = false := by simpa using k1
            have hs2 : (s.k == 2) = true := by rw [k2]; rfl
            have HSTP := Lib.hid (show stepS (rn es k).st k s = (rn es k).st ++ [⟨k, s.names, false, false⟩] by unfold stepS; rw [if_neg k1, if_pos k2])
            have HANS := Lib.hid (show ansS (rn es k).st s = -1 by unfold ansS; rw [if_neg (by omega)])
            clear k1 k2
            obtain ⟨i0, hi, hz0, hz1, hz2⟩ := info_parts Try.info55
            have HI : Hid (Try.prog.info? 55 = some i0 ∧ i0.zero = some (.agg #[.int .i64 0, .slice none 0 0, .bool false, .bool false]) ∧ i0.size = 4 ∧ i0.bytes = 40) := ⟨hi, hz0, hz1, hz2⟩
            clear hi hz0 hz1 hz2
            have HAP := Lib.hid (fun W g cp W' h1 (hb : Below wr.heap.size wr W) h3 h4 => fr_app (W := W) (W' := W') (g := g) (cap := cp) (f := ⟨k, s.names, false, false⟩) h1 (HR3.out.later HR3.out.bel.size hb) (HFO.out.chg (Chg.below (X := fun _ => False) hb) fun _ _ h => h) HST.out h3 h4)
            have HOW := Lib.hid (fun W (hb : Below wr.heap.size wr W) => (HFO.out.chg (Chg.below (X := fun _ => False) hb) fun _ _ h => h).1)
            go_wp2_with fail
            refine wp_region_held_drew (S := fun w' => (w'.cell? ⟨q, o + k * 5, none⟩ = some (.int .i64 s.k) ∧ w'.cell? ⟨q, o + k * 5 + 1, none⟩ = some (.slice A2 s.names.length cap2) ∧ w'.cell? ⟨q, o + k * 5 + 2, none⟩ = some (.string s.name) ∧ w'.cell? ⟨q, o + k * 5 + 3, none⟩ = some (.int .i64 s.num) ∧ w'.cell? ⟨q, o + k * 5 + 4, none⟩ = some (.bool s.trim)) ∧ Below w.heap.size w w') (by kernel_rfl) (S1.out _ HR3.out.bel.drew) (fun hHeld => ?_)
            refine wpAnyH_take (i := 0) (oi := _) (v := ?v0) rfl (by kernel_rfl) (by kernel_rfl) (by kernel_rfl) (fun _ _ _ h => h) (Or.inl ⟨by rfl, ?hy0⟩) (by assumption) ?rest0
            case hy0 => (intro w' hSw; (try dsimp only at hSw); go_simp; (try with_reducible rfl))
            try simp only [List.getElem_toArray, List.getElem_cons_zero, Act.put, List.setIfInBounds_toArray, List.set_cons_zero, List.set_cons_succ]
            refine wpAnyH_take (i := 1) (oi := _) (v := ?v1) rfl (by kernel_rfl) (by kernel_rfl) (by kernel_rfl) (fun _ _ _ h => h) (Or.inl ⟨by rfl, ?hy1⟩) (by assumption) ?rest1
            case hy1 => (intro w' hSw; (try dsimp only at hSw); go_simp; (try with_reducible rfl))
            try simp only [List.getElem_toArray, List.getElem_cons_zero, List.getElem_cons_succ, Act.put, List.setIfInBounds_toArray, List.set_cons_zero, List.set_cons_succ]
            refine wpAnyH_take (i := 2) (oi := _) (v := ?v2) rfl (by kernel_rfl) (by kernel_rfl) (by kernel_rfl) (fun _ _ _ h => h) (Or.inl ⟨by rfl, ?hy2⟩) (by assumption) ?rest2
            case hy2 => (intro w' hSw; (try dsimp only at hSw); go_simp; (try with_reducible rfl))
            try simp only [List.getElem_toArray, List.getElem_cons_zero, List.getElem_cons_succ, Act.put, List.setIfInBounds_toArray, List.set_cons_zero, List.set_cons_succ]
            refine wpAnyH_take (i := 3) (oi := _) (v := ?v3) rfl (by kernel_rfl) (by kernel_rfl) (by kernel_rfl) (fun _ _ _ h => h) (Or.inl ⟨by rfl, ?hy3⟩) (by assumption) ?rest3
            case hy3 => (intro w' hSw; (try dsimp only at hSw); go_simp; (try with_reducible rfl))
            try simp only [List.getElem_toArray, List.getElem_cons_zero, List.getElem_cons_succ, Act.put, List.setIfInBounds_toArray, List.set_cons_zero, List.set_cons_succ]
            refine wpAnyH_take (i := 4) (oi := _) (v := ?v4) rfl (by kernel_rfl) (by kernel_rfl) (by kernel_rfl) (fun _ _ _ h => h) (Or.inl ⟨by rfl, ?hy4⟩) (by assumption) ?rest4
            case hy4 => (intro w' hSw; (try dsimp only at hSw); go_simp; (try with_reducible rfl))
            try simp only [List.getElem_toArray, List.getElem_cons_zero, List.getElem_cons_succ, Act.put, List.setIfInBounds_toArray, List.set_cons_zero, List.set_cons_succ]
            refine wpAnyH_take (i := 5) (oi := _) (v := ?v5) rfl (by kernel_rfl) (by kernel_rfl) (by kernel_rfl) (fun _ _ _ h => h) (Or.inl ⟨by rfl, ?hy5⟩) (by assumption) ?rest5
            case hy5 => (intro w' hSw; (try dsimp only at hSw); go_simp; (try with_reducible rfl))
            try simp only [List.getElem_toArray, List.getElem_cons_zero, List.getElem_cons_succ, Act.put, List.setIfInBounds_toArray, List.set_cons_zero, List.set_cons_succ]
            refine wpAnyH_take (i := 6) (oi := _) (v := ?v6) rfl (by kernel_rfl) (by kernel_rfl) (by kernel_rfl) (fun _ _ _ h => h) (Or.inl ⟨by rfl, ?hy6⟩) (by assumption) ?rest6
            case hy6 => (intro w' hSw; (try dsimp only at hSw); go_simp; (try with_reducible rfl))
            try simp only [List.getElem_toArray, List.getElem_cons_zero, List.getElem_cons_succ, Act.put, List.setIfInBounds_toArray, List.set_cons_zero, List.set_cons_succ]
            refine wpAnyH_take (i := 7) (oi := _) (v := ?v7) rfl (by kernel_rfl) (by kernel_rfl) (by kernel_rfl) (fun _ _ _ h => h) (Or.inl ⟨by rfl, ?hy7⟩) (by assumption) ?rest7
            case hy7 => (intro w' hSw; (try dsimp only at hSw); go_simp; (try with_reducible rfl))
            try simp only [List.getElem_toArray, List.getElem_cons_zero, List.getElem_cons_succ, Act.put, List.setIfInBounds_toArray, List.set_cons_zero, List.set_cons_succ]
            refine wpAnyH_take (i := 8) (oi := _) (v := ?v8) rfl (by kernel_rfl) (by kernel_rfl) (by kernel_rfl) (fun _ _ _ h => h) (Or.inl ⟨by rfl, ?hy8⟩) (by assumption) ?rest8
            case hy8 => (intro w' hSw; (try dsimp only at hSw); go_simp; (try with_reducible rfl))
            try simp only [List.getElem_toArray, List.getElem_cons_zero, List.getElem_cons_succ, Act.put, List.setIfInBounds_toArray, List.set_cons_zero, List.set_cons_succ]
            refine wpAnyH_take (i := 9) (oi := _) (v := ?v9) rfl (by kernel_rfl) (by kernel_rfl) (by kernel_rfl) (fun _ _ _ h => h) (Or.inl ⟨by rfl, ?hy9⟩) (by assumption) ?rest9
            case hy9 => (intro w' hSw; (try dsimp only at hSw); go_simp; (try with_reducible rfl))
            try simp only [List.getElem_toArray, List.getElem_cons_zero, List.getElem_cons_succ, Act.put, List.setIfInBounds_toArray, List.set_cons_zero, List.set_cons_succ]
            refine wpAnyH_take (i := 10) (oi := _) (v := undef) rfl (by kernel_rfl) (by kernel_rfl) (by kernel_rfl) (fun _ _ _ h => h) (Or.inr ⟨by rfl, rfl⟩) (by assumption) ?restb0
            try simp only [List.getElem_toArray, List.getElem_cons_zero, List.getElem_cons_succ, Act.put, List.setIfInBounds_toArray, List.set_cons_zero, List.set_cons_succ]
            refine wpAnyH_take (i := 11) (oi := _) (v := undef) rfl (by kernel_rfl) (by kernel_rfl) (by kernel_rfl) (fun _ _ _ h => h) (Or.inr ⟨by rfl, rfl⟩) (by assumption) ?restb1
            try simp only [List.getElem_toArray, List.getElem_cons_zero, List.getElem_cons_succ, Act.put, List.setIfInBounds_toArray, List.set_cons_zero, List.set_cons_succ]
            refine wpAnyH_take (i := 12) (oi := _) (v := undef) rfl (by kernel_rfl) (by kernel_rfl) (by kernel_rfl) (fun _ _ _ h => h) (Or.inr ⟨by rfl, rfl⟩) (by assumption) ?restb2
            try simp only [List.getElem_toArray, List.getElem_cons_zero, List.getElem_cons_succ, Act.put, List.setIfInBounds_toArray, List.set_cons_zero, List.set_cons_succ]
            refine wpAnyH_take (i := 13) (oi := _) (v := undef) rfl (by kernel_rfl) (by kernel_rfl) (by kernel_rfl) (fun _ _ _ h => h) (Or.inr ⟨by rfl, rfl⟩) (by assumption) ?restb3
            try simp only [List.getElem_toArray, List.getElem_cons_zero, List.getElem_cons_succ, Act.put, List.setIfInBounds_toArray, List.set_cons_zero, List.set_cons_succ]
            refine wpAnyH_take (i := 14) (oi := _) (v := undef) rfl (by kernel_rfl) (by kernel_rfl) (by kernel_rfl) (fun _ _ _ h => h) (Or.inr ⟨by rfl, rfl⟩) (by assumption) ?restb4
            try simp only [List.getElem_toArray, List.getElem_cons_zero, List.getElem_cons_succ, Act.put, List.setIfInBounds_toArray, List.set_cons_zero, List.set_cons_succ]
            refine wpAnyH_take (i := 15) (oi := _) (v := ?v10) rfl (by kernel_rfl) (by kernel_rfl) (by kernel_rfl) (fun _ _ _ h => h) (Or.inl ⟨by rfl, ?hy10⟩) (by assumption) ?rest10
            case hy10 => (intro w' hSw; (try dsimp only at hSw); go_simp; (try with_reducible rfl))
            try simp only [List.getElem_toArray, List.getElem_cons_zero, List.getElem_cons_succ, Act.put, List.setIfInBounds_toArray, List.set_cons_zero, List.set_cons_succ]
            refine wpAnyH_take (i := 16) (oi := _) (v := ?v11) rfl (by kernel_rfl) (by kernel_rfl) (by kernel_rfl) (fun _ _ _ h => h) (Or.inl ⟨by rfl, ?hy11⟩) (by assumption) ?rest11
            case hy11 => (intro w' hSw; (try dsimp only at hSw); go_simp; (try with_reducible rfl))
            try simp only [List.getElem_toArray, List.getElem_cons_zero, List.getElem_cons_succ, Act.put, List.setIfInBounds_toArray, List.set_cons_zero, List.set_cons_succ]
            refine wpAnyH_ready (rs := [17]) (by kernel_rfl) (by simp) ?_
            refine AllReadyH.cons (o := _) rfl (fun K hK => ?_) AllReadyH.nil
            try simp only [List.getElem_toArray, List.getElem_cons_zero, List.getElem_cons_succ, Act.put, List.setIfInBounds_toArray, List.set_cons_zero, List.set_cons_succ]
            go_simp
            refine hK.out _ _ (S1.out _ ((HR3.out.bel.drew).alloc HR3.out.bel.size _)) (fun hHeld2 => ?_)
            clear hK K
            try simp only [List.getElem_toArray, List.getElem_cons_zero, List.getElem_cons_succ, Act.put, List.setIfInBounds_toArray, List.set_cons_zero, List.set_cons_succ]
            refine wpAnyH_ready (rs := [18]) (by kernel_rfl) (by simp) ?_
            refine AllReadyH.cons (o := _) rfl (fun K hK => ?_) AllReadyH.nil
            refine step_append_lies _ rfl (.tmp 30) (.tmp 47) 53 rfl w.heap.size 55 i0 _ 4 40 Try.underlying53 HI.out.1 HI.out.2.1 HI.out.2.2.1 HI.out.2.2.2 rfl (by decide) _ ps.length (rowF ps) rfl (HOW.out _ ((Below.refl _ _).alloc (Nat.le_refl _) _).drew) ⟨wr.heap.size, 0, none⟩ 1 1 [.int .i64 k, .slice A2 s.names.length cap2, .bool false, .bool false] rfl rfl (World.news_of_block (heap_alloc_new wr _)) (oneF _ _ _ _ _ _) (by decide) (by rw [maxLen_eq]; omega) (by omega) ((HR3.out.bel.alloc HR3.out.bel.size _).drew).size _ rfl ?_
            intro g cp w2 hown2 hg2 hat2 hlt2
            have hfin := HAP.out _ g cp w2 ((HR3.out.bel.alloc HR3.out.bel.size _).drew).size ((Below.refl _ _).alloc (Nat.le_refl _) _).drew hown2 hg2
            refine hK.out _ _ (S1.out _ hfin.2.bel) (fun hHeld3 => ?_)
            clear hK K
            try simp only [List.getElem_toArray, List.getElem_cons_zero, List.getElem_cons_succ, Act.put, List.setIfInBounds_toArray, List.set_cons_zero, List.set_cons_succ]
            refine wpAnyH_take (i := 19) (oi := _) (v := ?v19) rfl (by kernel_rfl) (by kernel_rfl) (by kernel_rfl) (fun _ _ _ h => h) (Or.inl ⟨by rfl, ?hy19⟩) (by assumption) ?rest19
            case hy19 => (intro w' hSw; (try dsimp only at hSw); go_simp; (try with_reducible rfl))
            try simp only [List.getElem_toArray, List.getElem_cons_zero, List.getElem_cons_succ, Act.put, List.setIfInBounds_toArray, List.set_cons_zero, List.set_cons_succ]
            refine wpAnyH_done (by kernel_rfl) ?_ _
            go_wp2_with fail
            go_meet
            exact ⟨hfin.2, ⟨_, by rw [HSTP.out, List.map_append, HPS.out]; rfl, hfin.1⟩, by rw [HANS.out]⟩
          · have hs1 : (s.k == 1) = false := by simpa using k1
            have hs2 : (s.k == 2) = false := by simpa using k2
            by_cases k3 : s.k = 3
            · have hs3 : (s.k == 3) = true := by rw [k3]; rfl
              have HANS := Lib.hid (show ansS (rn es k).st s = -1 by unfold ansS; rw [if_neg (by omega)])
              have HNUM := Lib.hid (HRG.out k s HSS.out k3)
              have HLS := Lib.hid (show (rn es k).st.length = ps.length by rw [← HPS.out]; simp)
              by_cases hnum : (ps.length : Int) = s.num
              · have HSTP := Lib.hid (show stepS (rn es k).st k s = (rn es k).st.dropLast by unfold stepS; rw [if_neg k1, if_neg k2, if_pos k3, if_pos (by rw [HLS.out]; exact hnum)])
                have hnb : ((ps.length : Int) == s.num) = true := by simpa using hnum
                have hp1 : 0 < ps.length := by have := HNUM.out; omega
                have hcp : 0 < cap5 := by omega
                clear k1 k2 k3 hnum
                go_wp2_with fail
                all_goals
                  go_meet
                  exact ⟨HR3.out, ⟨ps.take (ps.length - 1), by rw [HSTP.out, List.dropLast_eq_take, HLS.out, ← HPS.out, List.map_take], FrO.take HFO.out rfl (by omega)⟩, by rw [HANS.out]⟩
              · have HSTP := Lib.hid (show stepS (rn es k).st k s = (rn es k).st by unfold stepS; rw [if_neg k1, if_neg k2, if_pos k3, if_neg (by rw [HLS.out]; exact hnum)])
                have hnb : ((ps.length : Int) == s.num) = false := by simpa using hnum
                clear k1 k2 k3 hnum
                go_wp2_with fail
                go_meet
                exact ⟨HR3.out, ⟨ps, by rw [HSTP.out]; exact HPS.out, HFO.out⟩, by rw [HANS.out]⟩
            · have hs3 : (s.k == 3) = false := by simpa using k3
              by_cases k4 : s.k = 4
              · have hs4 : (s.k == 4) = true := by rw [k4]; rfl
                have HANS := Lib.hid (show ansS (rn es k).st s = -1 by unfold ansS; rw [if_neg (by omega)])
                have HSTP : stepS (rn es k).st k s = if 0 ≤ topTo (rn es k).st (rn es k).st.length ∧ trimAt (rn es k).st (topTo (rn es k).st (rn es k).st.length) = true then (rn es k).st.take (topTo (rn es k).st (rn es k).st.length).toNat else (rn es k).st := by unfold stepS; rw [if_neg k1, if_neg k2, if_neg k3, if_pos k4]
                have HTOP := top_any _ _ wr HFR.out
                have htl := (topTo_lt (rn es k).st (rn es k).st.length)
                have hls : (rn es k).st.length = ps.length := by rw [← HPS.out]; simp
                by_cases hz : 0 ≤ topTo (rn es k).st (rn es k).st.length
                · obtain ⟨m, hm⟩ : ∃ m : Nat, topTo (rn es k).st (rn es k).st.length = m := ⟨_, (Int.toNat_of_nonneg hz).symm⟩
                  rw [hm] at HTOP HSTP htl hz
                  have hmp : m < ps.length := by omega
                  have hmi : (m : Int) < (ps.length : Int) := by omega
                  obtain ⟨p, hp⟩ : ∃ p, ps[m]? = some p := ⟨_, List.getElem?_eq_getElem hmp⟩
                  have hf : (rn es k).st[m]? = some p.2 := by rw [← HPS.out, List.getElem?_map, hp]; rfl
                  have htr : trimAt (rn es k).st (m : Int) = p.2.trim := by unfold trimAt; rw [Int.toNat_natCast, hf]
                  rw [htr] at HSTP
                  have hcell : ∃ g o', A5 = some ⟨g, o', none⟩ ∧ wr.cell? ⟨g, o' + m * 4 + 3, none⟩ = some (.bool p.2.trim) := by
                    obtain ⟨A', c', hv', -, hcells⟩ := HFR.out
                    obtain ⟨g, o', nv', h1, d0, d1, d2, d3, -⟩ := hcells m p.2 hf
                    injection hv' with hA hlen hcc
                    exact ⟨g, o', hA.trans h1, d3⟩
                  clear hf htr hp
                  generalize p.2.trim = tb at *
                  obtain ⟨g, o', rfl, d3⟩ := hcell
                  have HSTQ := Lib.hid HSTP
                  have HTOQ := Lib.hid HTOP
                  have hmc : m ≤ cap5 := by omega
                  clear k1 k2 k3 k4 hls htl hz hm HSTP HTOP hmp
                  cases tb
                  · go_wp2_with (go_at_call 24; refine HTOQ.out.mono ?_; rintro e w' ⟨rfl, rfl⟩)
                    all_goals
                      go_meet
                      exact ⟨HR3.out, ⟨ps, by rw [HSTQ.out, if_neg (by simp)]; exact HPS.out, HFO.out⟩, by rw [HANS.out]⟩
                  · go_wp2_with (go_at_call 24; refine HTOQ.out.mono ?_; rintro e w' ⟨rfl, rfl⟩)
                    all_goals
                      go_meet
                      exact ⟨HR3.out, ⟨ps.take m, by rw [HSTQ.out, if_pos ⟨by omega, trivial⟩, Int.toNat_natCast, List.map_take, HPS.out], FrO.take HFO.out rfl (by omega)⟩, by rw [HANS.out]⟩
                · have hm : topTo (rn es k).st (rn es k).st.length = -1 := by omega
                  rw [if_neg (fun h => hz h.1)] at HSTP
                  clear hm
                  generalize hzz : topTo (rn es k).st (rn es k).st.length = z at *
                  have hd1 : decide ((0 : Int) ≤ z) = false := by simpa using hz
                  have HSTQ := Lib.hid HSTP
                  have HTOQ := Lib.hid HTOP
                  clear k1 k2 k3 k4 hls htl hz hzz HSTP HTOP
                  go_wp2_with (go_at_call 24; refine HTOQ.out.mono ?_; rintro e w' ⟨rfl, rfl⟩)
                  all_goals
                    go_meet
                    exact ⟨HR3.out, ⟨ps, by rw [HSTQ.out]; exact HPS.out, HFO.out⟩, by rw [HANS.out]⟩
              · have hs4 : (s.k == 4) = false := by simpa using k4
                have HSTP := Lib.hid (show stepS (rn es k).st k s = (rn es k).st by unfold stepS; rw [if_neg k1, if_neg k2, if_neg k3, if_neg k4])
                by_cases k5 : s.k = 5
                · have hs5 : (s.k == 5) = true := by rw [k5]; rfl
                  have HANS := Lib.hid (show ansS (rn es k).st s = lookTo (rn es k).st s.name (rn es k).st.length by unfold ansS; rw [if_pos k5])
                  have HLU := Lib.hid (look_any _ _ s.name wr HFR.out)
                  clear k1 k2 k3 k4 k5
                  go_wp2_with (go_at_call 25; refine HLU.out.mono ?_; rintro e w' ⟨rfl, rfl⟩)
                  go_meet
                  exact ⟨HR3.out, ⟨ps, by rw [HSTP.out]; exact HPS.out, HFO.out⟩, by rw [HANS.out]⟩
                · have hs5 : (s.k == 5) = false := by simpa using k5
                  have HANS := Lib.hid (show ansS (rn es k).st s = -1 by unfold ansS; rw [if_neg k5])
                  clear k1 k2 k3 k4 k5
                  go_wp2_with fail
                  go_meet
                  exact ⟨HR3.out, ⟨ps, by rw [HSTP.out]; exact HPS.out, HFO.out⟩, by rw [HANS.out]⟩
      case rest =>
        obtain ⟨hr4, ⟨qs, hqs, hfq⟩, rfl⟩ := hcut
        obtain ⟨A6, cap6, hv6, -, -, -⟩ := owns_form hfq.1
        subst hv6
        have HQS := Lib.hid hqs
        have HR4 := Lib.hid hr4
        have HFQ := Lib.hid hfq
        have HRN := Lib.hid (rn_succ HSS.out)
        have hql : qs.length ≤ 201 := by have h1 := congrArg List.length hqs; have h2 := stepS_len (rn es k).st k s; have h3 := HLK.out.1; simp at h1; omega
        have hql2 : (stepS (rn es k).st k s).length = qs.length := by rw [← hqs]; simp
        have HQL := Lib.hid hql2
        obtain ⟨i3, hi, hz0, hz1, hz2⟩ := info_parts Try.info3
        have HI : Hid (Try.prog.info? 3 = some i3 ∧ i3.zero = some (.int .i64 0) ∧ i3.size = 1 ∧ i3.bytes = 8) := ⟨hi, hz0, hz1, hz2⟩
        have HRL := Lib.hid (fun (W : World) (v2 v3 v4 : Value) (xs ys zs : List Int) (h : R3 w.heap.size w v2 v3 v4 xs ys zs W) (o : Obj) => h.later h.bel.size ((Below.refl _ _).alloc (Nat.le_refl _) o))
        have HFL := Lib.hid (fun (W : World) (h : FrO w W w.heap.size (.slice A6 qs.length cap6) qs) (o : Obj) => h.chg (Chg.below (X := fun _ => False) ((Below.refl _ _).alloc (Nat.le_refl _) o)) fun _ _ h => h)
        have HCA := Lib.hid (fun (W : World) (hb : Below w.heap.size w W) (h : FrO w W w.heap.size (.slice A6 qs.length cap6) qs) => (calls_any _ _ W (by have := h.reads hb (by omega); exact this)))
        rw [HQS.out, HQL.out] at HCA
        clear hqs hr4 hfq hi hz0 hz1 hz2 hql2
        go_wp2_with (first
          | (at_builtin; refine wpList_append_lies _ rfl (.tmp 89) (.tmp 91) 24 rfl w.heap.size 3 i3 _ 1 8 Try.underlying24 HI.out.1 HI.out.2.1 HI.out.2.2.1 HI.out.2.2.2 rfl (by decide) u2 (rn es k).f.length ((rn es k).f.map (Value.int .i64)) rfl (HRL.out _ _ _ _ _ _ _ HR4.out _).o2 ⟨wc.heap.size, 0, none⟩ 1 1 [.int .i64 (ansS (rn es k).st s)] rfl rfl (World.news_of_block (heap_alloc_new wc _)) (oneI _) (by decide) (by rw [maxLen_eq, HLK.out.2.1]; omega) (by rw [HLK.out.2.1]; omega) (HRL.out _ _ _ _ _ _ _ HR4.out _).bel.size _ rfl ?_; intro g1 cp1 w1 ho1 hg1 hat1 hl1; have hf1 := Lib.hid (fr_far (HFL.out _ HFQ.out _) (HRL.out _ _ _ _ _ _ _ HR4.out _).o2 hg1); have hr1 := Lib.hid ((HRL.out _ _ _ _ _ _ _ HR4.out _).app2 (HRL.out _ _ _ _ _ _ _ HR4.out _).bel.size ho1 hg1 hat1); clear ho1 hg1 hat1 hl1)
          | (at_builtin; refine wpList_append_lies _ rfl (.tmp 93) (.tmp 96) 24 rfl w.heap.size 3 i3 _ 1 8 Try.underlying24 HI.out.1 HI.out.2.1 HI.out.2.2.1 HI.out.2.2.2 rfl (by decide) u3 (rn es k).n.length ((rn es k).n.map (Value.int .i64)) rfl (HRL.out _ _ _ _ _ _ _ hr1.out _).o3 ⟨w1.heap.size, 0, none⟩ 1 1 [.int .i64 qs.length] rfl rfl (World.news_of_block (heap_alloc_new w1 _)) (oneI _) (by decide) (by rw [maxLen_eq, HLK.out.2.2.1]; omega) (by rw [HLK.out.2.2.1]; omega) (HRL.out _ _ _ _ _ _ _ hr1.out _).bel.size _ rfl ?_; intro g2 cp2 w2 ho2 hg2 hat2 hl2; have hf2 := Lib.hid (fr_far (HFL.out _ hf1.out _) (HRL.out _ _ _ _ _ _ _ hr1.out _).o3 hg2); have hr2 := Lib.hid ((HRL.out _ _ _ _ _ _ _ hr1.out _).app3 (HRL.out _ _ _ _ _ _ _ hr1.out _).bel.size ho2 hg2 hat2); clear ho2 hg2 hat2 hl2)
          | (go_at_call 26; refine (HCA.out _ hr2.out.bel hf2.out).mono ?_; rintro e w' ⟨rfl, rfl⟩)
          | (at_builtin; refine wpList_append_lies _ rfl (.tmp 98) (.tmp 101) 24 rfl w.heap.size 3 i3 _ 1 8 Try.underlying24 HI.out.1 HI.out.2.1 HI.out.2.2.1 HI.out.2.2.2 rfl (by decide) u4 (rn es k).c.length ((rn es k).c.map (Value.int .i64)) rfl (HRL.out _ _ _ _ _ _ _ hr2.out _).o4 ⟨w2.heap.size, 0, none⟩ 1 1 [.int .i64 (callsTo (stepS (rn es k).st k s) qs.length)] rfl rfl (World.news_of_block (heap_alloc_new w2 _)) (oneI _) (by decide) (by rw [maxLen_eq, HLK.out.2.2.2]; omega) (by rw [HLK.out.2.2.2]; omega) (HRL.out _ _ _ _ _ _ _ hr2.out _).bel.size _ rfl ?_; intro g3 cp3 w3 ho3 hg3 hat3 hl3; have hf3 := Lib.hid (fr_far (HFL.out _ hf2.out _) (HRL.out _ _ _ _ _ _ _ hr2.out _).o4 hg3); have hr5 := Lib.hid ((HRL.out _ _ _ _ _ _ _ hr2.out _).app4 (HRL.out _ _ _ _ _ _ _ hr2.out _).bel.size ho3 hg3 hat3); clear ho3 hg3 hat3 hl3))
        exact ⟨⟨k + 1, by omega, by go_num, ⟨by rw [HRN.out]; have h := hr5.out; rw [← HQL.out] at h; exact h, qs, by rw [HRN.out]; exact HQS.out, hf3.out⟩⟩, by simp [intOf]; omega⟩
    · have hki : ¬ (k : Int) < (n : Int) := by omega
      have HE := Lib.hid (show n = k by omega)
      have HR := Lib.hid hr3
      clear hr3 hfo hps
      go_wp2
      go_ret3
      exact ⟨_, _, _, rfl, by rw [HE.out]; exact HR.out⟩
end Go.Proofs.Ytincgkolpicipaa.stack

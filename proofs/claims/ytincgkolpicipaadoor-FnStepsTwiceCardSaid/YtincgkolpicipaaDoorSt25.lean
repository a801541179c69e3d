/- FnStepsTwice: the law by contract. -/
import Derived.Test.YtincgkolpicipaaDoorSt24
import Derived.Test.YtincgkolpicipaaDoorSt22
import Derived.Test.YtincgkolpicipaaDoorSt21
namespace Go.Proofs.YtincgkolpicipaaDoor.twice
open Go.RowKit
theorem single {W : World} {b : Nat} {s : Sp} {nv hv : Value} {fr : Nat × Nat} (h : W.heap[b]? = some (.cells #[.bool s.is, .string ⟨s.rem.toArray⟩, nv, hv] 29 fr)) (hl : s.rem.length ≤ 9223372036854775807) (hs : Strs W nv s.names) (hi : Ints W hv s.hides) : Sps W (.slice (some ⟨b, 0, none⟩) 1 1) [s] := by
  refine ⟨some ⟨b, 0, none⟩, 1, rfl, by simp, by simp, fun i e he => ?_⟩
  have hi0 : i = 0 := by have := (List.getElem?_eq_some_iff.1 he).1; simp at this; exact this
  subst hi0
  simp at he
  subst he
  exact ⟨b, 0, rfl, by simp [World.cell?, h], by simp [World.cell?, h], hl, nv, hv, by simp [World.cell?, h], by simp [World.cell?, h], hs, hi⟩
theorem okay_put {es : List Sp} {i : Nat} (hi : i < es.length) (hl : es.length ≤ 12) (h : Okay es) : Okay (put es i) := by
  refine ⟨by rw [put_len hi]; omega, fun j s hs => ?_⟩
  by_cases hj : j ≤ i
  · rw [put_low hi hj] at hs; exact h.all j s hs
  · obtain ⟨j', rfl⟩ : ∃ j', j = j' + 1 := ⟨j - 1, by omega⟩
    rw [put_high hi (by omega)] at hs; exact h.all j' s hs
theorem put_map {es : List Sp} {i : Nat} (hi : i < es.length) : (put es i).map cv = put (es.map cv) i := by
  have h1 : es[i]? = some es[i] := List.getElem?_eq_getElem hi
  have h2 : (es.map cv)[i]? = some (cv es[i]) := by rw [List.getElem?_map, h1]; rfl
  rw [put_eq h1, put_eq h2]
  simp
theorem objF_put {es : List Sp} {i : Nat} (hi : i < es.length) : objF (put es i) = objF es := by
  unfold objF
  rw [put_map hi]
  exact chain_put (by simpa using hi)
set_option maxRecDepth 100000 in
set_option maxHeartbeats 8000000 in
theorem law (v : Value) (at' : Nat) (es : List Sp) (w : World) (h : Sps w v es) (ha : at' ≤ 255) (hT : Tabs w) : Calls Tryd.prog 3 #[v, .int .u8 at'] w fun e w' => e = .returned (.bool true) ∧ Below w.heap.size w w' := by
  have HF := Lib.hid (fits11_any v es w h)
  have HW := Lib.hid (fun W (hb : Below w.heap.size w W) => fewSteps_any v es W (h.later hb) (tabs_below hT hb))
  have HSP := Lib.hid (fun W (hb : Below w.heap.size w W) => h.later hb)
  obtain ⟨A, cap, hv, hcp, hl, hc⟩ := id h
  subst hv
  by_cases hz : es.length = 0
  · have hz0 : ((es.length : Int) == 0) = true := by rw [hz]; rfl
    clear hc hcp h hz
    generalize es.length = n at *
    go_enter Tryd.func3, Tryd.ntmps3
    go_wp2_with (first
      | (go_at_call 4; refine HF.out.mono ?_; rintro e w1 ⟨⟨b, rfl⟩, hb1⟩; have HB1 := Lib.hid hb1; clear hb1; cases b)
      | (go_at_call 5; refine (HW.out _ HB1.out).mono ?_; rintro e w2 ⟨⟨b, rfl, -⟩, hb2⟩; have HB2 := Lib.hid (step_after HB1.out hb2); clear hb2; cases b))
    all_goals
      go_returns
      first | exact ⟨rfl, HB2.out⟩ | exact ⟨rfl, HB1.out⟩
  · have hz0 : ((es.length : Int) == 0) = false := beq_eq_false_iff_ne.2 (by omega)
    have hpos : 0 < es.length := by omega
    have him : at' % es.length < es.length := Nat.mod_lt _ hpos
    obtain ⟨s, hs⟩ : ∃ s, es[at' % es.length]? = some s := ⟨_, List.getElem?_eq_getElem him⟩
    obtain ⟨q, o, rfl, hel⟩ := hc _ _ hs
    have HEL := Lib.hid (fun W (hb : Below w.heap.size w W) => hel.later hb)
    have HSS := Lib.hid hs
    have HPU := Lib.hid (fun hl12 W mv (hb : Below w.heap.size w W) hm => put7_any _ mv es (at' % es.length) s W (h.later hb) hs hl12 hm)
    have HOP := Lib.hid (fun hl12 hk => okay_put (es := es) him hl12 hk)
    have HOF := Lib.hid (objF_put him)
    have hrem : Int.tmod (at' : Int) (es.length : Int) = ((at' % es.length : Nat) : Int) := rfl
    have hne : ¬ ((es.length : Int) = 0) := by omega
    clear hc hz hel hs h
    have hidx : ((at' % es.length : Nat) : Int) < (es.length : Int) := Int.ofNat_lt.2 him
    generalize hi : at' % es.length = i at *
    go_enter Tryd.func3, Tryd.ntmps3
    go_wp2_with (first
      | (go_at_call 4; refine HF.out.mono ?_; rintro e w1 ⟨⟨b, rfl⟩, hb1⟩; have HB1 := Lib.hid hb1; clear hb1; cases b)
      | (go_at_call 5; refine (HW.out _ HB1.out).mono ?_; rintro e w2 ⟨⟨b, rfl, hok⟩, hb2⟩; have HB2 := Lib.hid (step_after HB1.out hb2); obtain ⟨x0, x1, xl, nv, hv, x2, x3, hst, hin⟩ := HEL.out _ HB2.out; have HOK := Lib.hid hok; have HSI := Lib.hid (And.intro xl (And.intro hst hin)); clear hb2 hok xl hst hin; cases b)
      | (go_at_call 7; refine (HPU.out (HOK.out (by trivial)).1 _ _ (HB2.out.alloc HB2.out.size _) (single (heap_alloc_new w2 _) HSI.out.1 (HSI.out.2.1.later (ba1 _ _)) (HSI.out.2.2.later (ba1 _ _)))).mono ?_; rintro e w3 ⟨hb3, v3, rfl, hsp⟩; have HB3 := Lib.hid (step_after (HB2.out.alloc HB2.out.size _) hb3); have HS3 := Lib.hid hsp; clear hb3 hsp)
      | (go_at_call 6; refine (sameSeen_any _ _ (put es i) es w3 HS3.out (HSP.out _ HB3.out) (HOP.out (HOK.out (by trivial)).1 (HOK.out (by trivial)).2) (HOK.out (by trivial)).2 HOF.out).mono ?_; rintro e w4 ⟨rfl, hb4⟩; have HB4 := Lib.hid (step_after HB3.out hb4); clear hb4))
    all_goals
      go_returns
      first | exact ⟨rfl, HB4.out⟩ | exact ⟨rfl, HB2.out⟩ | exact ⟨rfl, HB1.out⟩
end Go.Proofs.YtincgkolpicipaaDoor.twice

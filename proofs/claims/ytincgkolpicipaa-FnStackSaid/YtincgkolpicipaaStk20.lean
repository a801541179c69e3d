/- FnStack: the law by contract. -/
import Derived.Test.YtincgkolpicipaaStk19
namespace Go.Proofs.Ytincgkolpicipaa.stack
open Go.RowKit
theorem right_all {es : List Sx} (h : rightB es = true) (i : Nat) (e : Sx) (he : es[i]? = some e) (hk : e.k = 3) : 1 ≤ e.num := by
  have h1 := List.all_eq_true.1 h e (List.mem_of_getElem? he)
  unfold badK at h1
  rw [hk] at h1
  simp at h1
  omega
theorem is_ret {b : Bool} {e : Ending} (h : Is b e) : e = .returned (.bool b) := h
set_option maxRecDepth 100000 in
set_option maxHeartbeats 40000000 in
theorem law (a : Option Addr) (cap : Nat) (es : List Sx) (W : World) (h : Sxs W (.slice a es.length cap) es) : Calls Try.prog 3 #[.slice a es.length cap] W fun e W' => e = .returned (.bool true) ∧ Below W.heap.size W W' := by
  have HF := Lib.hid (fits13_any _ _ _ h)
  have HSX := Lib.hid (show ∀ W', Below W.heap.size W W' → Sxs W' (.slice a es.length cap) es from fun W' hb => h.later hb)
  by_cases hl : es.length ≤ 200
  · have hnb : decide ((200 : Int) < (es.length : Int)) = false := decide_eq_false (by omega)
    have HIS := Lib.hid (fun W' (hb : Below W.heap.size W W') => implStack_any _ es W' (HSX.out W' hb) hl)
    cases hr : rightB es
    · have HR := Lib.hid hr
      have HRT := Lib.hid (fun W' (hb : Below W.heap.size W W') => right_any _ es W' (HSX.out W' hb))
      clear h hl hr
      generalize es.length = n at *
      go_enter Try.func3, Try.ntmps3
      go_wp2_with (first
        | (go_at_call 6; refine HF.out.mono ?_; rintro e w1 ⟨⟨b, rfl⟩, hb1⟩; have HB1 := Lib.hid hb1; clear hb1; cases b)
        | (go_at_call 7; refine (HIS.out _ HB1.out).mono ?_; rintro e w2 hd; have HB2 := Lib.hid (step_after HB1.out hd.bel); obtain rfl := hd.no HR.out; clear hd)
        | (go_at_call 8; refine (HRT.out _ HB2.out).mono ?_; rintro e w3 ⟨hi, rfl⟩; obtain rfl := is_ret hi; rw [HR.out]; clear hi))
      all_goals
        go_returns
        first | exact ⟨rfl, HB2.out⟩ | exact ⟨rfl, HB1.out⟩
    · have HR := Lib.hid hr
      have HRT := Lib.hid (fun W' (hb : Below W.heap.size W W') => right_any _ es W' (HSX.out W' hb))
      have HST := Lib.hid (fun W' (hb : Below W.heap.size W W') => stacked_any _ es W' (HSX.out W' hb) hl (right_all hr))
      clear h hl hr
      have HIY := Lib.hid (fun W' W'' (_ : Below W.heap.size W W') (e : Ending) (hd : StackD W' W'' es e) => hd.yes HR.out)
      generalize (rn es es.length).f = l2 at HST HIY
      generalize (rn es es.length).n = l3 at HST HIY
      generalize (rn es es.length).c = l4 at HST HIY
      generalize es.length = n at *
      go_enter Try.func3, Try.ntmps3
      go_wp2_with (first
        | (go_at_call 6; refine HF.out.mono ?_; rintro e w1 ⟨⟨b, rfl⟩, hb1⟩; have HB1 := Lib.hid hb1; clear hb1; cases b)
        | (go_at_call 7; refine (HIS.out _ HB1.out).mono ?_; rintro e w2 hd; have HB2 := Lib.hid (step_after HB1.out hd.bel); obtain ⟨x2, x3, x4, rfl, i2, i3, i4⟩ := HIY.out _ _ HB1.out _ hd; have HI2 := Lib.hid i2; have HI3 := Lib.hid i3; have HI4 := Lib.hid i4; clear hd i2 i3 i4)
        | (go_at_call 8; refine (HRT.out _ HB2.out).mono ?_; rintro e w3 ⟨hi, rfl⟩; obtain rfl := is_ret hi; rw [HR.out]; clear hi)
        | (go_at_call 9; refine (HST.out _ HB2.out).mono ?_; rintro e w4 ⟨v2, v3, v4, rfl, r3⟩; have HR4 := Lib.hid r3; have HJ := Lib.hid (fun W' (hb : Below w4.heap.size w4 W') => And.intro (HI2.out.later (r3.bel.trans (hb.mono r3.bel.size))) (And.intro (HI3.out.later (r3.bel.trans (hb.mono r3.bel.size))) (HI4.out.later (r3.bel.trans (hb.mono r3.bel.size))))); have HK := Lib.hid (fun W' (hb : Below w4.heap.size w4 W') => And.intro (r3.o2.reads.later hb) (And.intro (r3.o3.reads.later hb) (r3.o4.reads.later hb))); clear r3)
        | (go_at_call_of 10 x2; refine (same_any _ _ l2 _ (HJ.out _ (Below.refl _ _)).1 (HK.out _ (Below.refl _ _)).1).mono ?_; rintro e w5 ⟨rfl, hb5⟩; have HB5 := Lib.hid hb5; clear hb5)
        | (go_at_call_of 10 x3; refine (same_any _ _ l3 _ (HJ.out _ HB5.out).2.1 (HK.out _ HB5.out).2.1).mono ?_; rintro e w6 ⟨rfl, hb6⟩; have HB6 := Lib.hid (step_after HB5.out hb6); clear hb6)
        | (go_at_call_of 10 x4; refine (same_any _ _ l4 _ (HJ.out _ HB6.out).2.2 (HK.out _ HB6.out).2.2).mono ?_; rintro e w7 ⟨rfl, hb7⟩; have HB7 := Lib.hid (step_after HB6.out hb7); clear hb7))
      all_goals
        go_returns
        first | exact ⟨rfl, step_after (step_after HB2.out HR4.out.bel) HB7.out⟩ | exact ⟨rfl, HB1.out⟩
  · have hnb : decide ((200 : Int) < (es.length : Int)) = true := decide_eq_true (by omega)
    clear h hl
    generalize es.length = n at *
    go_enter Try.func3, Try.ntmps3
    go_wp2_with (go_at_call 6; refine HF.out.mono ?_; rintro e w1 ⟨⟨b, rfl⟩, hb1⟩; have HB1 := Lib.hid hb1; clear hb1; cases b)
    all_goals
      go_returns
      exact ⟨rfl, HB1.out⟩
end Go.Proofs.Ytincgkolpicipaa.stack

/- FnNumTurned: rounding up is rounding down of the number with the other sign. For all doubles, without a condition. -/
import Derived.Test.YtkagijlbmojbcaaRows
import Derived.Test.YtkagijlbmojbcaaLawKit
import Derived.Test.YtkagijlbmojbcaaRound
namespace Go.Proofs.Ytkagijlbmojbcaa.turned
open Go.ChangeShapes Go.WideShapes Go.ChangeAt Go.RowKit Go.Proofs.Ytkagijlbmojbcaa.fl Go.Proofs.Ytkagijlbmojbcaa.num Go.Proofs.Ytkagijlbmojbcaa

theorem own : ownKnob Try.prog.godebug = none := by kernel_rfl
theorem laidOut : laidOutB Try.prog = true := by kernel_rfl

set_option maxHeartbeats 400000 in
theorem walk_fin (x c f : Nat) (w : World) (hx : finB x = true) (C1 : Hid (∀ W, Calls Try.prog 14 #[.float .f64 x] W fun e w' => e = .returned (.tuple #[.float .f64 c, .bool true]) ∧ Below W.heap.size W w'))
    (C2 : Hid (∀ W, Calls Try.prog 15 #[.float .f64 (Op.negFloat .f64 x)] W fun e w' => e = .returned (.tuple #[.float .f64 f, .bool true]) ∧ Below W.heap.size W w'))
    (hq : (FloatKind.f64.format.order c (Op.negFloat .f64 f) == some .eq) = true) :
    Calls Try.prog 6 #[.float .f64 x] w fun e w' => e = .returned (.bool true) ∧ Below w.heap.size w w' := by
  have c1 := finite1_any x
  rw [hx] at c1
  have HF := Lib.hid c1
  clear c1 hx
  have hng : ∀ (b : Nat) (w : World), (Op.unary .neg (.float .f64 b)).run Try.prog w = .ok (.float .f64 (Op.negFloat .f64 b)) w := fun _ _ => rfl
  go_enter Try.func6, Try.ntmps6
  go_wp2_with fail
  refine (C1.out _).mono ?_
  rintro e W ⟨rfl, hb⟩
  have HB := Lib.hid hb
  clear hb
  go_wp2_with fail
  refine (C2.out _).mono ?_
  rintro e W2 ⟨rfl, hb⟩
  have HB2 := Lib.hid (HB.out.trans (hb.mono HB.out.size))
  clear hb
  go_wp2_with (go_at_call 9; refine (HF.out _ _ ?_).mono ?_; (next => simp [go_sem]); rintro e w' ⟨rfl, rfl⟩)
  go_ret
  exact ⟨rfl, HB2.out.alloc HB2.out.size _⟩

set_option maxHeartbeats 400000 in
theorem walk_not (x : Nat) (w : World) (hx : finB x = false) (P1 : World → Nat) (Q1 : World → Bool) (P2 : World → Nat) (Q2 : World → Bool)
    (C1 : Hid (∀ W, Calls Try.prog 14 #[.float .f64 x] W fun e w' => e = .returned (.tuple #[.float .f64 (P1 W), .bool (Q1 W)]) ∧ Below W.heap.size W w'))
    (C2 : Hid (∀ W, Calls Try.prog 15 #[.float .f64 (Op.negFloat .f64 x)] W fun e w' => e = .returned (.tuple #[.float .f64 (P2 W), .bool (Q2 W)]) ∧ Below W.heap.size W w')) :
    Calls Try.prog 6 #[.float .f64 x] w fun e w' => e = .returned (.bool true) ∧ Below w.heap.size w w' := by
  have c1 := finite1_any x
  rw [hx] at c1
  have HF := Lib.hid c1
  clear c1 hx
  have hng : ∀ (b : Nat) (w : World), (Op.unary .neg (.float .f64 b)).run Try.prog w = .ok (.float .f64 (Op.negFloat .f64 b)) w := fun _ _ => rfl
  go_enter Try.func6, Try.ntmps6
  go_wp2_with fail
  refine (C1.out _).mono ?_
  rintro e W ⟨rfl, hb⟩
  have HB := Lib.hid hb
  clear hb
  go_wp2_with fail
  refine (C2.out _).mono ?_
  rintro e W2 ⟨rfl, hb⟩
  have HB2 := Lib.hid (HB.out.trans (hb.mono HB.out.size))
  clear hb
  go_wp2_with (go_at_call 9; refine (HF.out _ _ ?_).mono ?_; (next => simp [go_sem]); rintro e w' ⟨rfl, rfl⟩)
  go_ret
  exact ⟨rfl, HB2.out.alloc HB2.out.size _⟩

theorem encode_number (s : Bool) (M : Nat) : FloatKind.f64.encode (.number s M 0) = Ieee.double.word s (Fp.rung M 0) := Fp.nearest_eq s M 0

theorem walk (x : Nat) (hw : x < 18446744073709551616) (w : World) :
    Calls Try.prog 6 #[.float .f64 x] w fun e w' => e = .returned (.bool true) ∧ Below w.heap.size w w' := by
  obtain ⟨r1, d1, hd1, ht1, hn1⟩ := ceil_run x
  obtain ⟨r2, d2, hd2, ht2, hn2⟩ := floor_run (Op.negFloat .f64 x)
  have C1 := fun W => ceil_any x W r1 d1 hd1 (ceil_fn x r1 d1 ht1)
  have C2 := fun W => floor_any (Op.negFloat .f64 x) W r2 d2 hd2 (floor_fn _ r2 d2 ht2)
  cases hx : finB x
  · exact walk_not x w hx _ _ _ _ C1 C2
  · obtain ⟨neg, r, hr, rfl⟩ := Fp.read_split x hw
    have hfin := Fp.rung_of_fin neg r hr hx
    obtain ⟨m, i, hrd, hm, -, hi⟩ := Fp.read_fin neg r hfin
    obtain ⟨M, hM, hMr⟩ := Fp.integral_fin .up neg m i hm hi
    have e1 : ∀ w, r1 w = Ieee.double.word neg (Fp.rung M 0) := fun w => by rw [hn1 neg m i hrd w, hM, encode_number]
    have hnx : Op.negFloat .f64 (Ieee.double.word neg r) = Ieee.double.word (!neg) r := Fp.neg_word neg r hr
    have hrd2 : FloatKind.f64.decode (Op.negFloat .f64 (Ieee.double.word neg r)) = .number (!neg) m i := by
      rw [hnx]
      show Ieee.double.read _ = _
      rw [Fp.read_opposite neg r hr, hrd]; rfl
    have hM2 : (Ieee.Datum.number (!neg) m i).integral .down = .number (!neg) M 0 := by
      have := Fp.integral_turned (.number neg m i)
      rw [hM] at this
      exact this
    have e2 : ∀ w, r2 w = Ieee.double.word (!neg) (Fp.rung M 0) := fun w => by rw [hn2 (!neg) m i hrd2 w, hM2, encode_number]
    have f1 : finB (Ieee.double.word neg (Fp.rung M 0)) = true := Fp.finB_word _ _ hMr
    have f2 : finB (Ieee.double.word (!neg) (Fp.rung M 0)) = true := Fp.finB_word _ _ hMr
    simp only [e1, f1, if_true] at C1
    simp only [e2, f2, if_true] at C2
    refine walk_fin _ _ _ w hx C1 C2 ?_
    rw [Fp.neg_word _ _ (by have := Fp.rung_le M 0; omega), Bool.not_not]
    have : nanB (Ieee.double.word neg (Fp.rung M 0)) = false := by
      cases h : nanB (Ieee.double.word neg (Fp.rung M 0)) <;> simp_all [finB]
    unfold nanB at this
    simpa using this

set_option maxRecDepth 100000 in
theorem lifted (os : Os) (started : os.Started) (H : Type) (enc : TypeId × Value → H) :
    ReturnsInHanded {} Try.checked os 6 .any (Rows.fnNumTurnedSpec.pre6 enc Try.prog Try.f6 [] false) (Rows.fnNumTurnedSpec.post enc Try.prog Try.f6 false true false false) := by
  refine LawKit.law_lifted (C := Try.checked) own started (by kernel_rfl) Try.func6
    (ChangeSpec.witness6 (enc := enc) (C := Try.checked) false ⟨#[], #[.float .f64 0], []⟩ 8 (by kernel_rfl) (by kernel_rfl) (by kernel_rfl) (by kernel_rfl))
    laidOut (by kernel_rfl) rfl (by kernel_rfl) Try.underlying4 ?_ ?_
  · intro ds hl
    have hl' : ds.length = 1 := hl
    obtain ⟨a, rfl⟩ : ∃ a, ds = [a] := by
      match ds, hl' with
      | [a], _ => exact ⟨a, rfl⟩
    exact ⟨rfl, rfl, rfl⟩
  · intro W base args ds before hval0 hA0 _ _
    have hval : ∀ (j : Nat) t v, Try.f6.params[j]? = some t → args[j]? = some v → Value.okWide Try.prog W .any base t v := hval0
    have hA : DataW.TrodAll enc Try.prog W 0 (fun _ => true) true Try.f6.params.toList args.toList ds before := hA0
    rw [Try.params6] at hA hval
    obtain ⟨v0, d0, rfl, rfl, h0⟩ := trodAll_one hA
    obtain ⟨x, rfl, rfl, rfl, hx⟩ := open_float Try.underlying22 (hval 0 22 v0 rfl rfl) h0
    have hx' : x < 18446744073709551616 := by simpa [Lit.wf, FloatKind.format, Ieee.Format.width, Ieee.double] using hx
    exact walk x hx' W

theorem holds : Rows.FnNumTurnedSaid :=
  OpenClaim.holds_of_wide 6 Try.f6 rfl rfl rfl rfl rfl rfl rfl ⟨rfl, rfl, rfl, rfl, rfl⟩ rfl rfl rfl rfl rfl (by kernel_rfl) Try.func6 (by kernel_rfl)
    (of_decide_eq_true (by kernel_rfl)) (by unfold Func.isWrapper; first | (rw [if_pos (by decide +kernel)]; kernel_rfl) | (rw [if_neg (by decide +kernel)]; exact ⟨rfl, rfl⟩))
    (fun os started H enc _ => lifted os started H enc)

end Go.Proofs.Ytkagijlbmojbcaa.turned

/- Rounding up and down of the evaluator by contract. -/
import Derived.Test.YtkagijlbmojbcaaRows
import Derived.Test.YtkagijlbmojbcaaTimes
import Derived.Test.YtkagijlbmojbcaaFpMore
import Derived.Laws.EntriesVeiled
namespace Go.Proofs.Ytkagijlbmojbcaa.turned
open Go.RowKit Go.Proofs.Ytkagijlbmojbcaa.fl Go.Proofs.Ytkagijlbmojbcaa.num Go.Proofs.Ytkagijlbmojbcaa Go.Proofs.Ytkagijlbmojbcaa.times

theorem step_of {w : World} {d : World → World} (hd : ∀ w, d w = w ∨ d w = w.drew) : Below w.heap.size w (d w.drew) := by
  rcases hd w.drew with h | h <;> rw [h]
  · exact (Below.refl _ _).drew
  · exact (Below.refl _ _).drew.drew

/-- What a function value hands back: a float, in the same world or behind one draw. -/
def FPost (r : World → Nat) (d : World → World) (w : World) (e : Ending) (w' : World) : Prop := e = .returned (.float .f64 (r w)) ∧ d w = w'

theorem ceil_lift (w : World) :
    Calls Try.prog 40 #[] w fun e w' => e = .returned (.func (Fn.func 59) #[] #[.pointer (some ⟨w.heap.size, 0, none⟩)]) ∧ w.alloc (.cells #[.func (.func 53) #[] #[]] 34) = w' := by
  have hmf : ∀ (fn : Fn) (first cap : Array Value) (w : World), (Instr.makeFunc fn first cap).run Try.prog w = .ok (.func fn first cap) w := fun _ _ _ _ => rfl
  go_enter Try.func40, Try.ntmps40
  go_wp2
  go_ret
  exact ⟨rfl, rfl⟩

set_option maxHeartbeats 800000 in
theorem ceil_clo_ok (b b1 fb x : Nat) (w : World) (r : World → Nat) (d : World → World) (hd : ∀ w, d w = w ∨ d w = w.drew) (hF : ∀ w, Calls Try.prog 53 #[.float .f64 x] w (FPost r d w)) (hf : finB (r w.drew) = true)
    (k1 : w.cell? ⟨b1, 0, none⟩ = some (.float .f64 x)) (k2 : w.cell? ⟨fb, 0, none⟩ = some (.func (.func 53) #[] #[])) :
    Calls Try.prog 59 #[.pointer (some ⟨b, 0, none⟩), .iface 87 (.pointer (some ⟨b1, 0, none⟩)), .pointer (some ⟨fb, 0, none⟩)] w fun e w' => e = .returned (.tuple #[.iface 87 (.pointer (some ⟨(d w.drew).heap.size, 0, none⟩)), .nilIface]) ∧ (d w.drew).alloc (.cells #[.float .f64 (r w.drew)] 86) = w' := by
  have F := Lib.hid hf
  have HF := Lib.hid hF
  have S1 : Hid (∀ w', Below w.heap.size w w' → w'.cell? ⟨b1, 0, none⟩ = some (.float .f64 x) ∧ w'.cell? ⟨fb, 0, none⟩ = some (.func (.func 53) #[] #[])) :=
    fun w' hb => ⟨cell_later hb k1, cell_later hb k2⟩
  have S2 : Hid (Below w.heap.size w (d w.drew)) := step_of hd
  have S3 : Hid (∀ o, Below w.heap.size w ((d w.drew).alloc o)) := fun o => (step_of hd).alloc (step_of hd).size o
  clear hf hd hF
  go_enter Try.func59, Try.ntmps59
  go_wp2_with ((go_at_call 46; refine (get_any _ _ _).mono ?_; rintro e w' ⟨rfl, rfl⟩))
  go_region_held3 (fun w' => w'.cell? ⟨b1, 0, none⟩ = some (.float .f64 x) ∧ w'.cell? ⟨fb, 0, none⟩ = some (.func (.func 53) #[] #[]))
    (first | exact S1.out _ S2.out | exact S1.out _ (S3.out _) | exact S1.out _ ((Below.refl _ _).drew))
    (first | (go_at_call 53; refine (HF.out _).mono ?_; rintro e w' ⟨rfl, rfl⟩) | (go_at_call 51; refine (dc_ok _ _ _ F.out).mono ?_; rintro e w' ⟨rfl, rfl⟩))
  go_wp2
  go_ret2
  exact ⟨rfl, rfl⟩

set_option maxHeartbeats 800000 in
theorem ceil_clo_err (b b1 fb x : Nat) (w : World) (r : World → Nat) (d : World → World) (hd : ∀ w, d w = w ∨ d w = w.drew) (hF : ∀ w, Calls Try.prog 53 #[.float .f64 x] w (FPost r d w)) (hf : finB (r w.drew) = false)
    (k1 : w.cell? ⟨b1, 0, none⟩ = some (.float .f64 x)) (k2 : w.cell? ⟨fb, 0, none⟩ = some (.func (.func 53) #[] #[]))
    (h7 : w.cell? ⟨b, 7, none⟩ = some (.slice none 0 0)) (h5 : w.cell? ⟨b, 5, none⟩ = some (.pointer none)) :
    Calls Try.prog 59 #[.pointer (some ⟨b, 0, none⟩), .iface 87 (.pointer (some ⟨b1, 0, none⟩)), .pointer (some ⟨fb, 0, none⟩)] w (ErrPost w) := by
  have F := Lib.hid hf
  have HF := Lib.hid hF
  have S1 : Hid (∀ w', Below w.heap.size w w' → (w'.cell? ⟨b1, 0, none⟩ = some (.float .f64 x) ∧ w'.cell? ⟨fb, 0, none⟩ = some (.func (.func 53) #[] #[])) ∧ (w'.cell? ⟨b, 7, none⟩ = some (.slice none 0 0) ∧ w'.cell? ⟨b, 5, none⟩ = some (.pointer none)) ∧ Below w.heap.size w w') :=
    fun w' hb => ⟨⟨cell_later hb k1, cell_later hb k2⟩, ⟨cell_later hb h7, cell_later hb h5⟩, hb⟩
  have S2 : Hid (Below w.heap.size w (d w.drew)) := step_of hd
  have S3 : Hid (∀ w', Below (d w.drew).heap.size (d w.drew) w' → Below w.heap.size w w') := fun w' hb => (step_of hd).trans (hb.mono (step_of hd).size)
  clear hf hd hF
  go_enter Try.func59, Try.ntmps59
  go_wp2_with ((go_at_call 46; refine (get_any _ _ _).mono ?_; rintro e w' ⟨rfl, rfl⟩))
  go_region_held3 (fun w' => (w'.cell? ⟨b1, 0, none⟩ = some (.float .f64 x) ∧ w'.cell? ⟨fb, 0, none⟩ = some (.func (.func 53) #[] #[])) ∧ (w'.cell? ⟨b, 7, none⟩ = some (.slice none 0 0) ∧ w'.cell? ⟨b, 5, none⟩ = some (.pointer none)) ∧ Below w.heap.size w w')
    (first | exact S1.out _ S2.out | exact S1.out _ (S3.out _ (by assumption)) | exact S1.out _ ((Below.refl _ _).drew))
    (first | (go_at_call 53; refine (HF.out _).mono ?_; rintro e w' ⟨rfl, rfl⟩) | (go_at_call 51; refine (dc_errp _ _ _ F.out (S1.out _ S2.out).2.1.1 (S1.out _ S2.out).2.1.2).mono ?_; rintro e w' ⟨v, rfl, hb⟩))
  go_wp2
  go_ret2
  exact ⟨_, rfl, S3.out _ (by assumption)⟩

/-- The world in which the closure is called. -/
def ceil_W (w : World) (x : Nat) : World := ((w.alloc (.cells #[.func (.func 53) #[] #[]] 34)).alloc zeroI).alloc (.cells #[.float .f64 x] 86)
theorem ceil_below (w : World) (x : Nat) : Below w.heap.size w (ceil_W w x) := (((Below.refl _ _).alloc (Nat.le_refl _) _).alloc (by simp) _).alloc (by simp; omega) _
theorem ceil_size (w : World) (x : Nat) : (ceil_W w x).heap.size = w.heap.size + 3 := by simp [ceil_W]
theorem ceil_7 (w : World) (x : Nat) : (ceil_W w x).cell? ⟨w.heap.size + 1, 7, none⟩ = some (.slice none 0 0) := by simp [ceil_W, zeroI, go_sem]
theorem ceil_5 (w : World) (x : Nat) : (ceil_W w x).cell? ⟨w.heap.size + 1, 5, none⟩ = some (.pointer none) := by simp [ceil_W, zeroI, go_sem]
theorem ceil_x (w : World) (x : Nat) : (ceil_W w x).cell? ⟨w.heap.size + 1 + 1, 0, none⟩ = some (.float .f64 x) := by simp [ceil_W, go_sem]
theorem ceil_f (w : World) (x : Nat) : (ceil_W w x).cell? ⟨w.heap.size, 0, none⟩ = some (.func (.func 53) #[] #[]) := by simp [ceil_W, zeroI, go_sem]

theorem ceil_part_ok (x : Nat) (w : World) (r : World → Nat) (d : World → World) (hd : ∀ w, d w = w ∨ d w = w.drew) (hF : ∀ w, Calls Try.prog 53 #[.float .f64 x] w (FPost r d w)) (hf : finB (r (ceil_W w x).drew) = true) :
    Calls Try.prog 25 #[.float .f64 x] w fun e w' => e = .returned (.tuple #[.float .f64 (r (ceil_W w x).drew), .nilIface]) ∧ Below w.heap.size w w' := by
  have HC := Lib.hid (ceil_clo_ok (w.heap.size + 1) (w.heap.size + 1 + 1) w.heap.size x (ceil_W w x) r d hd hF hf (ceil_x w x) (ceil_f w x))
  have HB := Lib.hid ((ceil_below w x).trans ((step_of hd (w := ceil_W w x)).mono (ceil_below w x).size))
  clear hf hF hd
  generalize r (ceil_W w x).drew = rr at HC ⊢
  go_enter Try.func25, Try.ntmps25
  go_wp2_with (first | (go_at_call 37; refine (num_any _ _).mono ?_; rintro e w' ⟨rfl, rfl⟩) | (go_at_call 40; refine (ceil_lift _).mono ?_; rintro e w' ⟨rfl, rfl⟩))
  refine HC.out.mono ?_
  rintro e w' ⟨rfl, rfl⟩
  generalize d (ceil_W w x).drew = W at HB ⊢
  clear HC
  go_wp2_with (go_at_call 35; refine (numOf_ok rr _ _ (by simp [go_sem])).mono ?_; rintro e w' ⟨rfl, rfl⟩)
  go_ret2
  exact ⟨rfl, HB.out.alloc HB.out.size _⟩

theorem ceil_part_err (x : Nat) (w : World) (r : World → Nat) (d : World → World) (hd : ∀ w, d w = w ∨ d w = w.drew) (hF : ∀ w, Calls Try.prog 53 #[.float .f64 x] w (FPost r d w)) (hf : finB (r (ceil_W w x).drew) = false) :
    Calls Try.prog 25 #[.float .f64 x] w (ErrPost2 w) := by
  have HC := Lib.hid (ceil_clo_err (w.heap.size + 1) (w.heap.size + 1 + 1) w.heap.size x (ceil_W w x) r d hd hF hf (ceil_x w x) (ceil_f w x) (ceil_7 w x) (ceil_5 w x))
  clear hf hF hd
  go_enter Try.func25, Try.ntmps25
  go_wp2_with (first | (go_at_call 37; refine (num_any _ _).mono ?_; rintro e w' ⟨rfl, rfl⟩) | (go_at_call 40; refine (ceil_lift _).mono ?_; rintro e w' ⟨rfl, rfl⟩))
  refine HC.out.mono ?_
  rintro e W ⟨v, rfl, hb⟩
  have HB := Lib.hid ((ceil_below w x).trans (hb.mono (ceil_below w x).size))
  clear hb HC
  go_wp2_with (go_at_call 35; refine (numOf_err 99 v _).mono ?_; rintro e w' ⟨rfl, rfl⟩)
  go_ret2
  exact ⟨v, rfl, HB.out⟩

/-- What the door tells: the float and true, if it is finite; else an error. -/
theorem ceil_any (x : Nat) (w : World) (r : World → Nat) (d : World → World) (hd : ∀ w, d w = w ∨ d w = w.drew) (hF : ∀ w, Calls Try.prog 53 #[.float .f64 x] w (FPost r d w)) :
    Calls Try.prog 14 #[.float .f64 x] w fun e w' => e = .returned (.tuple #[.float .f64 (if finB (r (ceil_W w x).drew) then r (ceil_W w x).drew else 0), .bool (finB (r (ceil_W w x).drew))]) ∧ Below w.heap.size w w' := by
  cases hf : finB (r (ceil_W w x).drew)
  · have HC := Lib.hid (ceil_part_err x w r d hd hF hf)
    clear hf hF hd
    simp only [Bool.false_eq_true, if_false]
    go_enter Try.func14, Try.ntmps14
    go_wp2_with fail
    refine HC.out.mono ?_
    rintro e W ⟨v, rfl, hb⟩
    have HB := Lib.hid hb
    clear hb
    go_wp2_with (go_at_call 21; refine (number_err 0 99 v _).mono ?_; rintro e w' ⟨rfl, rfl⟩)
    go_ret2
    exact ⟨rfl, HB.out⟩
  · have HC := Lib.hid (ceil_part_ok x w r d hd hF hf)
    clear hf hF hd
    simp only [if_true]
    generalize r (ceil_W w x).drew = rr at HC ⊢
    go_enter Try.func14, Try.ntmps14
    go_wp2_with fail
    refine HC.out.mono ?_
    rintro e W ⟨rfl, hb⟩
    have HB := Lib.hid hb
    clear hb
    go_wp2_with (go_at_call 21; refine (number_ok rr _).mono ?_; rintro e w' ⟨rfl, rfl⟩)
    go_ret2
    exact ⟨rfl, HB.out⟩

/-- The instruction behind them: of a number the whole number; of a NaN a NaN, which the tape may choose. -/
theorem whole_run (nm : String) (way : Ieee.Toward) (x : Nat) : ∃ (r : World → Nat) (d : World → World), (∀ w, d w = w ∨ d w = w.drew) ∧
    (∀ w, (Extern.MathFloor.toIntegral nm way #[.float .f64 x]).run Try.prog w = .ok (.float .f64 (r w)) (d w)) ∧
    ∀ s m i, FloatKind.f64.decode x = .number s m i → ∀ w, r w = FloatKind.f64.encode ((Ieee.Datum.number s m i).integral way) := by
  obtain ⟨S, hS⟩ : ∃ S, S = Extern.MathFloor.toIntegral nm way #[.float .f64 x] := ⟨_, rfl⟩
  have hT := hS
  change S = (match FloatKind.f64.decode x with | .nan s t => _ | d => _) at hT
  rw [← hS]
  cases hd : FloatKind.f64.decode x with
  | nan s t =>
    rw [hd] at hT
    change S = ite _ _ _ at hT
    by_cases hq : FloatKind.f64.format.quiet t = t
    · rw [if_pos hq] at hT
      subst hT
      exact ⟨fun _ => x, fun w => w, fun _ => .inl rfl, fun _ => rfl, fun _ _ _ h => by cases h⟩
    · rw [if_neg hq] at hT
      subst hT
      exact ⟨_, fun w => w.drew, fun _ => .inr rfl, fun _ => rfl, fun _ _ _ h => by cases h⟩
  | infinity s =>
    rw [hd] at hT
    subst hT
    exact ⟨fun _ => _, fun w => w, fun _ => .inl rfl, fun _ => rfl, fun _ _ _ h => by cases h⟩
  | number s m i =>
    rw [hd] at hT
    subst hT
    exact ⟨fun _ => _, fun w => w, fun _ => .inl rfl, fun _ => rfl, fun _ _ _ h _ => by cases h; rfl⟩
theorem ceil_run (x : Nat) : ∃ (r : World → Nat) (d : World → World), (∀ w, d w = w ∨ d w = w.drew) ∧ (∀ w, (callFunc 60 #[.float .f64 x]).run Try.prog w = .ok (.value (.float .f64 (r w))) (d w)) ∧
    ∀ s m i, FloatKind.f64.decode x = .number s m i → ∀ w, r w = FloatKind.f64.encode ((Ieee.Datum.number s m i).integral .up) := by
  obtain ⟨r, d, h1, h2, h3⟩ := whole_run "math.archCeil" .up x
  refine ⟨r, d, h1, fun w => ?_, h3⟩
  rw [run_callFunc_extern (e := Extern.MathFloor.toIntegral "math.archCeil" .up) Try.func60 (by kernel_rfl) (by kernel_rfl) (by kernel_rfl) (by kernel_rfl) #[.float .f64 x] w, h2]
  rfl
theorem ceil_fn (x : Nat) (r : World → Nat) (d : World → World) (ht : ∀ w, (callFunc 60 #[.float .f64 x]).run Try.prog w = .ok (.value (.float .f64 (r w))) (d w)) (w : World) : Calls Try.prog 53 #[.float .f64 x] w (FPost r d w) := by
  go_enter Try.func53, Try.ntmps53
  go_wp2
  go_ret
  exact ⟨rfl, rfl⟩

theorem floor_lift (w : World) :
    Calls Try.prog 41 #[] w fun e w' => e = .returned (.func (Fn.func 59) #[] #[.pointer (some ⟨w.heap.size, 0, none⟩)]) ∧ w.alloc (.cells #[.func (.func 54) #[] #[]] 34) = w' := by
  have hmf : ∀ (fn : Fn) (first cap : Array Value) (w : World), (Instr.makeFunc fn first cap).run Try.prog w = .ok (.func fn first cap) w := fun _ _ _ _ => rfl
  go_enter Try.func41, Try.ntmps41
  go_wp2
  go_ret
  exact ⟨rfl, rfl⟩

set_option maxHeartbeats 800000 in
theorem floor_clo_ok (b b1 fb x : Nat) (w : World) (r : World → Nat) (d : World → World) (hd : ∀ w, d w = w ∨ d w = w.drew) (hF : ∀ w, Calls Try.prog 54 #[.float .f64 x] w (FPost r d w)) (hf : finB (r w.drew) = true)
    (k1 : w.cell? ⟨b1, 0, none⟩ = some (.float .f64 x)) (k2 : w.cell? ⟨fb, 0, none⟩ = some (.func (.func 54) #[] #[])) :
    Calls Try.prog 59 #[.pointer (some ⟨b, 0, none⟩), .iface 87 (.pointer (some ⟨b1, 0, none⟩)), .pointer (some ⟨fb, 0, none⟩)] w fun e w' => e = .returned (.tuple #[.iface 87 (.pointer (some ⟨(d w.drew).heap.size, 0, none⟩)), .nilIface]) ∧ (d w.drew).alloc (.cells #[.float .f64 (r w.drew)] 86) = w' := by
  have F := Lib.hid hf
  have HF := Lib.hid hF
  have S1 : Hid (∀ w', Below w.heap.size w w' → w'.cell? ⟨b1, 0, none⟩ = some (.float .f64 x) ∧ w'.cell? ⟨fb, 0, none⟩ = some (.func (.func 54) #[] #[])) :=
    fun w' hb => ⟨cell_later hb k1, cell_later hb k2⟩
  have S2 : Hid (Below w.heap.size w (d w.drew)) := step_of hd
  have S3 : Hid (∀ o, Below w.heap.size w ((d w.drew).alloc o)) := fun o => (step_of hd).alloc (step_of hd).size o
  clear hf hd hF
  go_enter Try.func59, Try.ntmps59
  go_wp2_with ((go_at_call 46; refine (get_any _ _ _).mono ?_; rintro e w' ⟨rfl, rfl⟩))
  go_region_held3 (fun w' => w'.cell? ⟨b1, 0, none⟩ = some (.float .f64 x) ∧ w'.cell? ⟨fb, 0, none⟩ = some (.func (.func 54) #[] #[]))
    (first | exact S1.out _ S2.out | exact S1.out _ (S3.out _) | exact S1.out _ ((Below.refl _ _).drew))
    (first | (go_at_call 54; refine (HF.out _).mono ?_; rintro e w' ⟨rfl, rfl⟩) | (go_at_call 51; refine (dc_ok _ _ _ F.out).mono ?_; rintro e w' ⟨rfl, rfl⟩))
  go_wp2
  go_ret2
  exact ⟨rfl, rfl⟩

set_option maxHeartbeats 800000 in
theorem floor_clo_err (b b1 fb x : Nat) (w : World) (r : World → Nat) (d : World → World) (hd : ∀ w, d w = w ∨ d w = w.drew) (hF : ∀ w, Calls Try.prog 54 #[.float .f64 x] w (FPost r d w)) (hf : finB (r w.drew) = false)
    (k1 : w.cell? ⟨b1, 0, none⟩ = some (.float .f64 x)) (k2 : w.cell? ⟨fb, 0, none⟩ = some (.func (.func 54) #[] #[]))
    (h7 : w.cell? ⟨b, 7, none⟩ = some (.slice none 0 0)) (h5 : w.cell? ⟨b, 5, none⟩ = some (.pointer none)) :
    Calls Try.prog 59 #[.pointer (some ⟨b, 0, none⟩), .iface 87 (.pointer (some ⟨b1, 0, none⟩)), .pointer (some ⟨fb, 0, none⟩)] w (ErrPost w) := by
  have F := Lib.hid hf
  have HF := Lib.hid hF
  have S1 : Hid (∀ w', Below w.heap.size w w' → (w'.cell? ⟨b1, 0, none⟩ = some (.float .f64 x) ∧ w'.cell? ⟨fb, 0, none⟩ = some (.func (.func 54) #[] #[])) ∧ (w'.cell? ⟨b, 7, none⟩ = some (.slice none 0 0) ∧ w'.cell? ⟨b, 5, none⟩ = some (.pointer none)) ∧ Below w.heap.size w w') :=
    fun w' hb => ⟨⟨cell_later hb k1, cell_later hb k2⟩, ⟨cell_later hb h7, cell_later hb h5⟩, hb⟩
  have S2 : Hid (Below w.heap.size w (d w.drew)) := step_of hd
  have S3 : Hid (∀ w', Below (d w.drew).heap.size (d w.drew) w' → Below w.heap.size w w') := fun w' hb => (step_of hd).trans (hb.mono (step_of hd).size)
  clear hf hd hF
  go_enter Try.func59, Try.ntmps59
  go_wp2_with ((go_at_call 46; refine (get_any _ _ _).mono ?_; rintro e w' ⟨rfl, rfl⟩))
  go_region_held3 (fun w' => (w'.cell? ⟨b1, 0, none⟩ = some (.float .f64 x) ∧ w'.cell? ⟨fb, 0, none⟩ = some (.func (.func 54) #[] #[])) ∧ (w'.cell? ⟨b, 7, none⟩ = some (.slice none 0 0) ∧ w'.cell? ⟨b, 5, none⟩ = some (.pointer none)) ∧ Below w.heap.size w w')
    (first | exact S1.out _ S2.out | exact S1.out _ (S3.out _ (by assumption)) | exact S1.out _ ((Below.refl _ _).drew))
    (first | (go_at_call 54; refine (HF.out _).mono ?_; rintro e w' ⟨rfl, rfl⟩) | (go_at_call 51; refine (dc_errp _ _ _ F.out (S1.out _ S2.out).2.1.1 (S1.out _ S2.out).2.1.2).mono ?_; rintro e w' ⟨v, rfl, hb⟩))
  go_wp2
  go_ret2
  exact ⟨_, rfl, S3.out _ (by assumption)⟩

/-- The world in which the closure is called. -/
def floor_W (w : World) (x : Nat) : World := ((w.alloc (.cells #[.func (.func 54) #[] #[]] 34)).alloc zeroI).alloc (.cells #[.float .f64 x] 86)
theorem floor_below (w : World) (x : Nat) : Below w.heap.size w (floor_W w x) := (((Below.refl _ _).alloc (Nat.le_refl _) _).alloc (by simp) _).alloc (by simp; omega) _
theorem floor_size (w : World) (x : Nat) : (floor_W w x).heap.size = w.heap.size + 3 := by simp [floor_W]
theorem floor_7 (w : World) (x : Nat) : (floor_W w x).cell? ⟨w.heap.size + 1, 7, none⟩ = some (.slice none 0 0) := by simp [floor_W, zeroI, go_sem]
theorem floor_5 (w : World) (x : Nat) : (floor_W w x).cell? ⟨w.heap.size + 1, 5, none⟩ = some (.pointer none) := by simp [floor_W, zeroI, go_sem]
theorem floor_x (w : World) (x : Nat) : (floor_W w x).cell? ⟨w.heap.size + 1 + 1, 0, none⟩ = some (.float .f64 x) := by simp [floor_W, go_sem]
theorem floor_f (w : World) (x : Nat) : (floor_W w x).cell? ⟨w.heap.size, 0, none⟩ = some (.func (.func 54) #[] #[]) := by simp [floor_W, zeroI, go_sem]

theorem floor_part_ok (x : Nat) (w : World) (r : World → Nat) (d : World → World) (hd : ∀ w, d w = w ∨ d w = w.drew) (hF : ∀ w, Calls Try.prog 54 #[.float .f64 x] w (FPost r d w)) (hf : finB (r (floor_W w x).drew) = true) :
    Calls Try.prog 26 #[.float .f64 x] w fun e w' => e = .returned (.tuple #[.float .f64 (r (floor_W w x).drew), .nilIface]) ∧ Below w.heap.size w w' := by
  have HC := Lib.hid (floor_clo_ok (w.heap.size + 1) (w.heap.size + 1 + 1) w.heap.size x (floor_W w x) r d hd hF hf (floor_x w x) (floor_f w x))
  have HB := Lib.hid ((floor_below w x).trans ((step_of hd (w := floor_W w x)).mono (floor_below w x).size))
  clear hf hF hd
  generalize r (floor_W w x).drew = rr at HC ⊢
  go_enter Try.func26, Try.ntmps26
  go_wp2_with (first | (go_at_call 37; refine (num_any _ _).mono ?_; rintro e w' ⟨rfl, rfl⟩) | (go_at_call 41; refine (floor_lift _).mono ?_; rintro e w' ⟨rfl, rfl⟩))
  refine HC.out.mono ?_
  rintro e w' ⟨rfl, rfl⟩
  generalize d (floor_W w x).drew = W at HB ⊢
  clear HC
  go_wp2_with (go_at_call 35; refine (numOf_ok rr _ _ (by simp [go_sem])).mono ?_; rintro e w' ⟨rfl, rfl⟩)
  go_ret2
  exact ⟨rfl, HB.out.alloc HB.out.size _⟩

theorem floor_part_err (x : Nat) (w : World) (r : World → Nat) (d : World → World) (hd : ∀ w, d w = w ∨ d w = w.drew) (hF : ∀ w, Calls Try.prog 54 #[.float .f64 x] w (FPost r d w)) (hf : finB (r (floor_W w x).drew) = false) :
    Calls Try.prog 26 #[.float .f64 x] w (ErrPost2 w) := by
  have HC := Lib.hid (floor_clo_err (w.heap.size + 1) (w.heap.size + 1 + 1) w.heap.size x (floor_W w x) r d hd hF hf (floor_x w x) (floor_f w x) (floor_7 w x) (floor_5 w x))
  clear hf hF hd
  go_enter Try.func26, Try.ntmps26
  go_wp2_with (first | (go_at_call 37; refine (num_any _ _).mono ?_; rintro e w' ⟨rfl, rfl⟩) | (go_at_call 41; refine (floor_lift _).mono ?_; rintro e w' ⟨rfl, rfl⟩))
  refine HC.out.mono ?_
  rintro e W ⟨v, rfl, hb⟩
  have HB := Lib.hid ((floor_below w x).trans (hb.mono (floor_below w x).size))
  clear hb HC
  go_wp2_with (go_at_call 35; refine (numOf_err 99 v _).mono ?_; rintro e w' ⟨rfl, rfl⟩)
  go_ret2
  exact ⟨v, rfl, HB.out⟩

/-- What the door tells: the float and true, if it is finite; else an error. -/
theorem floor_any (x : Nat) (w : World) (r : World → Nat) (d : World → World) (hd : ∀ w, d w = w ∨ d w = w.drew) (hF : ∀ w, Calls Try.prog 54 #[.float .f64 x] w (FPost r d w)) :
    Calls Try.prog 15 #[.float .f64 x] w fun e w' => e = .returned (.tuple #[.float .f64 (if finB (r (floor_W w x).drew) then r (floor_W w x).drew else 0), .bool (finB (r (floor_W w x).drew))]) ∧ Below w.heap.size w w' := by
  cases hf : finB (r (floor_W w x).drew)
  · have HC := Lib.hid (floor_part_err x w r d hd hF hf)
    clear hf hF hd
    simp only [Bool.false_eq_true, if_false]
    go_enter Try.func15, Try.ntmps15
    go_wp2_with fail
    refine HC.out.mono ?_
    rintro e W ⟨v, rfl, hb⟩
    have HB := Lib.hid hb
    clear hb
    go_wp2_with (go_at_call 21; refine (number_err 0 99 v _).mono ?_; rintro e w' ⟨rfl, rfl⟩)
    go_ret2
    exact ⟨rfl, HB.out⟩
  · have HC := Lib.hid (floor_part_ok x w r d hd hF hf)
    clear hf hF hd
    simp only [if_true]
    generalize r (floor_W w x).drew = rr at HC ⊢
    go_enter Try.func15, Try.ntmps15
    go_wp2_with fail
    refine HC.out.mono ?_
    rintro e W ⟨rfl, hb⟩
    have HB := Lib.hid hb
    clear hb
    go_wp2_with (go_at_call 21; refine (number_ok rr _).mono ?_; rintro e w' ⟨rfl, rfl⟩)
    go_ret2
    exact ⟨rfl, HB.out⟩

theorem floor_run (x : Nat) : ∃ (r : World → Nat) (d : World → World), (∀ w, d w = w ∨ d w = w.drew) ∧ (∀ w, (callFunc 62 #[.float .f64 x]).run Try.prog w = .ok (.value (.float .f64 (r w))) (d w)) ∧
    ∀ s m i, FloatKind.f64.decode x = .number s m i → ∀ w, r w = FloatKind.f64.encode ((Ieee.Datum.number s m i).integral .down) := by
  obtain ⟨r, d, h1, h2, h3⟩ := whole_run "math.archFloor" .down x
  refine ⟨r, d, h1, fun w => ?_, h3⟩
  rw [run_callFunc_extern (e := Extern.MathFloor.toIntegral "math.archFloor" .down) Try.func62 (by kernel_rfl) (by kernel_rfl) (by kernel_rfl) (by kernel_rfl) #[.float .f64 x] w, h2]
  rfl
theorem floor_fn (x : Nat) (r : World → Nat) (d : World → World) (ht : ∀ w, (callFunc 62 #[.float .f64 x]).run Try.prog w = .ok (.value (.float .f64 (r w))) (d w)) (w : World) : Calls Try.prog 54 #[.float .f64 x] w (FPost r d w) := by
  go_enter Try.func54, Try.ntmps54
  go_wp2
  go_ret
  exact ⟨rfl, rfl⟩
end Go.Proofs.Ytkagijlbmojbcaa.turned

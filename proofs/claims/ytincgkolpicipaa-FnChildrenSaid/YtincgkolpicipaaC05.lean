/- FnChildren: spec.bare by contract. -/
import Derived.Test.YtincgkolpicipaaC04
import Derived.Deep.RegionHeld3
import Derived.Deep.DeepCutAuto
set_option linter.unusedVariables false
set_option linter.unusedSimpArgs false
namespace Go.Proofs.Ytincgkolpicipaa.kin
open Go.RowKit
open Go.Proofs.Ytincgkolpicipaa.stack (step_after AnyBool AnyInt add_off owns_form)
/-- What Bar asks of a kind. -/
theorem Bar.other {k o m z : Int} {t : ByteArray} (h9 : k ≠ 9) (h25 : k ≠ 25) (h32 : k ≠ 32) (h37 : k ≠ 37) (h22 : k ≠ 22) (h23 : k ≠ 23) (h35 : k ≠ 35) : Bar ⟨k, o, t, m, z⟩ :=
  ⟨fun h => absurd h h9, fun h => absurd h h25, fun h => absurd h h32, fun h => absurd h h37, fun h => absurd h h22, fun h => absurd h h23, fun h => absurd h h35⟩
theorem Bar.flag {k o m z : Int} {t : ByteArray} (hk : k = 9 ∨ k = 25 ∨ k = 32 ∨ k = 37) (hm : m = 0 ∨ m = 1) : Bar ⟨k, o, t, m, z⟩ :=
  ⟨fun _ => hm, fun _ => hm, fun _ => hm, fun _ => hm, fun h => by simp at h; omega, fun h => by simp at h; omega, fun h => by simp at h; omega⟩
theorem Bar.of22 {o m z : Int} {t : ByteArray} (h : 1 ≤ o ∧ o ≤ 4) : Bar ⟨22, o, t, m, z⟩ :=
  ⟨fun h => by simp at h, fun h => by simp at h, fun h => by simp at h, fun h => by simp at h, fun _ => h, fun h => by simp at h, fun h => by simp at h⟩
theorem Bar.of23 {o m z : Int} {t : ByteArray} (h : 1 ≤ o ∧ o ≤ 19) : Bar ⟨23, o, t, m, z⟩ :=
  ⟨fun h => by simp at h, fun h => by simp at h, fun h => by simp at h, fun h => by simp at h, fun h => by simp at h, fun _ => h, fun h => by simp at h⟩
theorem Bar.of35 {o m z : Int} {t : ByteArray} (h : FB o m) : Bar ⟨35, o, t, m, z⟩ :=
  ⟨fun h => by simp at h, fun h => by simp at h, fun h => by simp at h, fun h => by simp at h, fun h => by simp at h, fun h => by simp at h, fun _ => h⟩
abbrev bareArgs (k o m z : Int) (t : ByteArray) : Array Value := #[.agg #[.int .i64 k, .int .i64 o, .string t, .int .i64 m, .int .i64 z]]
/-- The cells of a node that lies alone in a block. -/
def Box (W : World) (b : Nat) (k o m z : Int) (t : ByteArray) : Prop :=
  W.cell? ⟨b, 0, none⟩ = some (.int .i64 k) ∧ W.cell? ⟨b, 1, none⟩ = some (.int .i64 o) ∧ W.cell? ⟨b, 2, none⟩ = some (.string t) ∧ W.cell? ⟨b, 3, none⟩ = some (.int .i64 m) ∧ W.cell? ⟨b, 4, none⟩ = some (.int .i64 z)
theorem Box.later {W W' : World} {b : Nat} {k o m z : Int} {t : ByteArray} (h : Box W b k o m z t) (hb : Below W.heap.size W W') : Box W' b k o m z t :=
  ⟨cell_later hb h.1, cell_later hb h.2.1, cell_later hb h.2.2.1, cell_later hb h.2.2.2.1, cell_later hb h.2.2.2.2⟩
set_option maxRecDepth 100000 in
set_option maxHeartbeats 4000000 in
theorem bare_other (k o m z : Int) (t : ByteArray) (w : World) (e4 : (k == 4) = false) (e5 : (k == 5) = false) (e26 : (k == 26) = false) (e27 : (k == 27) = false) (e28 : (k == 28) = false) (e8 : (k == 8) = false) (e16 : (k == 16) = false) (e33 : (k == 33) = false) (e38 : (k == 38) = false) (e32 : (k == 32) = false) (e34 : (k == 34) = false) (e9 : (k == 9) = false) (e18 : (k == 18) = false) (e25 : (k == 25) = false) (e37 : (k == 37) = false) (e22 : (k == 22) = false) (e23 : (k == 23) = false) (e35 : (k == 35) = false) :
    Calls Try.prog 57 (bareArgs k o m z t) w fun r w' => AnyBool r ∧ Below w.heap.size w w' := by
  go_enter Try.func57, Try.ntmps57
  go_upto_region 1 with fail
  go_cut [3, 4, 5] (fun a b c wx => (a = .bool (m == 0) ∧ b = .bool (o == 0) ∧ c = .bool t.toList.isEmpty) ∧ Box wx w.heap.size k o m z t ∧ Below w.heap.size w wx)
  case first =>
    go_quiet (fail)
    go_wp2
    go_meet
    exact ⟨⟨rfl, rfl, rfl⟩, ⟨by simp [World.cell?_alloc_new], by simp [World.cell?_alloc_new], by simp [World.cell?_alloc_new], by simp [World.cell?_alloc_new], by simp [World.cell?_alloc_new]⟩, bdn ((Below.refl _ _).alloc (Nat.le_refl _) _) _⟩
  case rest =>
    obtain ⟨⟨rfl, rfl, rfl⟩, ⟨b0, b1, b2, b3, b4⟩, hb⟩ := hcut
    have HB := Lib.hid hb
    clear hb
    cases t1 : (m == 0)
    · go_wp2
      go_ret
      exact ⟨⟨_, rfl⟩, HB.out⟩
    cases t2 : (o == 0)
    all_goals
      go_wp2
      go_ret
      exact ⟨⟨_, rfl⟩, HB.out⟩
set_option maxRecDepth 100000 in
set_option maxHeartbeats 4000000 in
theorem bare_ident (k o m z : Int) (t : ByteArray) (hs : t.size ≤ 4000) (w : World) (hk : k = 8 ∨ k = 16 ∨ k = 33 ∨ k = 38) :
    Calls Try.prog 57 (bareArgs k o m z t) w fun r w' => AnyBool r ∧ Below w.heap.size w w' := by
  have H1 := Lib.hid (fun w' (hb : Below w.heap.size w w') => (identifier_any t hs w').mono (R' := fun r w1 => AnyBool r ∧ Below w.heap.size w w1) fun r w1 h => ⟨h.1, step_after hb h.2⟩)
  clear hs
  go_enter Try.func57, Try.ntmps57
  go_upto_region 1 with fail
  go_cut [3, 4, 5] (fun a b c wx => (a = .bool (m == 0) ∧ b = .bool (o == 0) ∧ c = .bool t.toList.isEmpty) ∧ Box wx w.heap.size k o m z t ∧ Below w.heap.size w wx)
  case first =>
    go_quiet (fail)
    go_wp2
    go_meet
    exact ⟨⟨rfl, rfl, rfl⟩, ⟨by simp [World.cell?_alloc_new], by simp [World.cell?_alloc_new], by simp [World.cell?_alloc_new], by simp [World.cell?_alloc_new], by simp [World.cell?_alloc_new]⟩, bdn ((Below.refl _ _).alloc (Nat.le_refl _) _) _⟩
  case rest =>
    obtain ⟨⟨rfl, rfl, rfl⟩, ⟨b0, b1, b2, b3, b4⟩, hb⟩ := hcut
    have HB := Lib.hid hb
    clear hb
    rcases hk with rfl | rfl | rfl | rfl
    all_goals
      cases t1 : (m == 0)
      · go_wp2_with (go_at_call 71; refine (H1.out _ HB.out).mono ?_; rintro r w1 ⟨⟨b, rfl⟩, hb⟩; have HB1 := Lib.hid hb; clear hb)
        go_ret
        exact ⟨⟨_, rfl⟩, HB1.out⟩
      cases t2 : (o == 0)
      all_goals
        go_wp2_with (go_at_call 71; refine (H1.out _ HB.out).mono ?_; rintro r w1 ⟨⟨b, rfl⟩, hb⟩; have HB1 := Lib.hid hb; clear hb)
        go_ret
        exact ⟨⟨_, rfl⟩, HB1.out⟩
set_option maxRecDepth 100000 in
set_option maxHeartbeats 4000000 in
theorem bare_points (k o m z : Int) (t : ByteArray) (hs : t.size ≤ 4000) (w : World) (hk : k = 26 ∨ k = 27 ∨ k = 28) :
    Calls Try.prog 57 (bareArgs k o m z t) w fun r w' => AnyBool r ∧ Below w.heap.size w w' := by
  have H1 := Lib.hid (fun w' (hb : Below w.heap.size w w') => (points_any t hs w').mono (R' := fun r w1 => AnyBool r ∧ Below w.heap.size w w1) fun r w1 h => ⟨h.1, step_after hb h.2⟩)
  clear hs
  go_enter Try.func57, Try.ntmps57
  go_upto_region 1 with fail
  go_cut [3, 4, 5] (fun a b c wx => (a = .bool (m == 0) ∧ b = .bool (o == 0) ∧ c = .bool t.toList.isEmpty) ∧ Box wx w.heap.size k o m z t ∧ Below w.heap.size w wx)
  case first =>
    go_quiet (fail)
    go_wp2
    go_meet
    exact ⟨⟨rfl, rfl, rfl⟩, ⟨by simp [World.cell?_alloc_new], by simp [World.cell?_alloc_new], by simp [World.cell?_alloc_new], by simp [World.cell?_alloc_new], by simp [World.cell?_alloc_new]⟩, bdn ((Below.refl _ _).alloc (Nat.le_refl _) _) _⟩
  case rest =>
    obtain ⟨⟨rfl, rfl, rfl⟩, ⟨b0, b1, b2, b3, b4⟩, hb⟩ := hcut
    have HB := Lib.hid hb
    clear hb
    rcases hk with rfl | rfl | rfl
    all_goals
      cases t1 : (m == 0)
      · go_wp2_with (go_at_call 70; refine (H1.out _ HB.out).mono ?_; rintro r w1 ⟨⟨b, rfl⟩, hb⟩; have HB1 := Lib.hid hb; clear hb)
        go_ret
        exact ⟨⟨_, rfl⟩, HB1.out⟩
      cases t2 : (o == 0)
      all_goals
        go_wp2_with (go_at_call 70; refine (H1.out _ HB.out).mono ?_; rintro r w1 ⟨⟨b, rfl⟩, hb⟩; have HB1 := Lib.hid hb; clear hb)
        go_ret
        exact ⟨⟨_, rfl⟩, HB1.out⟩
set_option maxRecDepth 100000 in
set_option maxHeartbeats 4000000 in
theorem bare_22 (o m z : Int) (t : ByteArray) (w : World) :
    Calls Try.prog 57 (bareArgs 22 o m z t) w fun r w' => Says r (Bar ⟨22, o, t, m, z⟩) ∧ Below w.heap.size w w' := by
  go_enter Try.func57, Try.ntmps57
  go_upto_region 1 with fail
  go_cut [3, 4, 5] (fun a b c wx => (a = .bool (m == 0) ∧ b = .bool (o == 0) ∧ c = .bool t.toList.isEmpty) ∧ Box wx w.heap.size 22 o m z t ∧ Below w.heap.size w wx)
  case first =>
    go_quiet (fail)
    go_wp2
    go_meet
    exact ⟨⟨rfl, rfl, rfl⟩, ⟨by simp [World.cell?_alloc_new], by simp [World.cell?_alloc_new], by simp [World.cell?_alloc_new], by simp [World.cell?_alloc_new], by simp [World.cell?_alloc_new]⟩, bdn ((Below.refl _ _).alloc (Nat.le_refl _) _) _⟩
  case rest =>
    obtain ⟨⟨rfl, rfl, rfl⟩, ⟨b0, b1, b2, b3, b4⟩, hb⟩ := hcut
    have HB := Lib.hid hb
    clear hb
    by_cases h1 : 1 ≤ o
    · have u1 : decide (1 ≤ o) = true := decide_eq_true h1
      by_cases h2 : o ≤ 4
      · have u2 : decide (o ≤ 4) = true := decide_eq_true h2
        have HF := Lib.hid (And.intro h1 h2)
        clear h1 h2
        cases t1 : (m == 0)
        all_goals
          go_wp2
          go_ret
          exact ⟨⟨_, rfl, fun _ => .of22 HF.out⟩, HB.out⟩
      · have u2 : decide (o ≤ 4) = false := decide_eq_false h2
        clear h1 h2
        cases t1 : (m == 0)
        all_goals
          go_wp2
          go_ret
          exact ⟨.no, HB.out⟩
    · have u1 : decide (1 ≤ o) = false := decide_eq_false h1
      clear h1
      cases t1 : (m == 0)
      all_goals
        go_wp2
        go_ret
        exact ⟨.no, HB.out⟩
set_option maxRecDepth 100000 in
set_option maxHeartbeats 4000000 in
theorem bare_23 (o m z : Int) (t : ByteArray) (w : World) :
    Calls Try.prog 57 (bareArgs 23 o m z t) w fun r w' => Says r (Bar ⟨23, o, t, m, z⟩) ∧ Below w.heap.size w w' := by
  go_enter Try.func57, Try.ntmps57
  go_upto_region 1 with fail
  go_cut [3, 4, 5] (fun a b c wx => (a = .bool (m == 0) ∧ b = .bool (o == 0) ∧ c = .bool t.toList.isEmpty) ∧ Box wx w.heap.size 23 o m z t ∧ Below w.heap.size w wx)
  case first =>
    go_quiet (fail)
    go_wp2
    go_meet
    exact ⟨⟨rfl, rfl, rfl⟩, ⟨by simp [World.cell?_alloc_new], by simp [World.cell?_alloc_new], by simp [World.cell?_alloc_new], by simp [World.cell?_alloc_new], by simp [World.cell?_alloc_new]⟩, bdn ((Below.refl _ _).alloc (Nat.le_refl _) _) _⟩
  case rest =>
    obtain ⟨⟨rfl, rfl, rfl⟩, ⟨b0, b1, b2, b3, b4⟩, hb⟩ := hcut
    have HB := Lib.hid hb
    clear hb
    by_cases h1 : 1 ≤ o
    · have u1 : decide (1 ≤ o) = true := decide_eq_true h1
      by_cases h2 : o ≤ 19
      · have u2 : decide (o ≤ 19) = true := decide_eq_true h2
        have HF := Lib.hid (And.intro h1 h2)
        clear h1 h2
        cases t1 : (m == 0)
        all_goals
          go_wp2
          go_ret
          exact ⟨⟨_, rfl, fun _ => .of23 HF.out⟩, HB.out⟩
      · have u2 : decide (o ≤ 19) = false := decide_eq_false h2
        clear h1 h2
        cases t1 : (m == 0)
        all_goals
          go_wp2
          go_ret
          exact ⟨.no, HB.out⟩
    · have u1 : decide (1 ≤ o) = false := decide_eq_false h1
      clear h1
      cases t1 : (m == 0)
      all_goals
        go_wp2
        go_ret
        exact ⟨.no, HB.out⟩
set_option maxRecDepth 100000 in
set_option maxHeartbeats 4000000 in
theorem bare_flag (k o m z : Int) (t : ByteArray) (w : World) (hk : k = 18 ∨ k = 25 ∨ k = 37) :
    Calls Try.prog 57 (bareArgs k o m z t) w fun r w' => Says r (m = 0 ∨ m = 1) ∧ Below w.heap.size w w' := by
  go_enter Try.func57, Try.ntmps57
  go_upto_region 1 with fail
  go_cut [3, 4, 5] (fun a b c wx => (a = .bool (m == 0) ∧ b = .bool (o == 0) ∧ c = .bool t.toList.isEmpty) ∧ Box wx w.heap.size k o m z t ∧ Below w.heap.size w wx)
  case first =>
    go_quiet (fail)
    go_wp2
    go_meet
    exact ⟨⟨rfl, rfl, rfl⟩, ⟨by simp [World.cell?_alloc_new], by simp [World.cell?_alloc_new], by simp [World.cell?_alloc_new], by simp [World.cell?_alloc_new], by simp [World.cell?_alloc_new]⟩, bdn ((Below.refl _ _).alloc (Nat.le_refl _) _) _⟩
  case rest =>
    obtain ⟨⟨rfl, rfl, rfl⟩, ⟨b0, b1, b2, b3, b4⟩, hb⟩ := hcut
    have HB := Lib.hid hb
    clear hb
    rcases hk with rfl | rfl | rfl
    all_goals
      cases t1 : (m == 0)
      · cases t3 : (m == 1)
        · go_wp2
          go_ret
          exact ⟨.no, HB.out⟩
        · cases t2 : (o == 0)
          all_goals
            go_wp2
            go_ret
            exact ⟨⟨_, rfl, fun _ => .inr (by simpa using t3)⟩, HB.out⟩
      · cases t2 : (o == 0)
        all_goals
          go_wp2
          go_ret
          exact ⟨⟨_, rfl, fun _ => .inl (by simpa using t1)⟩, HB.out⟩
set_option maxRecDepth 100000 in
set_option maxHeartbeats 4000000 in
theorem bare_35 (o m z : Int) (t : ByteArray) (hs : t.size ≤ 4000) (w : World) :
    Calls Try.prog 57 (bareArgs 35 o m z t) w fun r w' => Says r (FB o m) ∧ Below w.heap.size w w' := by
  have H1 := Lib.hid (fun w' (hb : Below w.heap.size w w') => (fieldBare_says 35 o m z t hs w').mono (R' := fun r w1 => Says r (FB o m) ∧ Below w.heap.size w w1) fun r w1 h => ⟨h.1, step_after hb h.2⟩)
  clear hs
  go_enter Try.func57, Try.ntmps57
  go_upto_region 1 with fail
  go_cut [3, 4, 5] (fun a b c wx => (a = .bool (m == 0) ∧ b = .bool (o == 0) ∧ c = .bool t.toList.isEmpty) ∧ Box wx w.heap.size 35 o m z t ∧ Below w.heap.size w wx)
  case first =>
    go_quiet (fail)
    go_wp2
    go_meet
    exact ⟨⟨rfl, rfl, rfl⟩, ⟨by simp [World.cell?_alloc_new], by simp [World.cell?_alloc_new], by simp [World.cell?_alloc_new], by simp [World.cell?_alloc_new], by simp [World.cell?_alloc_new]⟩, bdn ((Below.refl _ _).alloc (Nat.le_refl _) _) _⟩
  case rest =>
    obtain ⟨⟨rfl, rfl, rfl⟩, ⟨b0, b1, b2, b3, b4⟩, hb⟩ := hcut
    have HB := Lib.hid hb
    clear hb
    go_wp2_with (go_at_call 72; refine (H1.out _ HB.out).mono ?_; rintro r w1 ⟨⟨b, rfl, hbb⟩, hb⟩; have HB1 := Lib.hid hb; have HBB := Lib.hid hbb; clear hb hbb)
    go_ret
    exact ⟨⟨_, rfl, HBB.out⟩, HB1.out⟩
end Go.Proofs.Ytincgkolpicipaa.kin
